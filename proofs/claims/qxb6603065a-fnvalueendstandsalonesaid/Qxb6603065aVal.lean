import Derived.Test.Qxb6603065aObj
namespace Go.Proofs.Qxb6603065a
open Go.RowKit

theorem lit_nods {G : Nat → Int} {k0 : Nat} (s : ByteArray) (h : ∀ p (h : p < s.size), G (k0 + p) = (s[p].toNat : Int)) (hs : ∀ p (h : p < s.size), Pl.Nod (s[p].toNat : Int)) : Pl.Nods G k0 (k0 + s.size) := by
  intro p h1 h2
  have := h (p - k0) (by omega)
  rw [show k0 + (p - k0) = p from by omega] at this
  rw [this]
  exact hs _ _
theorem nod_true : ∀ p (h : p < (ByteArray.mk #[116, 114, 117, 101]).size), Pl.Nod ((ByteArray.mk #[116, 114, 117, 101])[p].toNat : Int) := by
  intro p h
  have h2 : p < 4 := h
  have : p = 0 ∨ p = 1 ∨ p = 2 ∨ p = 3 := by omega
  rcases this with rfl | rfl | rfl | rfl
  · exact (by unfold Pl.Nod; decide : Pl.Nod 116)
  · exact (by unfold Pl.Nod; decide : Pl.Nod 114)
  · exact (by unfold Pl.Nod; decide : Pl.Nod 117)
  · exact (by unfold Pl.Nod; decide : Pl.Nod 101)
theorem nod_false : ∀ p (h : p < (ByteArray.mk #[102, 97, 108, 115, 101]).size), Pl.Nod ((ByteArray.mk #[102, 97, 108, 115, 101])[p].toNat : Int) := by
  intro p h
  have h2 : p < 5 := h
  have : p = 0 ∨ p = 1 ∨ p = 2 ∨ p = 3 ∨ p = 4 := by omega
  rcases this with rfl | rfl | rfl | rfl | rfl
  · exact (by unfold Pl.Nod; decide : Pl.Nod 102)
  · exact (by unfold Pl.Nod; decide : Pl.Nod 97)
  · exact (by unfold Pl.Nod; decide : Pl.Nod 108)
  · exact (by unfold Pl.Nod; decide : Pl.Nod 115)
  · exact (by unfold Pl.Nod; decide : Pl.Nod 101)
theorem nod_null : ∀ p (h : p < (ByteArray.mk #[110, 117, 108, 108]).size), Pl.Nod ((ByteArray.mk #[110, 117, 108, 108])[p].toNat : Int) := by
  intro p h
  have h2 : p < 4 := h
  have : p = 0 ∨ p = 1 ∨ p = 2 ∨ p = 3 := by omega
  rcases this with rfl | rfl | rfl | rfl
  · exact (by unfold Pl.Nod; decide : Pl.Nod 110)
  · exact (by unfold Pl.Nod; decide : Pl.Nod 117)
  · exact (by unfold Pl.Nod; decide : Pl.Nod 108)
  · exact (by unfold Pl.Nod; decide : Pl.Nod 108)

set_option maxHeartbeats 400000 in
theorem val_out (G : Nat → Int) (b n c : Nat) (k0 : Nat) (hk : n ≤ k0) : Says 24 G b n c k0 := by
  intro i w hi _
  subst hi
  have h0 : decide ((k0 : Int) < 0) = false := by simp
  have h1 : decide ((n : Int) ≤ (k0 : Int)) = true := by simp; omega
  go_enter Try.func24, Try.ntmps24
  go_wp2_with fail
  go_ret
  exact ⟨Dr.refl _, _, rfl, .inl rfl⟩

set_option maxRecDepth 100000 in
set_option maxHeartbeats 1000000 in
theorem val_step (G : Nat → Int) (b n c : Nat) (hn : n ≤ 1048576) (k0 : Nat) (hk : k0 < n) (ih : ∀ k, k0 < k → Says 24 G b n c k) : Says 24 G b n c k0 := by
  intro i w hi hc
  subst hi
  have h0 : decide ((k0 : Int) < 0) = false := by simp
  have h1 : decide ((n : Int) ≤ (k0 : Int)) = false := by simp; omega
  have hcell := hc k0 hk
  by_cases h34 : G k0 = 34
  · have a1 : (G k0 == 34) = true := by simp [h34]
    have H34 : Hid (G k0 = 34) := h34
    clear h34
    go_enter Try.func24, Try.ntmps24
    go_wp2_with fail
    refine (lex_any G b n c _ k0 rfl w hn hk hc).mono ?_
    rintro e w' ⟨rfl, r, rfl, hr⟩
    go_wp2_with fail
    go_ret
    refine ⟨Dr.refl _, _, rfl, ?_⟩
    rcases hr with h | ⟨J, h, hJ, hS⟩
    · exact .inl h
    · exact .inr ⟨J, h, by have := hS.lt; omega, hJ, Pl.Val.of_str H34.out hS⟩
  have a1 : (G k0 == 34) = false := by simp [h34]
  by_cases h123 : G k0 = 123
  · have a2 : (G k0 == 123) = true := by simp [h123]
    have hO := obj_any G b n c hn k0 hk h123 ih
    clear h123 h34 ih
    go_enter Try.func24, Try.ntmps24
    go_wp2_with fail
    refine (hO _ w rfl hc).mono ?_
    rintro e w' ⟨hD, r, rfl, hr⟩
    go_wp2_with fail
    go_ret
    exact ⟨hD, _, rfl, hr⟩
  have a2 : (G k0 == 123) = false := by simp [h123]
  by_cases h91 : G k0 = 91
  · have a3 : (G k0 == 91) = true := by simp [h91]
    have hO := arr_any G b n c hn k0 hk h91 ih
    clear h91 h123 h34 ih
    go_enter Try.func24, Try.ntmps24
    go_wp2_with fail
    refine (hO _ w rfl hc).mono ?_
    rintro e w' ⟨hD, r, rfl, hr⟩
    go_wp2_with fail
    go_ret
    exact ⟨hD, _, rfl, hr⟩
  have a3 : (G k0 == 91) = false := by simp [h91]
  clear ih h34 h123 h91
  by_cases h116 : G k0 = 116
  · have a4 : (G k0 == 116) = true := by simp [h116]
    clear h116
    go_enter Try.func24, Try.ntmps24
    go_wp2_with fail
    refine (lit_any G b n c _ k0 rfl _ (by decide) w hn hk hc).mono ?_
    rintro e w' ⟨hD, r, rfl, hr⟩
    go_wp2_with fail
    go_ret
    refine ⟨hD, _, rfl, ?_⟩
    rcases hr with h | ⟨J, h, hJ, hJn, hS⟩
    · exact .inl h
    · refine .inr ⟨J, h, ?_, hJn, ?_⟩
      · rw [hJ]; exact Nat.lt_add_of_pos_right (by decide)
      · rw [hJ]; exact Pl.Val.of_nods (Nat.lt_add_of_pos_right (by decide)) (lit_nods _ hS nod_true)
  have a4 : (G k0 == 116) = false := by simp [h116]
  by_cases h102 : G k0 = 102
  · have a5 : (G k0 == 102) = true := by simp [h102]
    clear h102 h116
    go_enter Try.func24, Try.ntmps24
    go_wp2_with fail
    refine (lit_any G b n c _ k0 rfl _ (by decide) w hn hk hc).mono ?_
    rintro e w' ⟨hD, r, rfl, hr⟩
    go_wp2_with fail
    go_ret
    refine ⟨hD, _, rfl, ?_⟩
    rcases hr with h | ⟨J, h, hJ, hJn, hS⟩
    · exact .inl h
    · refine .inr ⟨J, h, ?_, hJn, ?_⟩
      · rw [hJ]; exact Nat.lt_add_of_pos_right (by decide)
      · rw [hJ]; exact Pl.Val.of_nods (Nat.lt_add_of_pos_right (by decide)) (lit_nods _ hS nod_false)
  have a5 : (G k0 == 102) = false := by simp [h102]
  by_cases h110 : G k0 = 110
  · have a6 : (G k0 == 110) = true := by simp [h110]
    clear h110 h102 h116
    go_enter Try.func24, Try.ntmps24
    go_wp2_with fail
    refine (lit_any G b n c _ k0 rfl _ (by decide) w hn hk hc).mono ?_
    rintro e w' ⟨hD, r, rfl, hr⟩
    go_wp2_with fail
    go_ret
    refine ⟨hD, _, rfl, ?_⟩
    rcases hr with h | ⟨J, h, hJ, hJn, hS⟩
    · exact .inl h
    · refine .inr ⟨J, h, ?_, hJn, ?_⟩
      · rw [hJ]; exact Nat.lt_add_of_pos_right (by decide)
      · rw [hJ]; exact Pl.Val.of_nods (Nat.lt_add_of_pos_right (by decide)) (lit_nods _ hS nod_null)
  have a6 : (G k0 == 110) = false := by simp [h110]
  clear h110 h102 h116
  go_enter Try.func24, Try.ntmps24
  go_wp2_with fail
  refine (num_any G b n c _ k0 rfl w hn hk hc).mono ?_
  rintro e w' ⟨rfl, r, rfl, hr⟩
  go_wp2_with fail
  go_ret
  refine ⟨Dr.refl _, _, rfl, ?_⟩
  rcases hr with h | ⟨J, h, hJ, hJn, hS⟩
  · exact .inl h
  · exact .inr ⟨J, h, hJ, hJn, Pl.Val.of_nods hJ hS⟩

/-- zzValue_sjb1 -/
theorem val_any (G : Nat → Int) (b n c : Nat) (hn : n ≤ 1048576) (m : Nat) : ∀ k0, n ≤ k0 + m → Says 24 G b n c k0 := by
  induction m with
  | zero => intro k0 h; exact val_out G b n c k0 h
  | succ m ih =>
    intro k0 h
    by_cases hk : k0 < n
    · exact val_step G b n c hn k0 hk (fun k hk2 => ih k (by omega))
    · exact val_out G b n c k0 (by omega)

set_option maxHeartbeats 400000 in
/-- zzValueDomain_sjb1 beyond the row -/
theorem dom_out (a : Option Addr) (n c : Nat) (i : Int) (w : World) (hi : i < 0 ∨ (n : Int) ≤ i) :
    Calls Try.prog 20 #[.slice a n c, .int .i64 i] w fun e w' => w' = w ∧ e = .returned (.int .i64 (-1)) := by
  by_cases h0 : i < 0
  · have g0 : decide (i < 0) = true := by simpa using h0
    go_enter Try.func20, Try.ntmps20
    go_wp2_with fail
    go_ret
    exact ⟨rfl, rfl⟩
  · have g0 : decide (i < 0) = false := by simpa using h0
    have g1 : decide ((n : Int) ≤ i) = true := by simp; omega
    go_enter Try.func20, Try.ntmps20
    go_wp2_with fail
    go_ret
    exact ⟨rfl, rfl⟩

set_option maxHeartbeats 1000000 in
/-- zzValueDomain_sjb1 -/
theorem dom_any (G : Nat → Int) (b n c : Nat) (hn : n ≤ 1048576) (i : Int) (k0 : Nat) (w : World) (hi : i = k0) (hk : k0 < n) (hc : ∀ i, i < n → w.cell? ⟨b, i, none⟩ = some (.int .u8 (G i))) :
    Calls Try.prog 20 #[.slice (some ⟨b, 0, none⟩) n c, .int .i64 i] w fun e w' => Dr w w' ∧ ∃ r : Int, e = .returned (.int .i64 r) ∧ (r = -1 ∨ ∃ J : Nat, r = J ∧ J ≤ n ∧ Pl.Val G k0 J ∧ Pl.Ends G k0 J n) := by
  subst hi
  have h0 : decide ((k0 : Int) < 0) = false := by simp
  have h1 : decide ((n : Int) ≤ (k0 : Int)) = false := by simp; omega
  have HC : Hid (∀ i, i < n → w.cell? ⟨b, i, none⟩ = some (.int .u8 (G i))) := hc
  go_enter Try.func20, Try.ntmps20
  go_wp2_with fail
  refine (val_any G b n c hn n k0 (by omega) _ w rfl hc).mono ?_
  rintro e w1 ⟨hD, r, rfl, hr⟩
  rcases hr with rfl | ⟨J, rfl, hJ1, hJ2, hV⟩
  · go_wp2_with fail
    go_ret
    exact ⟨hD, _, rfl, .inl rfl⟩
  have hc1 : ∀ i, i < n → w1.cell? ⟨b, i, none⟩ = some (.int .u8 (G i)) := fun i hi => by rw [hD.cell]; exact HC.out i hi
  have hcell := hc1 k0 hk
  clear hc
  by_cases h3 : G k0 = 34 ∨ G k0 = 123 ∨ G k0 = 91
  · have hE : Pl.Ends G k0 J n := hV.ends hJ2 (fun a b c => by omega)
    have hor : (G k0 == 34) = true ∨ (G k0 == 34) = false ∧ ((G k0 == 123) = true ∨ (G k0 == 123) = false ∧ (G k0 == 91) = true) := by
      rcases h3 with h | h | h
      · exact .inl (by simp [h])
      · exact .inr ⟨by simp [h], .inl (by simp [h])⟩
      · exact .inr ⟨by simp [h], .inr ⟨by simp [h], by simp [h]⟩⟩
    clear h3
    rcases hor with g1 | ⟨g1, g2 | ⟨g2, g3⟩⟩
    all_goals
      go_wp2_with fail
      go_ret
      exact ⟨hD, _, rfl, .inr ⟨J, rfl, hJ2, hV, hE⟩⟩
  · have g1 : (G k0 == 34) = false := by rw [beq_eq_false_iff_ne]; omega
    have g2 : (G k0 == 123) = false := by rw [beq_eq_false_iff_ne]; omega
    have g3 : (G k0 == 91) = false := by rw [beq_eq_false_iff_ne]; omega
    clear h3
    by_cases hJn : J = n
    · have gJ : ((J : Int) == (n : Int)) = true := by simp [hJn]
      have hE : Pl.Ends G k0 J n := hV.ends hJ2 (fun a b c h => by omega)
      clear hJn
      go_wp2_with fail
      go_ret
      exact ⟨hD, _, rfl, .inr ⟨J, rfl, hJ2, hV, hE⟩⟩
    · have gJ : ((J : Int) == (n : Int)) = false := by rw [beq_eq_false_iff_ne]; omega
      have hJlt : J < n := by omega
      have hcJ := hc1 J hJlt
      clear hJn
      by_cases hd : Pl.delB (G J) = true
      · have hE : Pl.Ends G k0 J n := hV.ends hJ2 (fun a b c h => hd)
        go_wp2_with (go_at_call 28; refine (ends_any _ _).mono ?_; rintro e w' ⟨rfl, rfl⟩)
        go_ret
        exact ⟨hD, _, rfl, .inr ⟨J, rfl, hJ2, hV, hE⟩⟩
      · have hd2 : Pl.delB (G J) = false := by simpa using hd
        go_wp2_with (go_at_call 28; refine (ends_any _ _).mono ?_; rintro e w' ⟨rfl, rfl⟩)
        go_ret
        exact ⟨hD, _, rfl, .inl rfl⟩
end Go.Proofs.Qxb6603065a
