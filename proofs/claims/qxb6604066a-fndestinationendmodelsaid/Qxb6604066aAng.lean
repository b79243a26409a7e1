import Derived.Test.Qxb6604066aDest
namespace Go.Proofs.Qxb6604066a
open Go.RowKit

/-- WHAT angleOKB1 ASKS of a text that lies from o on -/
def AngT (G : Nat → Int) (n o N : Nat) : Prop := 2 ≤ N ∧ G o = 60 ∧ G (o + (N - 1)) = 62 ∧ Pl.Reach (Pl.stA G n) (o + 1) (o + (N - 1))

/-- 'it returns whether p holds' -/
def Tells (e : Ending) (p : Prop) : Prop := (e = .returned (.bool true) ∧ p) ∨ (e = .returned (.bool false) ∧ ¬ p)
theorem Tells.yes {e : Ending} {p : Prop} (he : e = .returned (.bool true)) (h : p) : Tells e p := .inl ⟨he, h⟩
theorem Tells.no {e : Ending} {p : Prop} (he : e = .returned (.bool false)) (h : ¬ p) : Tells e p := .inr ⟨he, h⟩

set_option maxRecDepth 100000 in
set_option maxHeartbeats 1000000 in
/-- angleOKB1 -/
theorem angle_any (t : ByteArray) (G : Nat → Int) (o n : Nat) (w : World) (hs : t.size ≤ 1048576) (hn : o + t.size ≤ n) (hG : ∀ k, k < t.size → at0 t k = G (o + k)) :
    Calls Try.prog 18 #[.string t] w fun e w' => w' = w ∧ Tells e (AngT G n o t.size) := by
  have HG : Hid (∀ k, k < t.size → at0 t k = G (o + k)) := hG
  clear hG
  by_cases hsmall : t.size < 2
  · have g0 : decide ((t.size : Int) < 2) = true := by simp; omega
    go_enter Try.func18, Try.ntmps18
    go_wp2_with fail
    go_ret
    exact ⟨rfl, Tells.no rfl (fun h => by have := h.1; omega)⟩
  have g0 : decide ((t.size : Int) < 2) = false := by simp; omega
  have hlast : t.size - 1 < t.size := by omega
  have h0 : 0 < t.size := by omega
  have e0 : at0 t 0 = ((t[0]'h0).toNat : Int) := at0_in (by omega)
  have eN : at0 t (t.size - 1) = ((t[t.size - 1]'hlast).toNat : Int) := at0_in (by omega)
  have E0 : Hid (G o = ((t[0]'h0).toNat : Int)) := by show G o = _; rw [← e0, HG.out 0 (by omega), Nat.add_zero]
  have EN : Hid (G (o + (t.size - 1)) = ((t[t.size - 1]'hlast).toNat : Int)) := by show G _ = _; rw [← eN, HG.out _ (by omega)]
  clear e0 eN
  have i1 : ((t.size : Int) - 1).toNat = t.size - 1 := by omega
  by_cases h60 : ((t[0]'h0).toNat : Int) = 60
  case neg =>
    have g1 : (((t[0]'h0).toNat : Int) != 60) = true := by simpa using h60
    have H60 : Hid (((t[0]'h0).toNat : Int) ≠ 60) := h60
    clear h60
    go_enter Try.func18, Try.ntmps18
    go_wp2_with fail
    go_ret
    exact ⟨rfl, Tells.no rfl (fun h => by have := h.2.1; rw [E0.out] at this; exact H60.out this)⟩
  have g1 : (((t[0]'h0).toNat : Int) != 60) = false := by simp [h60]
  have H60 : Hid (G o = 60) := by show G o = 60; rw [E0.out]; exact h60
  clear h60
  by_cases h62 : ((t[t.size - 1]'hlast).toNat : Int) = 62
  case neg =>
    have g2 : (((t[t.size - 1]'hlast).toNat : Int) != 62) = true := by simpa using h62
    have H62 : Hid (((t[t.size - 1]'hlast).toNat : Int) ≠ 62) := h62
    clear h62
    go_enter Try.func18, Try.ntmps18
    go_wp2_with fail
    go_ret
    exact ⟨rfl, Tells.no rfl (fun h => by have := h.2.2.1; rw [EN.out] at this; exact H62.out this)⟩
  have g2 : (((t[t.size - 1]'hlast).toNat : Int) != 62) = false := by simp [h62]
  have H62 : Hid (G (o + (t.size - 1)) = 62) := by show G _ = 62; rw [EN.out]; exact h62
  clear h62
  go_enter Try.func18, Try.ntmps18
  go_wp2_with fail
  go_loop [4] (fun u => ∃ k : Nat, u = .int .i64 k ∧ 1 ≤ k ∧ k ≤ t.size ∧ Pl.Reach (Pl.stA G n) (o + 1) (o + k)) (fun u => t.size - (intOf u).toNat)
  case atStart => exact ⟨1, rfl, by omega, by omega, Pl.Reach.refl _ _⟩
  case round =>
    obtain ⟨k, rfl, hk1, hk2, hR⟩ := hrel
    by_cases hlt : k < t.size - 1
    case neg =>
      by_cases hN : k = t.size - 1
      · have hq : ((k : Int) == (t.size : Int) - 1) = true := by rw [beq_iff_eq]; omega
        have hfin : Hid (AngT G n o t.size) := ⟨by omega, H60.out, H62.out, by rw [← hN]; exact hR⟩
        clear hN
        go_wp2_with fail
        go_ret
        exact ⟨rfl, Tells.yes rfl hfin.out⟩
      · have hq : ((k : Int) == (t.size : Int) - 1) = false := by rw [beq_eq_false_iff_ne]; omega
        have hfin : Hid (¬ AngT G n o t.size) := fun h => by
          have h2 := hR.stuck h.2.2.2 (Pl.stA_bad (.inr (.inr (.inr h.2.2.1))))
          have : o + k ≤ o + (t.size - 1) := Pl.Reach.pos_le (fun x => x) (Pl.stA_up G n) h2
          omega
        clear hN
        go_wp2_with fail
        go_ret
        exact ⟨rfl, Tells.no rfl hfin.out⟩
    have hkt : k < t.size := by omega
    have ek : at0 t k = (t[k].toNat : Int) := at0_in hkt
    have E : Hid (G (o + k) = (t[k].toNat : Int)) := by show G _ = _; rw [← ek, HG.out k hkt]
    have E1 : Hid (at0 t k = G (o + k)) := HG.out k hkt
    have E2 : Hid (at0 t (k + 1) = G (o + k + 1)) := by show at0 _ _ = _; rw [HG.out (k + 1) (by omega)]; rfl
    clear ek
    by_cases hesc : (at0 t k == 92 && Pl.punB (at0 t (k + 1))) = true
    · have hR2 : Pl.Reach (Pl.stA G n) (o + 1) (o + (k + 2)) := hR.tail (Pl.stA_esc (by
        have := (Bool.and_eq_true_iff.1 hesc).1
        rw [beq_iff_eq, E1.out] at this; exact this) (by
        have := (Bool.and_eq_true_iff.1 hesc).2
        rw [E2.out] at this; exact this))
      go_wp2_with (go_at_call 30; refine (pair_any t _ k rfl _ hs hkt).mono ?_; rintro e w' ⟨rfl, rfl⟩)
      go_round
      case rel => exact ⟨k + 2, by go_num, by omega, by omega, hR2⟩
      case measure => simp [intOf]; omega
    · have hesc2 : (at0 t k == 92 && Pl.punB (at0 t (k + 1))) = false := by simpa using hesc
      have hno : ¬ (G (o + k) = 92 ∧ Pl.punB (G (o + k + 1)) = true) := by
        rw [← E1.out, ← E2.out]
        rintro ⟨h1, h2⟩
        exact hesc (by rw [h1, h2]; rfl)
      clear hesc
      by_cases hbad : (t[k].toNat : Int) = 13 ∨ (t[k].toNat : Int) = 10 ∨ (t[k].toNat : Int) = 60 ∨ (t[k].toNat : Int) = 62
      · have hfin : Hid (¬ AngT G n o t.size) := fun h => by
          have h2 := h.2.2.2.stuck hR (Pl.stA_bad (by rw [E.out]; exact hbad))
          have : o + (t.size - 1) ≤ o + k := Pl.Reach.pos_le (fun x => x) (Pl.stA_up G n) h2
          omega
        have hor : ((t[k].toNat : Int) == 13) = true ∨ ((t[k].toNat : Int) == 13) = false ∧ (((t[k].toNat : Int) == 10) = true ∨ ((t[k].toNat : Int) == 10) = false ∧ (((t[k].toNat : Int) == 60) = true ∨ ((t[k].toNat : Int) == 60) = false ∧ ((t[k].toNat : Int) == 62) = true)) := by
          rcases hbad with h | h | h | h
          · exact .inl (by simp [h])
          · exact .inr ⟨by simp [h], .inl (by simp [h])⟩
          · exact .inr ⟨by simp [h], .inr ⟨by simp [h], .inl (by simp [h])⟩⟩
          · exact .inr ⟨by simp [h], .inr ⟨by simp [h], .inr ⟨by simp [h], by simp [h]⟩⟩⟩
        clear hbad hno
        rcases hor with a1 | ⟨a1, a2 | ⟨a2, a3 | ⟨a3, a4⟩⟩⟩
        all_goals
          go_wp2_with (go_at_call 30; refine (pair_any t _ k rfl _ hs hkt).mono ?_; rintro e w' ⟨rfl, rfl⟩)
          go_ret
          exact ⟨rfl, Tells.no rfl hfin.out⟩
      · have a1 : ((t[k].toNat : Int) == 13) = false := by rw [beq_eq_false_iff_ne]; omega
        have a2 : ((t[k].toNat : Int) == 10) = false := by rw [beq_eq_false_iff_ne]; omega
        have a3 : ((t[k].toNat : Int) == 60) = false := by rw [beq_eq_false_iff_ne]; omega
        have a4 : ((t[k].toNat : Int) == 62) = false := by rw [beq_eq_false_iff_ne]; omega
        have hR2 : Pl.Reach (Pl.stA G n) (o + 1) (o + (k + 1)) := hR.tail (Pl.stA_one hno (by omega) (by rw [E.out]; omega) (by rw [E.out]; omega) (by rw [E.out]; omega) (by rw [E.out]; omega))
        clear hbad hno
        go_wp2_with (go_at_call 30; refine (pair_any t _ k rfl _ hs hkt).mono ?_; rintro e w' ⟨rfl, rfl⟩)
        go_round
        case rel => exact ⟨k + 1, by go_num, by omega, by omega, hR2⟩
        case measure => simp [intOf]; omega
end Go.Proofs.Qxb6604066a
