import Derived.Test.Qxb6604066aScan
namespace Go.Proofs.Qxb6604066a
open Go.RowKit

theorem angT_iff {G : Nat → Int} {n i r : Nat} (h60 : G i = 60) (hr : r ≤ n) (h2 : i + 2 ≤ r) : AngT G n i (r - i) ↔ Pl.Ang G n i r := by
  have e : i + (r - i - 1) = r - 1 := by omega
  unfold AngT Pl.Ang
  rw [e]
  exact ⟨fun h => ⟨hr, h2, h.2.2.1, h.2.2.2⟩, fun h => ⟨by omega, h60, h.2.2.1, h.2.2.2⟩⟩

theorem scans_beyond {e : Ending} {G : Nat → Int} {i r p d m : Nat} (h : Scans e (Pl.cut G r) i (r - i)) (hi : i ≤ r) (hR : Pl.Reach (Pl.stB G) (i, 0, 0) (p, d, m)) (hs : Pl.stB G (p, d, m) = none) (hp : p < r) :
    e = .returned (.tuple #[.bool false, .int .i64 0, .int .i64 0]) := by
  rcases h with ⟨a, b, _, h1⟩ | ⟨h, _⟩
  · have h2 := Pl.reach_cut (r := r) hR (by simp; omega)
    have h4 := Pl.reach_pos (h1.stuck h2 (Pl.stuck_cut hs hp))
    simp only at h4
    omega
  · exact h
theorem scans_just {e : Ending} {G : Nat → Int} {i p d m : Nat} (h : Scans e (Pl.cut G p) i (p - i)) (hi : i ≤ p) (hR : Pl.Reach (Pl.stB G) (i, 0, 0) (p, d, m)) :
    e = .returned (.tuple #[.bool true, .int .i64 d, .int .i64 m]) := by
  have h2 := Pl.reach_cut (r := p) hR (by simp)
  rw [Scans, show i + (p - i) = p from by omega] at h
  rcases h with ⟨a, b, he, h1⟩ | ⟨_, q, a, b, h3, h4, h5⟩
  · have := Pl.Reach.pos_eq (fun x => x.1) (Pl.stB_up _) h1 h2 rfl
    cases this
    exact he
  · have := Pl.reach_pos (h2.stuck h4 h5)
    simp only at this
    omega

set_option maxRecDepth 100000 in
set_option maxHeartbeats 1000000 in
/-- destModelB1 at '<' -/
theorem model_ang (s : ByteArray) (i : Int) (i0 : Nat) (hi : i = i0) (w : World) (hs : s.size ≤ 1048576) (h0 : i0 < s.size) (h60 : at0 s i0 = 60) :
    Calls Try.prog 9 #[.string s, .int .i64 i] w fun e w' => w' = w ∧ ∃ r : Nat, e = .returned (.int .i64 r) ∧ Pl.AngAns (at0 s) s.size i0 r := by
  subst hi
  have hE : ((s[i0].toNat : Int) == 60) = true := by rw [← at0_in h0, h60]; rfl
  have H60 : Hid (at0 s i0 = 60) := h60
  clear h60
  go_enter Try.func9, Try.ntmps9
  go_wp2_with fail
  go_loop [5] (fun t => ∃ r : Nat, t = .int .i64 r ∧ i0 + 2 ≤ r ∧ r ≤ s.size + 1 ∧ ∀ q, q < r → ¬ Pl.Ang (at0 s) s.size i0 q) (fun t => s.size + 1 - (intOf t).toNat)
  case atStart => exact ⟨i0 + 2, by go_num, by omega, by omega, fun q h h2 => by have := h2.2.1; omega⟩
  case round =>
    obtain ⟨r, rfl, hr1, hr2, hno⟩ := hrel
    have HN : Hid (∀ q, q < r → ¬ Pl.Ang (at0 s) s.size i0 q) := hno
    clear hno
    by_cases hle : r ≤ s.size
    case neg =>
      have hfin : Hid (Pl.AngAns (at0 s) s.size i0 i0) := .inr ⟨rfl, fun q hq => HN.out q (by have := hq.1; omega) hq⟩
      go_wp2_with fail
      go_ret
      exact ⟨rfl, i0, rfl, hfin.out⟩
    have hsz : (s.extract i0 r).size = r - i0 := by rw [ByteArray.size_extract]; omega
    have HC : Hid (∀ w, Calls Try.prog 18 #[.string (s.extract i0 r)] w fun e w' => w' = w ∧ Tells e (Pl.Ang (at0 s) s.size i0 r)) := by
      intro w
      have h := angle_any (s.extract i0 r) (at0 s) i0 s.size w (by omega) (by omega) (fun k hk => by rw [at0_extract _ _ _ _ hle, Pl.cut_in (by omega)])
      rw [hsz] at h
      refine h.mono ?_
      rintro e w' ⟨h1, h2⟩
      refine ⟨h1, ?_⟩
      rcases h2 with ⟨h2, h3⟩ | ⟨h2, h3⟩
      · exact .inl ⟨h2, (angT_iff H60.out hle hr1).1 h3⟩
      · exact .inr ⟨h2, fun h4 => h3 ((angT_iff H60.out hle hr1).2 h4)⟩
    clear hsz
    go_wp2_with fail
    refine (HC.out w).mono ?_
    rintro e w' ⟨hw, hT⟩
    have hw' := hw.symm
    clear hw
    subst hw'
    rcases hT with ⟨rfl, hA⟩ | ⟨rfl, hA⟩
    · have hfin : Hid (Pl.AngAns (at0 s) s.size i0 r) := .inl hA
      clear hA
      go_wp2_with fail
      go_ret
      exact ⟨rfl, r, rfl, hfin.out⟩
    · have hN2 : Hid (∀ q, q < r + 1 → ¬ Pl.Ang (at0 s) s.size i0 q) := fun q hq => by
        by_cases h : q = r
        · subst h; exact hA
        · exact HN.out q (by omega)
      clear hA
      go_wp2_with fail
      go_round
      case rel => exact ⟨r + 1, by go_num, by omega, by omega, hN2.out⟩
      case measure => simp [intOf]; omega

set_option maxRecDepth 100000 in
set_option maxHeartbeats 1000000 in
/-- destModelB1 elsewhere -/
theorem model_bare (s : ByteArray) (i : Int) (i0 : Nat) (hi : i = i0) (w : World) (hs : s.size ≤ 1048576) (h0 : i0 ≤ s.size) (h60 : at0 s i0 ≠ 60) :
    Calls Try.prog 9 #[.string s, .int .i64 i] w fun e w' => w' = w ∧ ∃ r : Nat, e = .returned (.int .i64 r) ∧ Bare (at0 s) i0 r := by
  subst hi
  obtain ⟨⟨p, d, m⟩, hR, hst, hpn⟩ := Pl.run_ends (H := at0 s) (n := s.size) (fun k hk => at0_out hk) s.size (i0, 0, 0) h0 (by simp)
  simp only at hpn
  have hip : i0 ≤ p := Pl.reach_pos hR
  have HST : Hid (Pl.stB (at0 s) (p, d, m) = none) := hst
  clear hst
  have hfin : Hid (Bare (at0 s) i0 (Pl.bareAns i0 p d m)) := Bare.mk hR HST.out rfl
  have HC : Hid (∀ r w, i0 ≤ r → r ≤ s.size → Calls Try.prog 19 #[.string (s.extract i0 r)] w fun e w' => w' = w ∧ Scans e (Pl.cut (at0 s) r) i0 (r - i0)) := by
    intro r w h1 h2
    have hsz : (s.extract i0 r).size = r - i0 := by rw [ByteArray.size_extract]; omega
    have h := scan_any (s.extract i0 r) (Pl.cut (at0 s) r) i0 w (by omega) (fun k => at0_extract _ _ _ _ h2)
    rw [hsz] at h
    exact h
  have hE : (s.size ≤ i0 ∧ decide ((i0 : Int) < (s.size : Int)) = false) ∨ ∃ h : i0 < s.size, ((s[i0].toNat : Int) == 60) = false := by
    by_cases h : i0 < s.size
    · exact .inr ⟨h, by rw [← at0_in h, beq_eq_false_iff_ne]; exact h60⟩
    · exact .inl ⟨by omega, by simp; omega⟩
  clear h60
  rcases hE with ⟨hge, hE⟩ | ⟨hlt, hE⟩
  · go_enter Try.func9, Try.ntmps9
    go_wp2_with fail
    go_loop [6, 7] (fun u t => ∃ r : Nat, t = .int .i64 r ∧ u = .int .i64 i0 ∧ p ≤ r ∧ r ≤ s.size) (fun _ t => (intOf t).toNat)
    case atStart => exact ⟨s.size, rfl, rfl, hpn, by omega⟩
    case round =>
      obtain ⟨r, rfl, rfl, hr1, hr2⟩ := hrel
      obtain rfl : r = p := by omega
      go_wp2_with fail
      refine (HC.out r w (by omega) hr2).mono ?_
      rintro e w' ⟨hw, hS⟩
      have he := scans_just hS (by omega) hR
      clear hS
      have hw' := hw.symm
      clear hw
      subst hw'
      subst he
      go_wp2_with fail
      refine (HC.out r w (by omega) hr2).mono ?_
      rintro e w' ⟨hw, hS⟩
      have he := scans_just hS (by omega) hR
      clear hS
      have hw' := hw.symm
      clear hw
      subst hw'
      subst he
      by_cases hd0 : d = 0
      · have a1 : ((d : Int) == 0) = true := by rw [beq_iff_eq]; omega
        by_cases hm32 : m ≤ 32
        · have a2 : decide ((m : Int) ≤ 32) = true := by simp; omega
          have hf2 : Hid (Pl.bareAns i0 r d m = r) := by show Pl.bareAns i0 r d m = r; rw [Pl.bareAns, if_pos ⟨hd0, hm32⟩]
          clear hd0
          go_wp2_with fail
          go_ret
          exact ⟨rfl, r, rfl, by have := hfin.out; rw [hf2.out] at this; exact this⟩
        · have a2 : decide ((m : Int) ≤ 32) = false := by simp; omega
          have hf2 : Hid (Pl.bareAns i0 r d m = i0) := by show Pl.bareAns i0 r d m = i0; rw [Pl.bareAns, if_neg (by omega)]
          clear hd0
          go_wp2_with fail
          go_ret
          exact ⟨rfl, i0, rfl, by have := hfin.out; rw [hf2.out] at this; exact this⟩
      · have a1 : ((d : Int) == 0) = false := by rw [beq_eq_false_iff_ne]; omega
        have hf2 : Hid (Pl.bareAns i0 r d m = i0) := by show Pl.bareAns i0 r d m = i0; rw [Pl.bareAns, if_neg (by omega)]
        clear hd0
        go_wp2_with fail
        go_ret
        exact ⟨rfl, i0, rfl, by have := hfin.out; rw [hf2.out] at this; exact this⟩
  · go_enter Try.func9, Try.ntmps9
    go_wp2_with fail
    go_loop [6, 7] (fun u t => ∃ r : Nat, t = .int .i64 r ∧ u = .int .i64 i0 ∧ p ≤ r ∧ r ≤ s.size) (fun _ t => (intOf t).toNat)
    case atStart => exact ⟨s.size, rfl, rfl, hpn, by omega⟩
    case round =>
      obtain ⟨r, rfl, rfl, hr1, hr2⟩ := hrel
      by_cases hpr : p < r
      · go_wp2_with fail
        refine (HC.out r w (by omega) hr2).mono ?_
        rintro e w' ⟨hw, hS⟩
        have he := scans_beyond hS (by omega) hR HST.out hpr
        clear hS
        have hw' := hw.symm
        clear hw
        subst hw'
        subst he
        go_wp2_with fail
        go_round
        case rel => exact ⟨r - 1, by go_num, rfl, by omega, by omega⟩
        case measure => simp [intOf]; omega
      · obtain rfl : r = p := by omega
        go_wp2_with fail
        refine (HC.out r w (by omega) hr2).mono ?_
        rintro e w' ⟨hw, hS⟩
        have he := scans_just hS (by omega) hR
        clear hS
        have hw' := hw.symm
        clear hw
        subst hw'
        subst he
        go_wp2_with fail
        refine (HC.out r w (by omega) hr2).mono ?_
        rintro e w' ⟨hw, hS⟩
        have he := scans_just hS (by omega) hR
        clear hS
        have hw' := hw.symm
        clear hw
        subst hw'
        subst he
        by_cases hd0 : d = 0
        · have a1 : ((d : Int) == 0) = true := by rw [beq_iff_eq]; omega
          by_cases hm32 : m ≤ 32
          · have a2 : decide ((m : Int) ≤ 32) = true := by simp; omega
            have hf2 : Hid (Pl.bareAns i0 r d m = r) := by show Pl.bareAns i0 r d m = r; rw [Pl.bareAns, if_pos ⟨hd0, hm32⟩]
            clear hd0
            go_wp2_with fail
            go_ret
            exact ⟨rfl, r, rfl, by have := hfin.out; rw [hf2.out] at this; exact this⟩
          · have a2 : decide ((m : Int) ≤ 32) = false := by simp; omega
            have hf2 : Hid (Pl.bareAns i0 r d m = i0) := by show Pl.bareAns i0 r d m = i0; rw [Pl.bareAns, if_neg (by omega)]
            clear hd0
            go_wp2_with fail
            go_ret
            exact ⟨rfl, i0, rfl, by have := hfin.out; rw [hf2.out] at this; exact this⟩
        · have a1 : ((d : Int) == 0) = false := by rw [beq_eq_false_iff_ne]; omega
          have hf2 : Hid (Pl.bareAns i0 r d m = i0) := by show Pl.bareAns i0 r d m = i0; rw [Pl.bareAns, if_neg (by omega)]
          clear hd0
          go_wp2_with fail
          go_ret
          exact ⟨rfl, i0, rfl, by have := hfin.out; rw [hf2.out] at this; exact this⟩
end Go.Proofs.Qxb6604066a
