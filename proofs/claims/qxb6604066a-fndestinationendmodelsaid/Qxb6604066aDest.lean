import Derived.Test.Qxb6604066aLeaf
namespace Go.Proofs.Qxb6604066a
open Go.RowKit

theorem at0_extract (s : ByteArray) (i r k : Nat) (hr : r ≤ s.size) : at0 (s.extract i r) k = Pl.cut (at0 s) r (i + k) := by
  by_cases h : i + k < r
  · have h1 : k < (s.extract i r).size := by rw [ByteArray.size_extract]; omega
    rw [Pl.cut_in h, at0_in h1, at0_in (by omega : i + k < s.size)]
    rw [ByteArray.getElem_extract]
  · rw [Pl.cut_out (by omega), at0_out (by rw [ByteArray.size_extract]; omega)]

theorem hp60 (t : ByteArray) : Lib.hasPrefix t.data.toList [60] = (at0 t 0 == 60) := by
  obtain ⟨⟨l⟩⟩ := t
  cases l with
  | nil => rfl
  | cons a l =>
    rw [at0_in (by simp [ByteArray.size])]
    have : (ByteArray.mk (a :: l).toArray)[0]'(by simp [ByteArray.size]) = a := rfl
    rw [this]
    show ([60] : List UInt8).isPrefixOf (a :: l) = _
    simp only [List.isPrefixOf, Bool.and_true]
    rw [Bool.eq_iff_iff, beq_iff_eq, beq_iff_eq]
    constructor
    · rintro rfl; rfl
    · intro h
      have h2 : a.toNat = 60 := by omega
      exact UInt8.toNat_inj.1 h2.symm

set_option maxHeartbeats 400000 in
/-- strings.HasPrefix of "<" -/
theorem lt_any (t : ByteArray) (w : World) : Calls Try.prog 28 #[.string t, .string ⟨#[60]⟩] w fun e w' => e = .returned (.bool (at0 t 0 == 60)) ∧ w' = w := by
  refine (hp_any t ⟨#[60]⟩ w).mono ?_
  rintro e w' ⟨rfl, rfl⟩
  exact ⟨by rw [← hp60], rfl⟩

set_option maxHeartbeats 1000000 in
/-- destinationEnd at '<' -/
theorem dest_ang (s : ByteArray) (i : Int) (i0 : Nat) (hi : i = i0) (w : World) (hs : s.size ≤ 1048576) (h0 : i0 < s.size) (h60 : at0 s i0 = 60) :
    Calls Try.prog 17 #[.string s, .int .i64 i] w fun e w' => w' = w ∧ ∃ r : Nat, e = .returned (.int .i64 r) ∧ Pl.AngAns (at0 s) s.size i0 r := by
  subst hi
  have hE : (at0 (s.extract i0 s.size) 0 == 60) = true := by
    rw [at0_extract _ _ _ _ (Nat.le_refl _), Nat.add_zero, Pl.cut_in h0, h60]; rfl
  clear h60
  have HNO : Hid (∀ k, Pl.Reach (Pl.stA (at0 s) s.size) (i0 + 1) k → (∀ q, Pl.Reach (Pl.stA (at0 s) s.size) k q → at0 s q = 62 → q < s.size → False) → Pl.AngAns (at0 s) s.size i0 i0) := by
    intro k hR hno
    refine .inr ⟨rfl, fun q hq => ?_⟩
    obtain ⟨q1, q2, q3, q4⟩ := hq
    exact hno (q - 1) (hR.stuck q4 (Pl.stA_bad (by omega))) q3 (by omega)
  go_enter Try.func17, Try.ntmps17
  go_wp2_with (go_at_call 28; refine (lt_any _ _).mono ?_; rintro e w' ⟨rfl, rfl⟩)
  go_loop [5] (fun t => ∃ k : Nat, t = .int .i64 k ∧ i0 + 1 ≤ k ∧ k ≤ s.size ∧ Pl.Reach (Pl.stA (at0 s) s.size) (i0 + 1) k) (fun t => s.size - (intOf t).toNat)
  case atStart => exact ⟨i0 + 1, by go_num, by omega, by omega, Pl.Reach.refl _ _⟩
  case round =>
    obtain ⟨k, rfl, hk1, hk2, hR⟩ := hrel
    by_cases hlt : k < s.size
    case neg =>
      have hfin := HNO.out k hR (fun q hq _ hqs => by
        have : k ≤ q := Pl.Reach.pos_le (fun x => x) (Pl.stA_up (at0 s) s.size) hq
        omega)
      go_wp2_with fail
      go_ret
      exact ⟨rfl, i0, rfl, hfin⟩
    have e : at0 s k = (s[k].toNat : Int) := at0_in hlt
    have E : Hid (at0 s k = (s[k].toNat : Int)) := e
    clear e
    by_cases h92 : (s[k].toNat : Int) = 92
    · have g0 : ((s[k].toNat : Int) == 92) = true := by simp [h92]
      have h1 : at0 s k = 92 := by rw [E.out]; exact h92
      have H1 : Hid (at0 s k = 92) := h1
      clear h92 h1
      cases hp : Pl.punB (at0 s (k + 1))
      · have hR2 := hR.tail (Pl.stA_one (by rw [hp]; simp) hlt (by rw [H1.out]; decide) (by rw [H1.out]; decide) (by rw [H1.out]; decide) (by rw [H1.out]; decide))
        go_wp2_with (go_at_call 29; refine (escapes_any s _ k rfl _ hs hlt).mono ?_; rintro e w' ⟨rfl, rfl⟩)
        go_round
        case rel => exact ⟨k + 1, by go_num, by omega, by omega, hR2⟩
        case measure => simp [intOf]; omega
      · have hR2 := hR.tail (Pl.stA_esc H1.out hp)
        have hk3 : k + 1 < s.size := by
          by_cases hk3 : k + 1 < s.size
          · exact hk3
          · rw [at0_out (by omega), Pl.pun_zero] at hp; cases hp
        go_wp2_with (go_at_call 29; refine (escapes_any s _ k rfl _ hs hlt).mono ?_; rintro e w' ⟨rfl, rfl⟩)
        go_round
        case rel => exact ⟨k + 2, by go_num, by omega, by omega, hR2⟩
        case measure => simp [intOf]; omega
    · have g0 : ((s[k].toNat : Int) == 92) = false := by simp [h92]
      by_cases hbad : (s[k].toNat : Int) = 13 ∨ (s[k].toNat : Int) = 10 ∨ (s[k].toNat : Int) = 60
      · have hfin := HNO.out k hR (fun q hq h62 hqs => by
          have := hq.stuck_eq (Pl.stA_bad (by rw [E.out]; omega))
          subst this
          rw [E.out] at h62
          omega)
        have hor : ((s[k].toNat : Int) == 13) = true ∨ ((s[k].toNat : Int) == 13) = false ∧ (((s[k].toNat : Int) == 10) = true ∨ ((s[k].toNat : Int) == 10) = false ∧ ((s[k].toNat : Int) == 60) = true) := by
          rcases hbad with h | h | h
          · exact .inl (by simp [h])
          · exact .inr ⟨by simp [h], .inl (by simp [h])⟩
          · exact .inr ⟨by simp [h], .inr ⟨by simp [h], by simp [h]⟩⟩
        clear hbad h92
        rcases hor with g1 | ⟨g1, g2 | ⟨g2, g3⟩⟩
        all_goals
          go_wp2_with fail
          go_ret
          exact ⟨rfl, i0, rfl, hfin⟩
      · have g1 : ((s[k].toNat : Int) == 13) = false := by rw [beq_eq_false_iff_ne]; omega
        have g2 : ((s[k].toNat : Int) == 10) = false := by rw [beq_eq_false_iff_ne]; omega
        have g3 : ((s[k].toNat : Int) == 60) = false := by rw [beq_eq_false_iff_ne]; omega
        by_cases h62 : (s[k].toNat : Int) = 62
        · have g4 : ((s[k].toNat : Int) == 62) = true := by simp [h62]
          have hfin : Pl.AngAns (at0 s) s.size i0 (k + 1) := .inl ⟨by omega, by omega, by rw [Nat.add_sub_cancel, E.out]; exact h62, by rw [Nat.add_sub_cancel]; exact hR⟩
          clear h62 hbad h92
          go_wp2_with fail
          go_ret
          exact ⟨rfl, k + 1, ret_int (by omega), hfin⟩
        · have g4 : ((s[k].toNat : Int) == 62) = false := by simp [h62]
          have hR2 := hR.tail (Pl.stA_one (by rw [E.out]; exact fun h => h92 h.1) hlt (by rw [E.out]; omega) (by rw [E.out]; omega) (by rw [E.out]; omega) (by rw [E.out]; omega))
          clear h62 hbad h92
          go_wp2_with fail
          go_round
          case rel => exact ⟨k + 1, by go_num, by omega, by omega, hR2⟩
          case measure => simp [intOf]; omega

/-- WHAT IS ASKED OF AN ANSWER where no '<' stands -/
def Bare (G : Nat → Int) (i r : Nat) : Prop := ∀ p d m, Pl.Reach (Pl.stB G) (i, 0, 0) (p, d, m) → Pl.stB G (p, d, m) = none → r = Pl.bareAns i p d m
theorem Bare.mk {G : Nat → Int} {i k d m r : Nat} (h : Pl.Reach (Pl.stB G) (i, 0, 0) (k, d, m)) (h2 : Pl.stB G (k, d, m) = none) (h3 : r = Pl.bareAns i k d m) : Bare G i r := by
  intro p d2 m2 h4 h5
  have := h.same h4 h2 h5
  cases this
  exact h3
theorem Bare.deep {G : Nat → Int} {i k d m : Nat} (h : Pl.Reach (Pl.stB G) (i, 0, 0) (k, d, m)) (h2 : 32 < m) : Bare G i i := by
  intro p d2 m2 h4 h5
  have h6 := Pl.reach_deep (h.stuck h4 h5)
  simp only at h6
  rw [Pl.bareAns, if_neg (by omega)]

set_option maxRecDepth 100000 in
set_option maxHeartbeats 2000000 in
/-- destinationEnd elsewhere -/
theorem dest_bare (s : ByteArray) (i : Int) (i0 : Nat) (hi : i = i0) (w : World) (hs : s.size ≤ 1048576) (h0 : i0 ≤ s.size) (h60 : at0 s i0 ≠ 60) :
    Calls Try.prog 17 #[.string s, .int .i64 i] w fun e w' => w' = w ∧ ∃ r : Nat, e = .returned (.int .i64 r) ∧ Bare (at0 s) i0 r := by
  subst hi
  have hE : (at0 (s.extract i0 s.size) 0 == 60) = false := by
    rw [at0_extract _ _ _ _ (Nat.le_refl _), Nat.add_zero, beq_eq_false_iff_ne]
    by_cases h : i0 < s.size
    · rw [Pl.cut_in h]; exact h60
    · rw [Pl.cut_out (by omega)]; decide
  clear h60
  go_enter Try.func17, Try.ntmps17
  go_wp2_with (go_at_call 28; refine (lt_any _ _).mono ?_; rintro e w' ⟨rfl, rfl⟩)
  go_loop [6, 7] (fun u t => ∃ k d m : Nat, u = .int .i64 d ∧ t = .int .i64 k ∧ i0 ≤ k ∧ k ≤ s.size ∧ d ≤ m ∧ m ≤ 32 ∧ Pl.Reach (Pl.stB (at0 s)) (i0, 0, 0) (k, d, m)) (fun _ t => s.size - (intOf t).toNat)
  case atStart => exact ⟨i0, 0, 0, rfl, rfl, by omega, by omega, by omega, by omega, Pl.Reach.refl _ _⟩
  case round =>
    obtain ⟨k, d, m, rfl, rfl, hk1, hk2, hd1, hm1, hR⟩ := hrel
    by_cases hgo : k < s.size ∧ 32 < at0 s k ∧ at0 s k ≠ 127
    case neg =>
      have hst : Pl.stB (at0 s) (k, d, m) = none := Pl.stB_low (by
        by_cases hk : k < s.size
        · omega
        · rw [at0_out (by omega)]; omega)
      have hfin : Bare (at0 s) i0 (if 0 < d then i0 else k) := Bare.mk hR hst (by
        unfold Pl.bareAns
        by_cases hd : 0 < d
        · rw [if_pos hd, if_neg (by omega)]
        · rw [if_neg hd, if_pos (by omega)])
      have hwhy : (s.size ≤ k ∧ decide ((k : Int) < (s.size : Int)) = false) ∨ ∃ h : k < s.size, ((s[k].toNat : Int) ≤ 32 ∧ decide (32 < (s[k].toNat : Int)) = false) ∨ (s[k].toNat : Int) = 127 := by
        by_cases hk : k < s.size
        · refine .inr ⟨hk, ?_⟩
          rw [at0_in hk] at hgo
          by_cases h32 : 32 < (s[k].toNat : Int)
          · exact .inr (by omega)
          · exact .inl ⟨by omega, by simpa using h32⟩
        · exact .inl ⟨by omega, by simp; omega⟩
      clear hgo hst
      by_cases hd : 0 < d
      · rw [if_pos hd] at hfin
        rcases hwhy with ⟨g0, g1⟩ | ⟨hlt, ⟨g0, g1⟩ | g1⟩
        all_goals
          go_wp2_with fail
          go_ret
          exact ⟨rfl, i0, rfl, hfin⟩
      · rw [if_neg hd] at hfin
        obtain rfl : d = 0 := by omega
        rcases hwhy with ⟨g0, g1⟩ | ⟨hlt, ⟨g0, g1⟩ | g1⟩
        all_goals
          go_wp2_with fail
          go_ret
          exact ⟨rfl, k, rfl, hfin⟩
    obtain ⟨hlt, h32, h127⟩ := hgo
    have e : at0 s k = (s[k].toNat : Int) := at0_in hlt
    rw [e] at h32 h127
    have b1 : decide (32 < (s[k].toNat : Int)) = true := by simpa using h32
    have b2 : ((s[k].toNat : Int) != 127) = true := by simpa using h127
    have E : Hid (at0 s k = (s[k].toNat : Int)) := e
    clear e
    by_cases hesc : (s[k].toNat : Int) = 92 ∧ Pl.punB (at0 s (k + 1)) = true
    · obtain ⟨h92, hp⟩ := hesc
      have g0 : ((s[k].toNat : Int) == 92) = true := by simp [h92]
      have hR2 := hR.tail (Pl.stB_esc (by rw [E.out]; exact h92) hp)
      clear h92
      have hk3 : k + 1 < s.size := by
        by_cases hk3 : k + 1 < s.size
        · exact hk3
        · rw [at0_out (by omega), Pl.pun_zero] at hp; cases hp
      go_wp2_with (go_at_call 29; refine (escapes_any s _ k rfl _ hs hlt).mono ?_; rintro e w' ⟨rfl, rfl⟩)
      go_round
      case rel => exact ⟨k + 2, d, m, rfl, by go_num, by omega, by omega, by omega, by omega, hR2⟩
      case measure => simp [intOf]; omega
    · have hno : ¬ (at0 s k = 92 ∧ Pl.punB (at0 s (k + 1)) = true) := by rw [E.out]; exact hesc
      by_cases h40 : (s[k].toNat : Int) = 40
      · have g0 : ((s[k].toNat : Int) == 92) = false := by simp [h40]
        have g1 : ((s[k].toNat : Int) == 40) = true := by simp [h40]
        have hR2 := hR.tail (Pl.stB_open (by rw [E.out]; exact h40))
        clear h40 hesc hno h32 h127
        by_cases hdeep : 32 < d + 1
        · have hfin : Bare (at0 s) i0 i0 := Bare.deep hR2 (by omega)
          have g2 : decide (32 < (d : Int) + 1) = true := by simp; omega
          go_wp2_with fail
          go_ret
          exact ⟨rfl, i0, rfl, hfin⟩
        · have g2 : decide (32 < (d : Int) + 1) = false := by simp; omega
          go_wp2_with fail
          go_round
          case rel => exact ⟨k + 1, d + 1, max m (d + 1), by go_num, by go_num, by omega, by omega, by omega, by omega, hR2⟩
          case measure => simp [intOf]; omega
      · have g1 : ((s[k].toNat : Int) == 40) = false := by simp [h40]
        by_cases h41 : (s[k].toNat : Int) = 41
        · have g0 : ((s[k].toNat : Int) == 92) = false := by simp [h41]
          have g2 : ((s[k].toNat : Int) == 41) = true := by simp [h41]
          by_cases hd : d = 0
          · subst hd
            have hfin : Bare (at0 s) i0 k := Bare.mk hR (Pl.stB_close0 (by rw [E.out]; exact h41)) (by rw [Pl.bareAns, if_pos (by omega)])
            clear h40 h41 hesc hno h32 h127
            go_wp2_with fail
            go_ret
            exact ⟨rfl, k, rfl, hfin⟩
          · have hR2 := hR.tail (Pl.stB_close (by rw [E.out]; exact h41) hd)
            have g3 : ((d : Int) == 0) = false := by rw [beq_eq_false_iff_ne]; omega
            clear h40 h41 hesc hno h32 h127
            go_wp2_with fail
            go_round
            case rel => exact ⟨k + 1, d - 1, m, by go_num, by go_num, by omega, by omega, by omega, by omega, hR2⟩
            case measure => simp [intOf]; omega
        · have g2 : ((s[k].toNat : Int) == 41) = false := by simp [h41]
          have hR2 := hR.tail (Pl.stB_one hno (by rw [E.out]; exact h32) (by rw [E.out]; exact h127) (by rw [E.out]; exact h40) (by rw [E.out]; exact h41))
          have g0 : ((s[k].toNat : Int) == 92) = false ∨ ((s[k].toNat : Int) == 92) = true ∧ Pl.punB (at0 s (k + 1)) = false := by
            by_cases h92 : (s[k].toNat : Int) = 92
            · refine .inr ⟨by simp [h92], ?_⟩
              cases hp : Pl.punB (at0 s (k + 1)) with
              | false => rfl
              | true => exact (hesc ⟨h92, hp⟩).elim
            · exact .inl (by simp [h92])
          clear h40 h41 hesc hno h32 h127
          rcases g0 with g0 | ⟨g0, hp⟩
          all_goals
            go_wp2_with (go_at_call 29; refine (escapes_any s _ k rfl _ hs hlt).mono ?_; rintro e w' ⟨rfl, rfl⟩)
            go_round
            case rel => exact ⟨k + 1, d, m, rfl, by go_num, by omega, by omega, by omega, by omega, hR2⟩
            case measure => simp [intOf]; omega
end Go.Proofs.Qxb6604066a
