import Derived.Test.Qxb6603065aFind
namespace Go.Proofs.Qxb6603065a
open Go.RowKit

theorem ret_int {k : IntKind} {a b : Int} (h : a = b) : Ending.returned (.int k a) = .returned (.int k b) := by rw [h]

set_option maxHeartbeats 400000 in
/-- strictjson.stringEnd -/
theorem strEnd_any (G : Nat → Int) (b o n c : Nat) (i : Int) (k0 J : Nat) (hi : i = k0) (w : World) (hG : ∀ i, 0 ≤ G i ∧ G i < 256) (hn : n ≤ 1048576) (hnc : n ≤ c)
    (hc : ∀ i, i < n → w.cell? ⟨b, o + i, none⟩ = some (.int .u8 (G (o + i)))) (h34 : G (o + k0) = 34) (hS : Pl.Str G (o + k0 + 1) (o + J)) (hJ : J ≤ n) :
    Calls Try.prog 26 #[.slice (some ⟨b, o, none⟩) n c, .int .i64 i] w fun e w' => w' = w ∧ e = .returned (.int .i64 J) := by
  subst hi
  have hk0 : k0 + 1 < J := by have := hS.lt; omega
  have H34 : Hid (G (o + k0) = 34) := h34
  clear h34
  go_enter Try.func26, Try.ntmps26
  go_wp2_with fail
  go_loop [5] (fun t => ∃ j : Nat, t = .int .i64 j ∧ 1 ≤ j ∧ j ≤ n ∧ Pl.Str G (o + j) (o + J) ∧ Hid (G (o + (j - 1)) = 34)) (fun t => n - (intOf t).toNat)
  case atStart => exact ⟨k0 + 1, by go_num, by omega, by omega, hS, H34⟩
  case round =>
    obtain ⟨j, rfl, hj1, hjn, hT, hq34⟩ := hrel
    have hT0 : j < J := by have := hT.lt; omega
    go_wp2_with fail
    refine (idx_any G b (o + j) (n - j) (c - j) w hG (fun i hi => ?_) (J - 1 - j) (by omega) ?_).mono ?_
    · have := hc (j + i) (by omega)
      rw [← Nat.add_assoc] at this
      exact this
    · have := hT.lt.2
      rw [show o + j + (J - 1 - j) = o + J - 1 from by omega]
      exact this
    rintro e w' ⟨rfl, q, rfl, hqm, hq, hfirst⟩
    have Hq : Hid (G (o + j + q) = 34) := hq
    clear hq
    have hb1 : j + q ≤ n := by omega
    go_wp2_with fail
    go_loop [6] (fun t => ∃ k : Nat, t = .int .i64 k ∧ j ≤ k ∧ k ≤ j + q ∧ ∀ p, o + k ≤ p → p < o + j + q → G p = 92) (fun t => (intOf t).toNat)
    case atStart => exact ⟨j + q, by go_num, by omega, by omega, fun p a b => by omega⟩
    case round =>
      obtain ⟨k, rfl, hjk, hkq, hrun⟩ := hrel
      have hcell := hc (k - 1) (by omega)
      have hk1 : ((k : Int) - 1).toNat = k - 1 := by omega
      by_cases h92 : G (o + (k - 1)) = 92
      · have g1 : (G (o + (k - 1)) == 92) = true := by simp [h92]
        have hne : k ≠ j := by
          rintro rfl
          have := hq34.out
          omega
        have Hrun : Hid (∀ p, o + k ≤ p → p < o + j + q → G p = 92) := hrun
        have H92 : Hid (G (o + (k - 1)) = 92) := h92
        clear hrun h92
        go_wp2_with fail
        go_round
        case rel => exact ⟨k - 1, by go_num, by omega, by omega, fun p a b => by
          by_cases hp : p = o + (k - 1)
          · subst hp; exact H92.out
          · exact Hrun.out p (by omega) b⟩
        case measure => simp [intOf]; omega
      · have g1 : (G (o + (k - 1)) == 92) = false := by simp [h92]
        have hfin := hT.quote (k := o + k) (q := o + j + q) (by omega) (by omega) (fun p a b => by
          have := hfirst (p - (o + j)) (by omega)
          rwa [show o + j + (p - (o + j)) = p from by omega] at this) hrun (.inr (by rw [show o + k - 1 = o + (k - 1) from by omega]; exact h92)) Hq.out
        rw [show o + j + q - (o + k) = j + q - k from by omega] at hfin
        have HF : Hid _ := hfin
        clear hfin hrun hfirst h92
        by_cases hpar : (j + q - k) % 2 = 0
        · have hp2 : (((j : Int) + (q : Int) - (k : Int)) % 2 == 0) = true := by simp; omega
          go_wp2_with fail
          go_ret
          have := HF.out.1 hpar
          exact ⟨rfl, ret_int (by omega)⟩
        · have hp2 : (((j : Int) + (q : Int) - (k : Int)) % 2 == 0) = false := by simp; omega
          go_wp2_with fail
          go_round
          case rel => exact ⟨j + q + 1, by go_num, by omega, by omega, by rw [show o + (j + q + 1) = o + j + q + 1 from by omega]; exact HF.out.2 (by omega), by show G (o + (j + q + 1 - 1)) = 34; rw [show o + (j + q + 1 - 1) = o + j + q from by omega]; exact Hq.out⟩
          case measure => simp [intOf]; omega
end Go.Proofs.Qxb6603065a
