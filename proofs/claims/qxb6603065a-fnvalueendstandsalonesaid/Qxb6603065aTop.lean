import Derived.Test.Qxb6603065aCopy
namespace Go.Proofs.Qxb6603065a
open Go.RowKit

theorem Dr.below {B : Nat} {w a b : World} (h : Below B w a) (h2 : Dr a b) : Below B w b := by
  obtain ⟨q, rfl⟩ := h2
  exact h.trans ⟨rfl, rfl, rfl, Nat.le_refl _, fun _ _ => rfl⟩

set_option maxHeartbeats 400000 in
theorem bytes19_yes (a : Option Addr) (n c : Nat) (i : Int) (w : World) (hn : n ≤ 1048576) : Calls Try.prog 19 #[.slice a n c, .int .i64 i] w fun e w' => e = .returned (.bool true) ∧ w' = w := by
  go_enter Try.func19, Try.ntmps19
  go_wp2
  go_ret
  exact ⟨rfl, rfl⟩
set_option maxHeartbeats 400000 in
theorem bytes19_no (a : Option Addr) (n c : Nat) (i : Int) (w : World) (hn : 1048576 < n) : Calls Try.prog 19 #[.slice a n c, .int .i64 i] w fun e w' => e = .returned (.bool false) ∧ w' = w := by
  go_enter Try.func19, Try.ntmps19
  go_wp2
  go_ret
  exact ⟨rfl, rfl⟩

set_option maxHeartbeats 1000000 in
/-- FnValueEndSpec -/
theorem spec_walk (a0 : Option Addr) (len0 cap0 : Nat) (z0 : List Int) (a1 : Int) (w : World)
    (w0 : (a0 = none ∧ len0 = 0 ∧ cap0 = 0 ∧ z0 = []) ∨ ∃ x, a0 = some x ∧ len0 ≤ cap0 ∧ cap0 ≤ maxLen ∧ z0.length = cap0 ∧ (∀ i, i < z0.length → w.cell? (x.add i) = some (.int .u8 (z0.getD i 0))) ∧ ∀ n ∈ z0, (Lit.int .u8 n).wf = true) :
    Calls Try.prog 7 #[.slice a0 len0 cap0, .int .i64 a1] w fun e w' => e = .returned (.bool true) ∧ Below w.heap.size w w' := by
  have q22 := fun (w : World) (a : Option Addr) (n c n' c' : Nat) => run_neq_slice_nil_any (P := Try.prog) w 22 5 a n c n' c' Try.underlying22
  by_cases hlen : len0 ≤ 1048576
  case neg =>
    go_enter Try.func7, Try.ntmps7
    go_wp2_with (go_at_call 19; refine (bytes19_no _ _ _ _ _ (by omega)).mono ?_; rintro e w' ⟨rfl, rfl⟩)
    go_ret
    exact ⟨rfl, Below.refl _ _⟩
  rcases w0 with ⟨rfl, rfl, rfl, rfl⟩ | ⟨x, rfl, hl, hm, hz, hcell, hwz⟩
  · go_enter Try.func7, Try.ntmps7
    go_wp2_with (go_at_call 19; refine (bytes19_yes _ _ _ _ _ (by omega)).mono ?_; rintro e w' ⟨rfl, rfl⟩)
    refine (dom_out none 0 0 a1 _ (by omega)).mono ?_
    rintro e w2 ⟨rfl, rfl⟩
    go_wp2_with fail
    go_ret
    exact ⟨rfl, Below.refl _ _⟩
  · have hG := getD_byte z0 hwz
    obtain ⟨W1, W2, g, hmk, hcp, hB, hc2⟩ := mk_copy w x len0 cap0 z0 hlen (by omega) hcell
    clear hcell hwz hm hz
    go_enter Try.func7, Try.ntmps7
    go_wp2_with (go_at_call 19; refine (bytes19_yes _ _ _ _ _ (by omega)).mono ?_; rintro e w' ⟨rfl, rfl⟩)
    by_cases hin : 0 ≤ a1 ∧ a1 < len0
    case neg =>
      refine (dom_out _ len0 len0 a1 _ (by omega)).mono ?_
      rintro e w2 ⟨rfl, rfl⟩
      go_wp2_with fail
      go_ret
      exact ⟨rfl, hB⟩
    obtain ⟨h0, h1⟩ := hin
    obtain ⟨k0, rfl⟩ := Int.eq_ofNat_of_zero_le h0
    refine (dom_any (fun i => z0.getD i 0) g len0 len0 hlen _ k0 W2 rfl (by omega) hc2).mono ?_
    rintro e w2 ⟨hD, r, rfl, hr⟩
    have hB2 := Dr.below hB hD
    rcases hr with rfl | ⟨J, rfl, hJ, hV, hE⟩
    · go_wp2_with fail
      go_ret
      exact ⟨rfl, hB2⟩
    · have hc3 : ∀ i, i < len0 → w2.cell? ⟨g, i, none⟩ = some (.int .u8 (z0.getD i 0)) := fun i hi => by rw [hD.cell]; exact hc2 i hi
      clear hc2 hcp hmk
      go_wp2_with fail
      refine (zzEnd_any (fun i => z0.getD i 0) g 0 len0 len0 _ k0 J rfl w2 hG hlen (Nat.le_refl _) (fun i hi => by simpa using hc3 i hi) (by simpa using hE)).mono ?_
      rintro e w3 ⟨hw3, rfl⟩
      have hw3' := hw3.symm
      clear hw3
      subst hw3'
      go_wp2_with fail
      go_ret
      exact ⟨rfl, hB2⟩
set_option maxHeartbeats 400000 in
theorem bytes22_yes (a : Option Addr) (n c : Nat) (i : Int) (w : World) (hn : n ≤ 1048576) : Calls Try.prog 22 #[.slice a n c, .int .i64 i] w fun e w' => e = .returned (.bool true) ∧ w' = w := by
  go_enter Try.func22, Try.ntmps22
  go_wp2
  go_ret
  exact ⟨rfl, rfl⟩
set_option maxHeartbeats 400000 in
theorem bytes22_no (a : Option Addr) (n c : Nat) (i : Int) (w : World) (hn : 1048576 < n) : Calls Try.prog 22 #[.slice a n c, .int .i64 i] w fun e w' => e = .returned (.bool false) ∧ w' = w := by
  go_enter Try.func22, Try.ntmps22
  go_wp2
  go_ret
  exact ⟨rfl, rfl⟩

set_option maxHeartbeats 1000000 in
/-- FnValueEndStandsAlone -/
theorem alone_walk (a0 : Option Addr) (len0 cap0 : Nat) (z0 : List Int) (a1 : Int) (w : World)
    (w0 : (a0 = none ∧ len0 = 0 ∧ cap0 = 0 ∧ z0 = []) ∨ ∃ x, a0 = some x ∧ len0 ≤ cap0 ∧ cap0 ≤ maxLen ∧ z0.length = cap0 ∧ (∀ i, i < z0.length → w.cell? (x.add i) = some (.int .u8 (z0.getD i 0))) ∧ ∀ n ∈ z0, (Lit.int .u8 n).wf = true) :
    Calls Try.prog 8 #[.slice a0 len0 cap0, .int .i64 a1] w fun e w' => e = .returned (.bool true) ∧ Below w.heap.size w w' := by
  have q22 := fun (w : World) (a : Option Addr) (n c n' c' : Nat) => run_neq_slice_nil_any (P := Try.prog) w 22 5 a n c n' c' Try.underlying22
  by_cases hlen : len0 ≤ 1048576
  case neg =>
    go_enter Try.func8, Try.ntmps8
    go_wp2_with (go_at_call 22; refine (bytes22_no _ _ _ _ _ (by omega)).mono ?_; rintro e w' ⟨rfl, rfl⟩)
    go_ret
    exact ⟨rfl, Below.refl _ _⟩
  rcases w0 with ⟨rfl, rfl, rfl, rfl⟩ | ⟨x, rfl, hl, hm, hz, hcell, hwz⟩
  · go_enter Try.func8, Try.ntmps8
    go_wp2_with (go_at_call 22; refine (bytes22_yes _ _ _ _ _ (by omega)).mono ?_; rintro e w' ⟨rfl, rfl⟩)
    refine (dom_out none 0 0 a1 _ (by omega)).mono ?_
    rintro e w2 ⟨rfl, rfl⟩
    go_wp2_with fail
    go_ret
    exact ⟨rfl, Below.refl _ _⟩
  · have hG := getD_byte z0 hwz
    obtain ⟨W1, W2, g, hmk, hcp, hB, hc2⟩ := mk_copy w x len0 cap0 z0 hlen (by omega) hcell
    clear hcell hwz hm hz
    go_enter Try.func8, Try.ntmps8
    go_wp2_with (go_at_call 22; refine (bytes22_yes _ _ _ _ _ (by omega)).mono ?_; rintro e w' ⟨rfl, rfl⟩)
    by_cases hin : 0 ≤ a1 ∧ a1 < len0
    case neg =>
      refine (dom_out _ len0 len0 a1 _ (by omega)).mono ?_
      rintro e w2 ⟨rfl, rfl⟩
      go_wp2_with fail
      go_ret
      exact ⟨rfl, hB⟩
    obtain ⟨h0, h1⟩ := hin
    obtain ⟨k0, rfl⟩ := Int.eq_ofNat_of_zero_le h0
    refine (dom_any (fun i => z0.getD i 0) g len0 len0 hlen _ k0 W2 rfl (by omega) hc2).mono ?_
    rintro e w2 ⟨hD, r, rfl, hr⟩
    have hB2 := Dr.below hB hD
    rcases hr with rfl | ⟨J, rfl, hJ, hV, hE⟩
    · go_wp2_with fail
      go_ret
      exact ⟨rfl, hB2⟩
    · have hc3 : ∀ i, i < len0 → w2.cell? ⟨g, i, none⟩ = some (.int .u8 (z0.getD i 0)) := fun i hi => by rw [hD.cell]; exact hc2 i hi
      have hkJ := hE.pos
      clear hc2 hcp hmk
      go_wp2_with fail
      have hA : Pl.Ends (fun i => z0.getD i 0) (k0 + 0) (k0 + (J - k0)) (k0 + (J - k0)) := by
        rw [Nat.add_zero, show k0 + (J - k0) = J from by omega]; exact hV.alone
      refine (zzEnd_any (fun i => z0.getD i 0) g k0 (J - k0) (len0 - k0) _ 0 (J - k0) rfl w2 hG (by omega) (by omega) (fun i hi => hc3 (k0 + i) (by omega)) hA).mono ?_
      rintro e w3 ⟨hw3, rfl⟩
      have hw3' := hw3.symm
      clear hw3
      subst hw3'
      go_wp2_with fail
      refine (zzEnd_any (fun i => z0.getD i 0) g 0 len0 len0 _ k0 J rfl w2 hG hlen (Nat.le_refl _) (fun i hi => by simpa using hc3 i hi) (by simpa using hE)).mono ?_
      rintro e w3 ⟨hw3, rfl⟩
      have hw3' := hw3.symm
      clear hw3
      subst hw3'
      have heq : (((J - k0 : Nat) : Int) == (J : Int) - (k0 : Int)) = true := by rw [beq_iff_eq]; omega
      go_wp2_with fail
      go_ret
      exact ⟨by first | rfl | (congr 2; simp; omega), hB2⟩

end Go.Proofs.Qxb6603065a
