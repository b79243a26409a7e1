import Derived.Test.Qxb6604066aAttrM
import Derived.RowKit3
namespace Go.Proofs.Qxb6604066a
open Go.RowKit

set_option maxRecDepth 100000 in
set_option maxHeartbeats 1000000 in
/-- attribute, where no name begins -/
theorem attr_out (s : ByteArray) (i : Int) (w : World) (_hs : s.size ≤ 1048576) (h : (s.size : Int) ≤ i ∨ ∃ i0 : Nat, i = i0 ∧ i0 < s.size ∧ Pa.startB (at0 s i0) = false) :
    Calls Try.prog 20 #[.string s, .int .i64 i] w fun e w' => e = .returned (.int .i64 i) ∧ w' = w := by
  rcases h with h | ⟨i0, rfl, h0, hst⟩
  · have hge : decide ((s.size : Int) ≤ i) = true := by simpa using h
    go_enter Try.func20, Try.ntmps20
    go_wp2_with fail
    go_ret
    exact ⟨rfl, rfl⟩
  · have hge : decide ((s.size : Int) ≤ (i0 : Int)) = false := by simp; omega
    have hgeN : decide (s.size ≤ i0) = false := by simp; omega
    rw [at0_in h0] at hst
    have h1 : Pa.letB (s[i0].toNat : Int) = false := by simp [Pa.startB] at hst; simp [hst]
    have h2 : ((s[i0].toNat : Int) != 95) = true := by simp [Pa.startB] at hst; simp [hst]
    have h3 : ((s[i0].toNat : Int) != 58) = true := by simp [Pa.startB] at hst; simp [hst]
    clear hst
    go_enter Try.func20, Try.ntmps20
    go_wp2_with (go_at_call 31; refine (let_any _ _).mono ?_; rintro e w' ⟨rfl, rfl⟩)
    go_ret
    exact ⟨rfl, rfl⟩

set_option maxRecDepth 100000 in
set_option maxHeartbeats 1000000 in
/-- attrModelB1, where no name begins -/
theorem attrM_out (s : ByteArray) (i : Int) (w : World) (_hs : s.size ≤ 1048576) (h : (s.size : Int) ≤ i ∨ ∃ i0 : Nat, i = i0 ∧ i0 < s.size ∧ Pa.startB (at0 s i0) = false) :
    Calls Try.prog 13 #[.string s, .int .i64 i] w fun e w' => e = .returned (.int .i64 i) ∧ w' = w := by
  rcases h with h | ⟨i0, rfl, h0, hst⟩
  · have hge : decide ((s.size : Int) ≤ i) = true := by simpa using h
    go_enter Try.func13, Try.ntmps13
    go_wp2_with fail
    go_ret
    exact ⟨rfl, rfl⟩
  · have hge : decide ((s.size : Int) ≤ (i0 : Int)) = false := by simp; omega
    have hgeN : decide (s.size ≤ i0) = false := by simp; omega
    rw [at0_in h0] at hst
    go_enter Try.func13, Try.ntmps13
    go_wp2_with (go_at_call 21; refine (start_any _ _).mono ?_; rintro e w' ⟨rfl, rfl⟩)
    go_ret
    exact ⟨rfl, rfl⟩

/-- both answer one number -/
theorem both (s : ByteArray) (i : Int) (hi : 0 ≤ i) (hs : s.size ≤ 1048576) : ∃ r : Int,
    (∀ w, Calls Try.prog 20 #[.string s, .int .i64 i] w fun e w' => e = .returned (.int .i64 r) ∧ ∃ q, w' = w.drewN q) ∧
    (∀ w, Calls Try.prog 13 #[.string s, .int .i64 i] w fun e w' => e = .returned (.int .i64 r) ∧ w' = w) := by
  by_cases hin : i < s.size
  · obtain ⟨i0, rfl⟩ := Int.eq_ofNat_of_zero_le hi
    have h0 : i0 < s.size := by omega
    cases hst : Pa.startB (at0 s i0)
    · refine ⟨i0, fun w => ?_, fun w => attrM_out s _ w hs (.inr ⟨i0, rfl, h0, hst⟩)⟩
      refine (attr_out s _ w hs (.inr ⟨i0, rfl, h0, hst⟩)).mono ?_
      rintro e w' ⟨h1, h2⟩
      exact ⟨h1, 0, h2⟩
    · obtain ⟨E, Q, V, C, U, hM⟩ := Pa.Marks.ex (at0 s) s.size i0 h0
      exact ⟨_, fun w => attr_any s _ i0 E Q V C U rfl w hs h0 hst hM, fun w => attrM_any s _ i0 E Q V C U rfl w hs h0 hst hM⟩
  · refine ⟨i, fun w => ?_, fun w => attrM_out s i w hs (.inl (by omega))⟩
    refine (attr_out s i w hs (.inl (by omega))).mono ?_
    rintro e w' ⟨h1, h2⟩
    exact ⟨h1, 0, h2⟩

set_option maxHeartbeats 400000 in
theorem bytes11_yes (s : ByteArray) (i : Int) (w : World) (hn : s.size ≤ 1048576) : Calls Try.prog 11 #[.string s, .int .i64 i] w fun e w' => e = .returned (.bool true) ∧ w' = w := by
  go_enter Try.func11, Try.ntmps11
  go_wp2
  go_ret
  exact ⟨rfl, rfl⟩
set_option maxHeartbeats 400000 in
theorem bytes11_no (s : ByteArray) (i : Int) (w : World) (hn : 1048576 < s.size) (hm : s.size ≤ 9223372036854775807) : Calls Try.prog 11 #[.string s, .int .i64 i] w fun e w' => e = .returned (.bool false) ∧ w' = w := by
  go_enter Try.func11, Try.ntmps11
  go_wp2
  go_ret
  exact ⟨rfl, rfl⟩

set_option maxHeartbeats 1000000 in
/-- FnAttributeModel -/
theorem topA_walk (s : ByteArray) (i : Int) (w : World) (hm : s.size ≤ maxLen) :
    Calls Try.prog 5 #[.string s, .int .i64 i] w fun e w' => e = .returned (.bool true) ∧ ∃ q, w' = w.drewN q := by
  unfold maxLen at hm
  by_cases hbig : s.size ≤ 1048576
  case neg =>
    go_enter Try.func5, Try.ntmps5
    go_wp2_with (go_at_call 11; refine (bytes11_no _ _ _ (by omega) (by omega)).mono ?_; rintro e w' ⟨rfl, rfl⟩)
    go_ret
    exact ⟨rfl, 0, rfl⟩
  by_cases hneg : i < 0
  · have g0 : decide (i < 0) = true := by simpa using hneg
    go_enter Try.func5, Try.ntmps5
    go_wp2_with (go_at_call 11; refine (bytes11_yes _ _ _ (by omega)).mono ?_; rintro e w' ⟨rfl, rfl⟩)
    go_ret
    exact ⟨rfl, 0, rfl⟩
  have g0 : decide (i < 0) = false := by simpa using hneg
  obtain ⟨r, hA, hB⟩ := both s i (by omega) hbig
  have HA : Hid (∀ w, Calls Try.prog 20 #[.string s, .int .i64 i] w fun e w' => e = .returned (.int .i64 r) ∧ ∃ q, w' = w.drewN q) := hA
  have HB : Hid (∀ w, Calls Try.prog 13 #[.string s, .int .i64 i] w fun e w' => e = .returned (.int .i64 r) ∧ w' = w) := hB
  clear hA hB
  go_enter Try.func5, Try.ntmps5
  go_wp2_with (first | (go_at_call 11; refine (bytes11_yes _ _ _ (by omega)).mono ?_; rintro e w' ⟨rfl, rfl⟩) | (go_at_call 12; go_in))
  refine (HA.out _).mono ?_
  rintro e w' ⟨rfl, q, rfl⟩
  go_wp2_with fail
  refine (HB.out _).mono ?_
  rintro e w' ⟨rfl, rfl⟩
  go_wp2_with fail
  go_ret
  exact ⟨by simp, q, rfl⟩
end Go.Proofs.Qxb6604066a
