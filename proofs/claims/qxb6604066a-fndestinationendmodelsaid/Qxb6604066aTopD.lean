import Derived.Test.Qxb6604066aModel
namespace Go.Proofs.Qxb6604066a
open Go.RowKit

/-- WHAT BOTH SIDES ANSWER: a number that is told by the text alone -/
def DestAns (s : ByteArray) (i r : Nat) : Prop := (at0 s i = 60 → Pl.AngAns (at0 s) s.size i r) ∧ (at0 s i ≠ 60 → Bare (at0 s) i r)
theorem DestAns.uniq {s : ByteArray} {i r q : Nat} (hi : i ≤ s.size) (h : DestAns s i r) (h2 : DestAns s i q) : r = q := by
  by_cases h60 : at0 s i = 60
  · exact (h.1 h60).uniq (h2.1 h60)
  · obtain ⟨⟨p, d, m⟩, hR, hst, _⟩ := Pl.run_ends (H := at0 s) (n := s.size) (fun k hk => at0_out hk) s.size (i, 0, 0) hi (by simp)
    rw [h.2 h60 p d m hR hst, h2.2 h60 p d m hR hst]
theorem at60_lt {s : ByteArray} {i : Nat} (h : at0 s i = 60) : i < s.size := by
  by_cases hi : i < s.size
  · exact hi
  · rw [at0_out (by omega)] at h; omega

theorem dest_any (s : ByteArray) (i : Int) (i0 : Nat) (hi : i = i0) (w : World) (hs : s.size ≤ 1048576) (h0 : i0 ≤ s.size) :
    Calls Try.prog 17 #[.string s, .int .i64 i] w fun e w' => w' = w ∧ ∃ r : Nat, e = .returned (.int .i64 r) ∧ DestAns s i0 r := by
  by_cases h60 : at0 s i0 = 60
  · refine (dest_ang s i i0 hi w hs (at60_lt h60) h60).mono ?_
    rintro e w' ⟨h1, r, h2, h3⟩
    exact ⟨h1, r, h2, fun _ => h3, fun h => (h h60).elim⟩
  · refine (dest_bare s i i0 hi w hs h0 h60).mono ?_
    rintro e w' ⟨h1, r, h2, h3⟩
    exact ⟨h1, r, h2, fun h => (h60 h).elim, fun _ => h3⟩
theorem model_any (s : ByteArray) (i : Int) (i0 : Nat) (hi : i = i0) (w : World) (hs : s.size ≤ 1048576) (h0 : i0 ≤ s.size) :
    Calls Try.prog 9 #[.string s, .int .i64 i] w fun e w' => w' = w ∧ ∃ r : Nat, e = .returned (.int .i64 r) ∧ DestAns s i0 r := by
  by_cases h60 : at0 s i0 = 60
  · refine (model_ang s i i0 hi w hs (at60_lt h60) h60).mono ?_
    rintro e w' ⟨h1, r, h2, h3⟩
    exact ⟨h1, r, h2, fun _ => h3, fun h => (h h60).elim⟩
  · refine (model_bare s i i0 hi w hs h0 h60).mono ?_
    rintro e w' ⟨h1, r, h2, h3⟩
    exact ⟨h1, r, h2, fun h => (h60 h).elim, fun _ => h3⟩

set_option maxHeartbeats 400000 in
/-- ZZDestinationEnd -/
theorem zzdest_any (s : ByteArray) (i : Int) (i0 : Nat) (hi : i = i0) (w : World) (hs : s.size ≤ 1048576) (h0 : i0 ≤ s.size) :
    Calls Try.prog 8 #[.string s, .int .i64 i] w fun e w' => w' = w ∧ ∃ r : Nat, e = .returned (.int .i64 r) ∧ DestAns s i0 r := by
  subst hi
  go_enter Try.func8, Try.ntmps8
  go_wp2_with fail
  refine (dest_any s _ i0 rfl w hs h0).mono ?_
  rintro e w' ⟨rfl, r, rfl, hA⟩
  go_wp2_with fail
  go_ret
  exact ⟨rfl, r, rfl, hA⟩

set_option maxHeartbeats 400000 in
theorem bytes7_yes (s : ByteArray) (i : Int) (w : World) (hn : s.size ≤ 1048576) : Calls Try.prog 7 #[.string s, .int .i64 i] w fun e w' => e = .returned (.bool true) ∧ w' = w := by
  go_enter Try.func7, Try.ntmps7
  go_wp2
  go_ret
  exact ⟨rfl, rfl⟩
set_option maxHeartbeats 400000 in
theorem bytes7_no (s : ByteArray) (i : Int) (w : World) (hn : 1048576 < s.size) (hm : s.size ≤ 9223372036854775807) : Calls Try.prog 7 #[.string s, .int .i64 i] w fun e w' => e = .returned (.bool false) ∧ w' = w := by
  go_enter Try.func7, Try.ntmps7
  go_wp2
  go_ret
  exact ⟨rfl, rfl⟩

set_option maxHeartbeats 1000000 in
/-- FnDestinationEndModel -/
theorem topD_walk (s : ByteArray) (i : Int) (w : World) (hm : s.size ≤ maxLen) :
    Calls Try.prog 3 #[.string s, .int .i64 i] w fun e w' => e = .returned (.bool true) ∧ w' = w := by
  unfold maxLen at hm
  by_cases hbig : s.size ≤ 1048576
  case neg =>
    go_enter Try.func3, Try.ntmps3
    go_wp2_with (go_at_call 7; refine (bytes7_no _ _ _ (by omega) (by omega)).mono ?_; rintro e w' ⟨rfl, rfl⟩)
    go_ret
    exact ⟨rfl, rfl⟩
  by_cases h12 : s.size ≤ 4096
  case neg =>
    go_enter Try.func3, Try.ntmps3
    go_wp2_with (go_at_call 7; refine (bytes7_yes _ _ _ (by omega)).mono ?_; rintro e w' ⟨rfl, rfl⟩)
    go_ret
    exact ⟨rfl, rfl⟩
  by_cases hneg : i < 0
  · have g0 : decide (i < 0) = true := by simpa using hneg
    go_enter Try.func3, Try.ntmps3
    go_wp2_with (go_at_call 7; refine (bytes7_yes _ _ _ (by omega)).mono ?_; rintro e w' ⟨rfl, rfl⟩)
    go_ret
    exact ⟨rfl, rfl⟩
  have g0 : decide (i < 0) = false := by simpa using hneg
  by_cases hover : (s.size : Int) < i
  · have g1 : decide ((s.size : Int) < i) = true := by simpa using hover
    go_enter Try.func3, Try.ntmps3
    go_wp2_with (go_at_call 7; refine (bytes7_yes _ _ _ (by omega)).mono ?_; rintro e w' ⟨rfl, rfl⟩)
    go_ret
    exact ⟨rfl, rfl⟩
  obtain ⟨i0, rfl⟩ := Int.eq_ofNat_of_zero_le (show 0 ≤ i by omega)
  have g1 : decide ((s.size : Int) < (i0 : Int)) = false := by simp; omega
  go_enter Try.func3, Try.ntmps3
  go_wp2_with (go_at_call 7; refine (bytes7_yes _ _ _ (by omega)).mono ?_; rintro e w' ⟨rfl, rfl⟩)
  refine (zzdest_any s _ i0 rfl _ hbig (by omega)).mono ?_
  rintro e w' ⟨rfl, r, rfl, hA⟩
  go_wp2_with fail
  refine (model_any s _ i0 rfl _ hbig (by omega)).mono ?_
  rintro e w' ⟨rfl, q, rfl, hB⟩
  obtain rfl : r = q := hA.uniq (by omega) hB
  clear hA hB
  go_wp2_with fail
  go_ret
  exact ⟨by simp, rfl⟩
end Go.Proofs.Qxb6604066a
