import Derived.Test.Qxb6603490aChecked
import Derived.WalkKit
import Derived.ProofKit
import Derived.Lib.Bytealg
namespace Go.Proofs.Qxb6603490a
open Go.RowKit

set_option maxHeartbeats 400000 in
/-- internal/stringslite.IndexByte -/
theorem lite_any (s : ByteArray) (c : Int) (w : World) : Calls Try.prog 13 #[.string s, .int .u8 c] w fun e w' => e = .returned (.int .i64 (Lib.indexByte s.data.toList c.toNat.toUInt8)) ∧ w' = w := by
  have hrun := Lib.run_indexByteString (P := Try.prog) s c w
  go_enter Try.func13, Try.ntmps13
  go_wp2
  rw [run_callFunc_extern Try.func14 (by kernel_rfl) (by kernel_rfl) (by kernel_rfl) (e := Extern.BytealgIndexByte.indexByte) (by kernel_rfl), hrun]
  simp only [Result.andThen]
  rw [Oper.upon_value]
  go_wp2
  go_ret
  exact ⟨rfl, rfl⟩

set_option maxHeartbeats 400000 in
/-- strings.IndexByte -/
theorem ib_any (s : ByteArray) (c : Int) (w : World) : Calls Try.prog 12 #[.string s, .int .u8 c] w fun e w' => e = .returned (.int .i64 (Lib.indexByte s.data.toList c.toNat.toUInt8)) ∧ w' = w := by
  go_enter Try.func12, Try.ntmps12
  go_wp2_with (go_at_call 13; refine (lite_any _ _ _).mono ?_; rintro e w' ⟨rfl, rfl⟩)
  go_ret
  exact ⟨rfl, rfl⟩

/-- the fifteen signs of a token that are no letter and no digit -/
def signs : List UInt8 := [33, 35, 36, 37, 38, 39, 42, 43, 45, 46, 94, 95, 96, 124, 126]
def tokB (c : Int) : Bool := (decide (97 ≤ c) && decide (c ≤ 122)) || (decide (65 ≤ c) && decide (c ≤ 90)) || (decide (48 ≤ c) && decide (c ≤ 57)) || decide (0 ≤ Lib.indexByte signs c.toNat.toUInt8)
def delB (c : Int) : Bool := c == 34 || c == 40 || c == 41 || c == 44 || c == 47 || c == 58 || c == 59 || c == 60 || c == 61 || c == 62 || c == 63 || c == 64 || c == 91 || c == 92 || c == 93 || c == 123 || c == 125

theorem law_nat : ∀ n, n < 256 → tokB (n : Nat) = (decide (32 < ((n : Nat) : Int)) && decide (((n : Nat) : Int) < 127) && !delB (n : Nat)) := by decide +kernel
theorem law (c : Int) (h0 : 0 ≤ c) (h1 : c ≤ 255) : tokB c = (decide (32 < c) && decide (c < 127) && !delB c) := by
  obtain ⟨n, rfl⟩ := Int.eq_ofNat_of_zero_le h0
  exact law_nat n (by omega)

set_option maxHeartbeats 400000 in
/-- isHTTPDelimiter -/
theorem del_any (c : Int) (w : World) : Calls Try.prog 7 #[.int .u8 c] w fun e w' => e = .returned (.bool (delB c)) ∧ w' = w := by
  go_enter Try.func7, Try.ntmps7
  go_wp2
  all_goals (go_ret; exact ⟨by simp [delB, *], rfl⟩)

def Alnum (c : Int) : Prop := (97 ≤ c ∧ c ≤ 122) ∨ (65 ≤ c ∧ c ≤ 90) ∨ (48 ≤ c ∧ c ≤ 57)
theorem tok_yes {c : Int} (h : Alnum c) : tokB c = true := by
  unfold Alnum at h
  simp [tokB]
  omega
theorem tok_no {c : Int} (h : ¬ Alnum c) : tokB c = decide (0 ≤ Lib.indexByte signs (UInt8.ofNat c.toNat)) := by
  unfold Alnum at h
  have a : (decide (97 ≤ c) && decide (c ≤ 122)) = false := by simp; omega
  have b : (decide (65 ≤ c) && decide (c ≤ 90)) = false := by simp; omega
  have d : (decide (48 ≤ c) && decide (c ≤ 57)) = false := by simp; omega
  unfold tokB
  rw [a, b, d]
  rfl

set_option maxHeartbeats 400000 in
/-- isTokenChar, a letter or a digit -/
theorem tok_any_yes (c : Int) (w : World) (h : Alnum c) : Calls Try.prog 10 #[.int .u8 c] w fun e w' => e = .returned (.bool (tokB c)) ∧ w' = w := by
  have ht := tok_yes h
  have HT : Hid (tokB c = true) := ht
  clear ht
  unfold Alnum at h
  rcases h with ⟨h1, h2⟩ | ⟨h1, h2⟩ | ⟨h1, h2⟩
  all_goals
    go_enter Try.func10, Try.ntmps10
    go_wp2_with fail
    go_ret
    exact ⟨by rw [HT.out]; rfl, rfl⟩

set_option maxHeartbeats 400000 in
/-- isTokenChar, neither letter nor digit -/
theorem tok_any_no (c : Int) (w : World) (h : ¬ Alnum c) : Calls Try.prog 10 #[.int .u8 c] w fun e w' => e = .returned (.bool (tokB c)) ∧ w' = w := by
  have ht := tok_no h
  have HT : Hid (tokB c = decide (0 ≤ Lib.indexByte signs (UInt8.ofNat c.toNat))) := ht
  clear ht
  unfold Alnum at h
  have h3 : c < 48 ∨ (57 < c ∧ c < 65) ∨ (90 < c ∧ c < 97) ∨ 122 < c := by omega
  clear h
  rcases h3 with h1 | ⟨h1, h2⟩ | ⟨h1, h2⟩ | h1
  all_goals
    go_enter Try.func10, Try.ntmps10
    go_wp2_with (go_at_call 12; refine (ib_any _ _ _).mono ?_; rintro e w' ⟨rfl, rfl⟩)
    go_ret
    exact ⟨by rw [HT.out]; rfl, rfl⟩

theorem tok_any (c : Int) (w : World) : Calls Try.prog 10 #[.int .u8 c] w fun e w' => e = .returned (.bool (tokB c)) ∧ w' = w := by
  by_cases h : Alnum c
  · exact tok_any_yes c w h
  · exact tok_any_no c w h

set_option maxHeartbeats 400000 in
/-- ZZisTokenChar -/
theorem zz_any (c : Int) (w : World) : Calls Try.prog 8 #[.int .u8 c] w fun e w' => e = .returned (.bool (tokB c)) ∧ w' = w := by
  go_enter Try.func8, Try.ntmps8
  go_wp2_with (go_at_call 10; refine (tok_any _ _).mono ?_; rintro e w' ⟨rfl, rfl⟩)
  go_ret
  exact ⟨rfl, rfl⟩

set_option maxHeartbeats 400000 in
/-- FnTokenCharIsVisibleASCIIButDelimiter -/
theorem top_walk (c : Int) (w : World) (h0 : 0 ≤ c) (h1 : c ≤ 255) : Calls Try.prog 3 #[.int .u8 c] w fun e w' => e = .returned (.bool true) ∧ w' = w := by
  have hl := law c h0 h1
  have hh : c ≤ 32 ∨ 127 ≤ c ∨ (32 < c ∧ c < 127) := by omega
  rcases hh with h2 | h2 | ⟨h2, h3⟩
  · have ht : tokB c = false := by rw [hl]; simp; omega
    have g1 : decide (32 < c) = false := by simp; omega
    clear hl
    go_enter Try.func3, Try.ntmps3
    go_wp2_with (first | (go_at_call 8; refine (zz_any _ _).mono ?_; rintro e w' ⟨rfl, rfl⟩) | (go_at_call 7; refine (del_any _ _).mono ?_; rintro e w' ⟨rfl, rfl⟩))
    go_ret
    exact ⟨rfl, rfl⟩
  · have ht : tokB c = false := by rw [hl]; simp; omega
    have g1 : decide (32 < c) = true := by simp; omega
    have g2 : decide (c < 127) = false := by simp; omega
    clear hl
    go_enter Try.func3, Try.ntmps3
    go_wp2_with (first | (go_at_call 8; refine (zz_any _ _).mono ?_; rintro e w' ⟨rfl, rfl⟩) | (go_at_call 7; refine (del_any _ _).mono ?_; rintro e w' ⟨rfl, rfl⟩))
    go_ret
    exact ⟨rfl, rfl⟩
  · have ht : tokB c = !delB c := by rw [hl]; simp; omega
    have g1 : decide (32 < c) = true := by simp; omega
    have g2 : decide (c < 127) = true := by simp; omega
    clear hl
    cases hd : delB c
    all_goals
      rw [hd] at ht
      simp only [Bool.not_true, Bool.not_false] at ht
      go_enter Try.func3, Try.ntmps3
      go_wp2_with (first | (go_at_call 8; refine (zz_any _ _).mono ?_; rintro e w' ⟨rfl, rfl⟩) | (go_at_call 7; refine (del_any _ _).mono ?_; rintro e w' ⟨rfl, rfl⟩))
      go_ret
      exact ⟨rfl, rfl⟩
end Go.Proofs.Qxb6603490a
