import Derived.Test.Qxb6604066aLeaf
import Derived.Test.Qxb6604066aAttrPl
namespace Go.Proofs.Qxb6604066a
open Go.RowKit

theorem of_nat {p : UInt8 → Bool} {q : Int → Bool} (h : ∀ n, n < 256 → p (UInt8.ofNat n) = q (n : Nat)) (b : UInt8) : p b = q (b.toNat : Int) := by
  have h := h b.toNat (UInt8.toNat_lt b)
  rw [UInt8.ofNat_toNat] at h
  exact h
theorem marks_law (b : UInt8) : decide (0 ≤ Lib.indexByte [95, 46, 58, 45] b) = ((b.toNat : Int) == 95 || (b.toNat : Int) == 46 || (b.toNat : Int) == 58 || (b.toNat : Int) == 45) :=
  of_nat (p := fun b => decide (0 ≤ Lib.indexByte [95, 46, 58, 45] b)) (q := fun c => c == 95 || c == 46 || c == 58 || c == 45) (by decide +kernel) b
theorem ws_law (b : UInt8) : decide (0 ≤ Lib.indexByte [32, 9, 13, 10] b) = Pa.wsB (b.toNat : Int) :=
  of_nat (p := fun b => decide (0 ≤ Lib.indexByte [32, 9, 13, 10] b)) (q := Pa.wsB) (by decide +kernel) b
theorem unq_law (b : UInt8) : decide (Lib.indexByte [32, 9, 13, 10, 34, 39, 61, 60, 62, 96] b < 0) = Pa.unqB (b.toNat : Int) :=
  of_nat (p := fun b => decide (Lib.indexByte [32, 9, 13, 10, 34, 39, 61, 60, 62, 96] b < 0)) (q := Pa.unqB) (by decide +kernel) b

theorem let_iff (c : Int) : Pa.letB c = true ↔ (97 ≤ c ∧ c ≤ 122) ∨ (65 ≤ c ∧ c ≤ 90) := by simp [Pa.letB]

set_option maxHeartbeats 400000 in
/-- isLetterB1 -/
theorem letM_any (c : Int) (w : World) : Calls Try.prog 26 #[.int .u8 c] w fun e w' => e = .returned (.bool (Pa.letB c)) ∧ w' = w := by
  go_enter Try.func26, Try.ntmps26
  go_wp2
  all_goals (go_ret; refine ⟨ret_bool ?_, rfl⟩; rw [let_iff]; simp; try omega)
set_option maxHeartbeats 400000 in
/-- isLetter -/
theorem let_any (c : Int) (w : World) : Calls Try.prog 31 #[.int .u8 c] w fun e w' => e = .returned (.bool (Pa.letB c)) ∧ w' = w := by
  go_enter Try.func31, Try.ntmps31
  go_wp2
  all_goals (go_ret; refine ⟨ret_bool ?_, rfl⟩; rw [let_iff]; simp; try omega)
set_option maxHeartbeats 400000 in
/-- isDigitB1 -/
theorem digM_any (c : Int) (w : World) : Calls Try.prog 27 #[.int .u8 c] w fun e w' => e = .returned (.bool (Pa.digB c)) ∧ w' = w := by
  go_enter Try.func27, Try.ntmps27
  go_wp2
  all_goals (go_ret; exact ⟨by simp [Pa.digB, *]; try omega, rfl⟩)
set_option maxHeartbeats 400000 in
/-- isDigit -/
theorem dig_any (c : Int) (w : World) : Calls Try.prog 32 #[.int .u8 c] w fun e w' => e = .returned (.bool (Pa.digB c)) ∧ w' = w := by
  go_enter Try.func32, Try.ntmps32
  go_wp2
  all_goals (go_ret; exact ⟨by simp [Pa.digB, *]; try omega, rfl⟩)
set_option maxHeartbeats 400000 in
/-- isWsB1 -/
theorem ws_any (c : Int) (w : World) : Calls Try.prog 23 #[.int .u8 c] w fun e w' => e = .returned (.bool (Pa.wsB c)) ∧ w' = w := by
  go_enter Try.func23, Try.ntmps23
  go_wp2
  all_goals (go_ret; exact ⟨by simp [Pa.wsB, *], rfl⟩)
set_option maxHeartbeats 400000 in
/-- isUnqCharB1 -/
theorem unq_any (c : Int) (w : World) : Calls Try.prog 24 #[.int .u8 c] w fun e w' => e = .returned (.bool (Pa.unqB c)) ∧ w' = w := by
  go_enter Try.func24, Try.ntmps24
  go_wp2
  all_goals (go_ret; exact ⟨by simp [Pa.unqB, *], rfl⟩)
set_option maxHeartbeats 400000 in
/-- isAttrStartB1 -/
theorem start_any (c : Int) (w : World) : Calls Try.prog 21 #[.int .u8 c] w fun e w' => e = .returned (.bool (Pa.startB c)) ∧ w' = w := by
  cases hl : Pa.letB c
  all_goals
    go_enter Try.func21, Try.ntmps21
    go_wp2_with (go_at_call 26; refine (letM_any _ _).mono ?_; rintro e w' ⟨rfl, rfl⟩)
    all_goals (go_ret; exact ⟨by simp [Pa.startB, *], rfl⟩)
set_option maxHeartbeats 400000 in
/-- isNameCharB1 -/
theorem name_any (c : Int) (w : World) : Calls Try.prog 22 #[.int .u8 c] w fun e w' => e = .returned (.bool (Pa.nameB c)) ∧ w' = w := by
  cases hl : Pa.letB c
  · cases hd : Pa.digB c
    all_goals
      go_enter Try.func22, Try.ntmps22
      go_wp2_with (first | (go_at_call 26; refine (letM_any _ _).mono ?_; rintro e w' ⟨rfl, rfl⟩) | (go_at_call 27; refine (digM_any _ _).mono ?_; rintro e w' ⟨rfl, rfl⟩))
      all_goals (go_ret; exact ⟨by simp [Pa.nameB, *], rfl⟩)
  · go_enter Try.func22, Try.ntmps22
    go_wp2_with (first | (go_at_call 26; refine (letM_any _ _).mono ?_; rintro e w' ⟨rfl, rfl⟩) | (go_at_call 27; refine (digM_any _ _).mono ?_; rintro e w' ⟨rfl, rfl⟩))
    all_goals (go_ret; exact ⟨by simp [Pa.nameB, *], rfl⟩)

set_option maxHeartbeats 400000 in
/-- skipSpace -/
theorem skip_any (s : ByteArray) (i : Int) (a b : Nat) (hi : i = a) (w : World) (hs : s.size ≤ 1048576) (hR : Pa.Runs Pa.wsB (at0 s) s.size a b) :
    Calls Try.prog 34 #[.string s, .int .i64 i] w fun e w' => e = .returned (.int .i64 b) ∧ w' = w := by
  subst hi
  have hlim := hR.lim
  have hle := hR.le
  go_enter Try.func34, Try.ntmps34
  go_wp2_with fail
  go_loop [1] (fun t => ∃ k : Nat, t = .int .i64 k ∧ a ≤ k ∧ k ≤ b) (fun t => s.size - (intOf t).toNat)
  case atStart => exact ⟨a, rfl, by omega, hle⟩
  case round =>
    obtain ⟨k, rfl, hk1, hk2⟩ := hrel
    by_cases hlt : k < s.size
    case neg =>
      obtain rfl : k = b := by omega
      have hge : decide ((k : Int) < (s.size : Int)) = false := by simp; omega
      go_wp2_with (go_at_call 33; refine (ib_any _ _ _).mono ?_; rintro e w' ⟨rfl, rfl⟩)
      go_ret
      exact ⟨rfl, rfl⟩
    have e : at0 s k = (s[k].toNat : Int) := at0_in hlt
    have hl := ws_law s[k]
    rw [← e] at hl
    clear e
    cases hw : Pa.wsB (at0 s k)
    · obtain rfl : k = b := hR.no hk1 hk2 hw
      rw [hw] at hl
      clear hw
      go_wp2_with (go_at_call 33; refine (ib_any _ _ _).mono ?_; rintro e w' ⟨rfl, rfl⟩)
      go_ret
      exact ⟨rfl, rfl⟩
    · have hkb := hR.yes hlt hk2 hw
      rw [hw] at hl
      clear hw
      go_wp2_with (go_at_call 33; refine (ib_any _ _ _).mono ?_; rintro e w' ⟨rfl, rfl⟩)
      go_round
      case rel => exact ⟨k + 1, by go_num, by omega, by omega⟩
      case measure => simp [intOf]; omega
end Go.Proofs.Qxb6604066a
