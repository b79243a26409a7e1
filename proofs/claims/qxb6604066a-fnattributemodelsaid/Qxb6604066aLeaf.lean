import Derived.Test.Qxb6604066aChecked
import Derived.Test.Qxb6604066aPlain
import Derived.WalkKit
import Derived.ProofKit
import Derived.WalkSpells
import Derived.Lib.Bytealg
import Derived.Lib.Strings
import Derived.Lib.Slices
import Derived.Lib.Walk
namespace Go.Proofs.Qxb6604066a
open Go.RowKit

/-- the byte at a place of a string; 0 behind its end -/
def at0 (s : ByteArray) (k : Nat) : Int := if h : k < s.size then (s[k].toNat : Int) else 0
theorem at0_in {s : ByteArray} {k : Nat} (h : k < s.size) : at0 s k = (s[k].toNat : Int) := by simp [at0, h]
theorem at0_out {s : ByteArray} {k : Nat} (h : s.size ≤ k) : at0 s k = 0 := by simp [at0]; omega
theorem at0_bd (s : ByteArray) (k : Nat) : 0 ≤ at0 s k ∧ at0 s k < 256 := by
  unfold at0
  split
  · have := UInt8.toNat_lt s[k]; omega
  · omega
theorem ret_int {k : IntKind} {a b : Int} (h : a = b) : Ending.returned (.int k a) = .returned (.int k b) := by rw [h]

set_option maxHeartbeats 400000 in
/-- internal/stringslite.IndexByte -/
theorem lite_any (s : ByteArray) (c : Int) (w : World) : Calls Try.prog 38 #[.string s, .int .u8 c] w fun e w' => e = .returned (.int .i64 (Lib.indexByte s.data.toList c.toNat.toUInt8)) ∧ w' = w := by
  have hrun := Lib.run_indexByteString (P := Try.prog) s c w
  go_enter Try.func38, Try.ntmps38
  go_wp2
  rw [run_callFunc_extern Try.func39 (by kernel_rfl) (by kernel_rfl) (by kernel_rfl) (e := Extern.BytealgIndexByte.indexByte) (by kernel_rfl), hrun]
  simp only [Result.andThen]
  rw [Oper.upon_value]
  go_wp2
  go_ret
  exact ⟨rfl, rfl⟩

set_option maxHeartbeats 400000 in
/-- strings.IndexByte -/
theorem ib_any (s : ByteArray) (c : Int) (w : World) : Calls Try.prog 33 #[.string s, .int .u8 c] w fun e w' => e = .returned (.int .i64 (Lib.indexByte s.data.toList c.toNat.toUInt8)) ∧ w' = w := by
  go_enter Try.func33, Try.ntmps33
  go_wp2_with (go_at_call 38; refine (lite_any _ _ _).mono ?_; rintro e w' ⟨rfl, rfl⟩)
  go_ret
  exact ⟨rfl, rfl⟩

set_option maxHeartbeats 1000000 in
/-- strings.HasPrefix (the shelf's text at this program's numbers) -/
theorem hp_any (s p : ByteArray) (w : World) :
    Calls Try.prog 28 #[.string s, .string p] w fun e w' => e = .returned (.bool (Lib.hasPrefix s.data.toList p.data.toList)) ∧ w' = w := by
  rw [← Lib.hasPrefix_of_take, ← Lib.size_eq, ← Lib.size_eq]
  go_enter Try.func28, Try.ntmps28
  go_wp2
  · rename_i h
    go_ret
    refine ⟨?_, rfl⟩
    show Ending.returned (Value.bool ((s.extract 0 p.size).toList == p.toList)) = _
    rw [Lib.extract_toList, Lib.toList_data]
    simp [h]
  · rename_i h
    go_ret
    refine ⟨?_, rfl⟩
    show Ending.returned (Value.bool false) = _
    simp [h]

theorem pun_nat : ∀ n, n < 256 → decide (0 ≤ Lib.indexByte [33, 34, 35, 36, 37, 38, 39, 40, 41, 42, 43, 44, 45, 46, 47, 58, 59, 60, 61, 62, 63, 64, 91, 92, 93, 94, 95, 96, 123, 124, 125, 126] (UInt8.ofNat ((n : Nat) : Int).toNat)) = Pl.punB (n : Nat) := by decide +kernel
theorem pun_law (b : UInt8) : decide (0 ≤ Lib.indexByte [33, 34, 35, 36, 37, 38, 39, 40, 41, 42, 43, 44, 45, 46, 47, 58, 59, 60, 61, 62, 63, 64, 91, 92, 93, 94, 95, 96, 123, 124, 125, 126] b) = Pl.punB (b.toNat : Int) := by
  have h := pun_nat b.toNat (UInt8.toNat_lt b)
  rw [Int.toNat_natCast, UInt8.ofNat_toNat] at h
  exact h
theorem ret_bool {a b : Bool} (h : a = true ↔ b = true) : Ending.returned (.bool a) = .returned (.bool b) := by rw [Bool.eq_iff_iff.2 h]

set_option maxHeartbeats 400000 in
/-- isPunctB1 -/
theorem pun_any (c : Int) (w : World) : Calls Try.prog 37 #[.int .u8 c] w fun e w' => e = .returned (.bool (Pl.punB c)) ∧ w' = w := by
  go_enter Try.func37, Try.ntmps37
  go_wp2
  all_goals (go_ret; refine ⟨ret_bool ?_, rfl⟩; rw [Pl.pun_iff]; simp; try omega)

set_option maxHeartbeats 400000 in
/-- escapes -/
theorem escapes_any (s : ByteArray) (i : Int) (k : Nat) (hi : i = k) (w : World) (hs : s.size ≤ 1048576) (hk : k < s.size) :
    Calls Try.prog 29 #[.string s, .int .i64 i] w fun e w' => e = .returned (.bool (Pl.punB (at0 s (k + 1)))) ∧ w' = w := by
  subst hi
  by_cases h1 : k + 1 < s.size
  · have hl := pun_law s[k + 1]
    have HL : Hid _ := hl
    have HA : Hid (at0 s (k + 1) = (s[k + 1].toNat : Int)) := at0_in h1
    have e1 : ((k : Int) + 1).toNat = k + 1 := by omega
    clear hl
    go_enter Try.func29, Try.ntmps29
    go_wp2_with (go_at_call 33; refine (ib_any _ _ _).mono ?_; rintro e w' ⟨rfl, rfl⟩)
    go_ret
    refine ⟨?_, rfl⟩
    rw [HA.out, ← HL.out]
    rfl
  · have hge : decide ((k : Int) + 1 < (s.size : Int)) = false := by simp; omega
    have HA : Hid (at0 s (k + 1) = 0) := at0_out (by omega)
    go_enter Try.func29, Try.ntmps29
    go_wp2_with (go_at_call 33; refine (ib_any _ _ _).mono ?_; rintro e w' ⟨rfl, rfl⟩)
    go_ret
    refine ⟨?_, rfl⟩
    rw [HA.out, Pl.pun_zero]
    rfl

set_option maxHeartbeats 400000 in
/-- escapedPairB1 -/
theorem pair_any (s : ByteArray) (i : Int) (k : Nat) (hi : i = k) (w : World) (hs : s.size ≤ 1048576) (hk : k < s.size) :
    Calls Try.prog 30 #[.string s, .int .i64 i] w fun e w' => e = .returned (.bool (at0 s k == 92 && Pl.punB (at0 s (k + 1)))) ∧ w' = w := by
  subst hi
  have HK : Hid (at0 s k = (s[k].toNat : Int)) := at0_in hk
  by_cases h92 : (s[k].toNat : Int) = 92
  · have g0 : ((s[k].toNat : Int) == 92) = true := by simp [h92]
    have H92 : Hid ((s[k].toNat : Int) = 92) := h92
    clear h92
    by_cases h1 : k + 1 < s.size
    · have e1 : ((k : Int) + 1).toNat = k + 1 := by omega
      have HA : Hid (at0 s (k + 1) = (s[k + 1].toNat : Int)) := at0_in h1
      go_enter Try.func30, Try.ntmps30
      go_wp2_with (go_at_call 37; refine (pun_any _ _).mono ?_; rintro e w' ⟨rfl, rfl⟩)
      go_ret
      refine ⟨?_, rfl⟩
      rw [HA.out, HK.out, H92.out]
      rfl
    · have hge : decide ((k : Int) + 1 < (s.size : Int)) = false := by simp; omega
      have HA : Hid (at0 s (k + 1) = 0) := at0_out (by omega)
      go_enter Try.func30, Try.ntmps30
      go_wp2_with (go_at_call 37; refine (pun_any _ _).mono ?_; rintro e w' ⟨rfl, rfl⟩)
      go_ret
      refine ⟨?_, rfl⟩
      rw [HA.out, Pl.pun_zero, Bool.and_false]
      rfl
  · have g0 : ((s[k].toNat : Int) == 92) = false := by simp [h92]
    have H92 : Hid ((s[k].toNat : Int) ≠ 92) := h92
    clear h92
    go_enter Try.func30, Try.ntmps30
    go_wp2_with (go_at_call 37; refine (pun_any _ _).mono ?_; rintro e w' ⟨rfl, rfl⟩)
    go_ret
    refine ⟨?_, rfl⟩
    rw [HK.out, beq_eq_false_iff_ne.2 H92.out, Bool.false_and]
    rfl
end Go.Proofs.Qxb6604066a
