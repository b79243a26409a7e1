import Derived.Test.Qxb6604254aChecked
import Derived.WalkKit
import Derived.ProofKit
import Derived.WalkSpells
import Derived.Lib.Bytealg
import Derived.Lib.Strings
import Derived.Lib.Slices
import Derived.Lib.Walk
import Derived.Deep.QuietTactic
import Derived.BigQuiet
namespace Go.Proofs.Qxb6604254a
open Go.RowKit

/-- the world some draws later -/
def Dr (w w' : World) : Prop := ∃ q, w' = w.drewN q
theorem Dr.refl (w : World) : Dr w w := ⟨0, rfl⟩
theorem Dr.trans {a b c : World} (h : Dr a b) (h2 : Dr b c) : Dr a c := by
  obtain ⟨q, rfl⟩ := h
  obtain ⟨r, rfl⟩ := h2
  exact ⟨q + r, by simp⟩
theorem Dr.drewN {a b : World} (h : Dr a b) (q : Nat) : Dr a (b.drewN q) := h.trans ⟨q, rfl⟩

/-- the byte at a place of a string; 0 behind its end -/
def at0 (s : ByteArray) (k : Nat) : Int := if h : k < s.size then (s[k].toNat : Int) else 0
theorem at0_in {s : ByteArray} {k : Nat} (h : k < s.size) : at0 s k = (s[k].toNat : Int) := by simp [at0, h]
theorem ret_int {k : IntKind} {a b : Int} (h : a = b) : Ending.returned (.int k a) = .returned (.int k b) := by rw [h]
theorem list_at (s : ByteArray) (k : Nat) (h : k < s.size) : s.data.toList[k]? = some s[k] := by
  rw [List.getElem?_eq_getElem (by simpa using h)]
  rfl
theorem at0_eq_iff {s t : ByteArray} {j k : Nat} (hj : j < s.size) (hk : k < t.size) : at0 s j = at0 t k ↔ s.data.toList[j]? = t.data.toList[k]? := by
  rw [at0_in hj, at0_in hk, list_at s j hj, list_at t k hk]
  constructor
  · intro h
    have : s[j].toNat = t[k].toNat := by omega
    rw [UInt8.toNat_inj.1 this]
  · intro h
    rw [Option.some.inj h]

set_option maxHeartbeats 400000 in
/-- internal/stringslite.IndexByte -/
theorem lite_any (s : ByteArray) (c : Int) (w : World) : Calls Try.prog 30 #[.string s, .int .u8 c] w fun e w' => e = .returned (.int .i64 (Lib.indexByte s.data.toList c.toNat.toUInt8)) ∧ w' = w := by
  have hrun := Lib.run_indexByteString (P := Try.prog) s c w
  go_enter Try.func30, Try.ntmps30
  go_wp2
  rw [run_callFunc_extern Try.func37 (by kernel_rfl) (by kernel_rfl) (by kernel_rfl) (e := Extern.BytealgIndexByte.indexByte) (by kernel_rfl), hrun]
  simp only [Result.andThen]
  rw [Oper.upon_value]
  go_wp2
  go_ret
  exact ⟨rfl, rfl⟩
set_option maxHeartbeats 400000 in
/-- strings.IndexByte -/
theorem ib_any (s : ByteArray) (c : Int) (w : World) : Calls Try.prog 26 #[.string s, .int .u8 c] w fun e w' => e = .returned (.int .i64 (Lib.indexByte s.data.toList c.toNat.toUInt8)) ∧ w' = w := by
  go_enter Try.func26, Try.ntmps26
  go_wp2_with (go_at_call 30; refine (lite_any _ _ _).mono ?_; rintro e w' ⟨rfl, rfl⟩)
  go_ret
  exact ⟨rfl, rfl⟩

set_option maxHeartbeats 1000000 in
/-- strings.HasSuffix (the shelf's text at this program's numbers) -/
theorem hs_any (s p : ByteArray) (w : World) (hs : s.size ≤ 9223372036854775807) :
    Calls Try.prog 28 #[.string s, .string p] w fun e w' => e = .returned (.bool (Lib.hasSuffix s.data.toList p.data.toList)) ∧ w' = w := by
  rw [← Lib.hasSuffix_raw]
  have hlo : p.size ≤ s.size → ((s.size : Int) - (p.size : Int) + 9223372036854775808) % 18446744073709551616 - 9223372036854775808 = ((s.size - p.size : Nat) : Int) := fun _ => by omega
  go_enter Try.func28, Try.ntmps28
  go_wp2
  · have h : p.size ≤ s.size := by assumption
    go_ret
    refine ⟨?_, rfl⟩
    show Ending.returned (Value.bool ((s.extract (s.size - p.size) s.size).toList == p.toList)) = _
    simp [h]
  · have h : ¬ p.size ≤ s.size := by assumption
    go_ret
    refine ⟨?_, rfl⟩
    show Ending.returned (Value.bool false) = _
    simp [h]

set_option maxHeartbeats 1000000 in
/-- strings.TrimSuffix (the shelf's text at this program's numbers) -/
theorem ts_any (s p : ByteArray) (w : World) (hs : s.size ≤ 9223372036854775807) :
    Calls Try.prog 29 #[.string s, .string p] w fun e w' => e = .returned (.string ⟨(Lib.trimSuffix s.data.toList p.data.toList).toArray⟩) ∧ w' = w := by
  have hlo : p.size ≤ s.size → ((s.size : Int) - (p.size : Int) + 9223372036854775808) % 18446744073709551616 - 9223372036854775808 = ((s.size - p.size : Nat) : Int) := fun _ => by omega
  go_enter Try.func29, Try.ntmps29
  go_wp2
  · have h1 : p.size ≤ s.size := by assumption
    have h2 : ((s.extract (s.size - p.size) s.size).toList == p.toList) = true := by assumption
    go_ret
    refine ⟨?_, rfl⟩
    rw [Lib.trimSuffix_hit s p h1 h2]
    rfl
  · have h2 : ((s.extract (s.size - p.size) s.size).toList == p.toList) = false := by assumption
    go_ret
    refine ⟨?_, rfl⟩
    rw [Lib.trimSuffix_miss s p (by rw [h2]; simp)]
    rfl
  · have h1 : ¬ p.size ≤ s.size := by assumption
    go_ret
    refine ⟨?_, rfl⟩
    rw [Lib.trimSuffix_miss s p (by simp [h1])]
    rfl

theorem suf_iff (s p : ByteArray) : Lib.hasSuffix s.data.toList p.data.toList = true ↔ p.size ≤ s.size ∧ ∀ j, j < p.size → at0 s (s.size - p.size + j) = at0 p j := by
  rw [← Lib.hasSuffix_of_drop, ← Lib.size_eq, ← Lib.size_eq, Bool.and_eq_true_iff, decide_eq_true_iff, beq_iff_eq]
  refine and_congr_right fun hle => ?_
  constructor
  · intro h j hj
    rw [at0_eq_iff (by omega) hj, ← h, List.getElem?_drop]
  · intro h
    apply List.ext_getElem?
    intro j
    rw [List.getElem?_drop]
    by_cases hj : j < p.size
    · exact (at0_eq_iff (by omega) hj).1 (h j hj)
    · rw [List.getElem?_eq_none (by rw [← Lib.size_eq]; omega), List.getElem?_eq_none (by rw [← Lib.size_eq]; omega)]

set_option maxHeartbeats 1000000 in
/-- zzHasSuffix -/
theorem zs_any (s p : ByteArray) (w : World) (hs : s.size ≤ 9000000) (hp : p.size ≤ 100) :
    Calls Try.prog 15 #[.string s, .string p] w fun e w' => e = .returned (.bool (Lib.hasSuffix s.data.toList p.data.toList)) ∧ Dr w w' := by
  have hiff := suf_iff s p
  have HI : Hid (Lib.hasSuffix s.data.toList p.data.toList = true ↔ p.size ≤ s.size ∧ ∀ j, j < p.size → at0 s (s.size - p.size + j) = at0 p j) := hiff
  clear hiff
  by_cases hle : p.size ≤ s.size
  case neg =>
    have hf : Hid (Lib.hasSuffix s.data.toList p.data.toList = false) := by
      show _ = _
      rw [← Bool.not_eq_true, HI.out]
      exact fun h => hle h.1
    have g0 : decide ((s.size : Int) < (p.size : Int)) = true := by simp; omega
    go_enter Try.func15, Try.ntmps15
    go_wp2_with fail
    go_ret
    exact ⟨by rw [hf.out]; rfl, Dr.refl _⟩
  have g0 : decide ((s.size : Int) < (p.size : Int)) = false := by simp; omega
  have g0N : decide (s.size < p.size) = false := by simp; omega
  go_enter Try.func15, Try.ntmps15
  go_wp2_with fail
  go_loopw [5] (fun t wr => ∃ k : Nat, t = .int .i64 k ∧ k ≤ p.size ∧ Dr w wr ∧ ∀ j, j < k → at0 s (s.size - p.size + j) = at0 p j) (fun t _ => p.size - (intOf t).toNat)
  case atStart => exact ⟨0, rfl, by omega, Dr.refl _, fun j hj => by omega⟩
  case round =>
    obtain ⟨k, rfl, hk, hD, hall⟩ := hrel
    have HA : Hid (∀ j, j < k → at0 s (s.size - p.size + j) = at0 p j) := hall
    clear hall
    by_cases hlt : k < p.size
    case neg =>
      have hf : Hid (Lib.hasSuffix s.data.toList p.data.toList = true) := HI.out.2 ⟨hle, fun j hj => HA.out j (by omega)⟩
      go_wp2_with fail
      go_ret
      exact ⟨by rw [hf.out]; rfl, hD⟩
    have i1 : ((s.size : Int) - (p.size : Int) + (k : Int)).toNat = s.size - p.size + k := by omega
    have hin : s.size - p.size + k < s.size := by omega
    have e1 : Hid (at0 s (s.size - p.size + k) = ((s[s.size - p.size + k]'hin).toNat : Int)) := at0_in hin
    have e2 : Hid (at0 p k = (p[k].toNat : Int)) := at0_in hlt
    have b1 : (0 : Int) ≤ (s.size : Int) - (p.size : Int) + (k : Int) := by omega
    have b2 : (s.size : Int) - (p.size : Int) + (k : Int) < (s.size : Int) := by omega
    go_wp2_with fail
    go_quiet (fail)
    by_cases hq : ((s[s.size - p.size + k]'hin).toNat : Int) = (p[k].toNat : Int)
    · have g1 : (((s[s.size - p.size + k]'hin).toNat : Int) != (p[k].toNat : Int)) = false := by simp [hq]
      have HQ : Hid (at0 s (s.size - p.size + k) = at0 p k) := by show _ = _; rw [e1.out, e2.out]; exact hq
      clear hq
      go_wp2_with fail
      go_roundw
      case rel => exact ⟨k + 1, by go_num, by omega, hD.drewN _, fun j hj => by
        by_cases h : j = k
        · subst h; exact HQ.out
        · exact HA.out j (by omega)⟩
      case measure => simp [intOf]; omega
    · have g1 : (((s[s.size - p.size + k]'hin).toNat : Int) != (p[k].toNat : Int)) = true := by simpa using hq
      have hf : Hid (Lib.hasSuffix s.data.toList p.data.toList = false) := by
        show _ = _
        rw [← Bool.not_eq_true, HI.out]
        intro h
        have := h.2 k hlt
        rw [e1.out, e2.out] at this
        exact hq this
      clear hq
      go_wp2_with fail
      go_ret
      exact ⟨by rw [hf.out]; rfl, hD.drewN _⟩

/-- a byte of s that stands in p -/
def Has (s p : ByteArray) : Prop := ∃ i j, i < s.size ∧ j < p.size ∧ at0 s i = at0 p j
/-- 'it returns whether p holds' -/
def Tells (e : Ending) (p : Prop) : Prop := (e = .returned (.bool true) ∧ p) ∨ (e = .returned (.bool false) ∧ ¬ p)
theorem Tells.yes {e : Ending} {p : Prop} (he : e = .returned (.bool true)) (h : p) : Tells e p := .inl ⟨he, h⟩
theorem Tells.no {e : Ending} {p : Prop} (he : e = .returned (.bool false)) (h : ¬ p) : Tells e p := .inr ⟨he, h⟩

set_option maxHeartbeats 1000000 in
/-- zzHasByteIn -/
theorem zb_any (s p : ByteArray) (w : World) (hs : s.size ≤ 9000000) (hp : p.size ≤ 100) :
    Calls Try.prog 18 #[.string s, .string p] w fun e w' => Tells e (Has s p) ∧ Dr w w' := by
  go_enter Try.func18, Try.ntmps18
  go_wp2_with fail
  go_loopw [5] (fun t wr => ∃ k : Nat, t = .int .i64 k ∧ k ≤ s.size ∧ Dr w wr ∧ ∀ i j, i < k → j < p.size → at0 s i ≠ at0 p j) (fun t _ => s.size - (intOf t).toNat)
  case atStart => exact ⟨0, rfl, by omega, Dr.refl _, fun i j hi => by omega⟩
  case round =>
    obtain ⟨k, rfl, hk, hD, hall⟩ := hrel
    have HA : Hid (∀ i j, i < k → j < p.size → at0 s i ≠ at0 p j) := hall
    clear hall
    by_cases hlt : k < s.size
    case neg =>
      have hf : Hid (¬ Has s p) := by
        show ¬ Has s p
        rintro ⟨i, j, h1, h2, h3⟩
        exact HA.out i j (by omega) h2 h3
      go_wp2_with fail
      go_ret
      exact ⟨Tells.no rfl hf.out, hD⟩
    obtain ⟨wo, rfl⟩ : ∃ wo : World, wo = wr := ⟨_, rfl⟩
    have e1 : Hid (at0 s k = (s[k].toNat : Int)) := at0_in hlt
    go_wp2_with fail
    go_loopw [6] (fun t wr => ∃ m : Nat, t = .int .i64 m ∧ m ≤ p.size ∧ Dr w wr ∧ ∀ j, j < m → at0 s k ≠ at0 p j) (fun t _ => p.size - (intOf t).toNat)
    case atStart => exact ⟨0, rfl, by omega, hD, fun j hj => by omega⟩
    case round =>
      obtain ⟨m, rfl, hm, hD2, hall2⟩ := hrel
      have HB : Hid (∀ j, j < m → at0 s k ≠ at0 p j) := hall2
      clear hall2
      by_cases hlm : m < p.size
      case neg =>
        go_wp2_with fail
        go_roundw
        case rel => exact ⟨k + 1, by go_num, by omega, hD2, fun i j hi hj => by
          by_cases h : i = k
          · subst h; exact HB.out j (by omega)
          · exact HA.out i j (by omega) hj⟩
        case measure => simp [intOf]; omega
      have e2 : Hid (at0 p m = (p[m].toNat : Int)) := at0_in hlm
      go_wp2_with fail
      go_quiet (fail)
      by_cases hq : (s[k].toNat : Int) = (p[m].toNat : Int)
      · have g1 : ((s[k].toNat : Int) == (p[m].toNat : Int)) = true := by simp [hq]
        have hf : Hid (Has s p) := ⟨k, m, hlt, hlm, by rw [e1.out, e2.out]; exact hq⟩
        clear hq
        go_wp2_with fail
        go_ret
        exact ⟨Tells.yes rfl hf.out, hD2.drewN _⟩
      · have g1 : ((s[k].toNat : Int) == (p[m].toNat : Int)) = false := by simp [hq]
        have HQ : Hid (at0 s k ≠ at0 p m) := by show _ ≠ _; rw [e1.out, e2.out]; exact hq
        clear hq
        go_wp2_with fail
        go_roundw
        case rel => exact ⟨m + 1, by go_num, by omega, hD2.drewN _, fun j hj => by
          by_cases h : j = m
          · subst h; exact HQ.out
          · exact HB.out j (by omega)⟩
        case measure => simp [intOf]; omega
end Go.Proofs.Qxb6604254a
