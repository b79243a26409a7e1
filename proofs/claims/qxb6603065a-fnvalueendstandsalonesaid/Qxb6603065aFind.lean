import Derived.Test.Qxb6603065aScan
import Derived.Lib.BytesEntry
import Derived.Lib.IndexLaws
namespace Go.Proofs.Qxb6603065a
open Go.RowKit

theorem byte_eq {x : Int} (h0 : 0 ≤ x) (h1 : x < 256) : (UInt8.ofNat x.toNat = (34 : UInt8)) ↔ x = 34 := by
  constructor
  · intro h
    have h2 := congrArg UInt8.toNat h
    simp only [UInt8.toNat_ofNat'] at h2
    have h3 : UInt8.toNat 34 = 34 := rfl
    rw [h3] at h2
    omega
  · rintro rfl; rfl

theorem find_spec (G : Nat → Int) (o m : Nat) (hG : ∀ i, 0 ≤ G i ∧ G i < 256) (p : Nat) (hp : p < m) (hp34 : G (o + p) = 34) :
    ∃ q : Nat, Lib.indexByte (Lib.bytesOf ((List.range m).map fun i => G (o + i))) (34 : Int).toNat.toUInt8 = q ∧ q < m ∧ G (o + q) = 34 ∧ ∀ p, p < q → G (o + p) ≠ 34 := by
  have hat : ∀ k, k < m → (Lib.bytesOf ((List.range m).map fun i => G (o + i)))[k]? = some (UInt8.ofNat (G (o + k)).toNat) := by
    intro k hk
    simp [Lib.bytesOf, List.getElem?_map, List.getElem?_range hk]
  have h34 : (34 : Int).toNat.toUInt8 = (34 : UInt8) := rfl
  rw [h34]
  have hge := Lib.indexByte_ge (Lib.bytesOf ((List.range m).map fun i => G (o + i))) 34
  by_cases hneg : Lib.indexByte (Lib.bytesOf ((List.range m).map fun i => G (o + i))) 34 = -1
  · have := Lib.indexByte_none hneg p
    rw [hat p hp] at this
    exact (this (by rw [(byte_eq (hG _).1 (hG _).2).2 hp34])).elim
  · obtain ⟨q, hq⟩ := Int.eq_ofNat_of_zero_le (show 0 ≤ Lib.indexByte (Lib.bytesOf ((List.range m).map fun i => G (o + i))) 34 by omega)
    obtain ⟨h1, h2⟩ := Lib.indexByte_some hq
    have hqm : q < m := by
      have := (List.getElem?_eq_some_iff.1 h1).1
      simpa [Lib.bytesOf] using this
    refine ⟨q, hq, hqm, ?_, ?_⟩
    · rw [hat q hqm] at h1
      exact (byte_eq (hG _).1 (hG _).2).1 (Option.some.inj h1)
    · intro p hpq h
      have := h2 p hpq
      rw [hat p (by omega)] at this
      exact this (by rw [(byte_eq (hG _).1 (hG _).2).2 h])

set_option maxHeartbeats 400000 in
/-- bytes.IndexByte of a quote that is there. -/
theorem idx_any (G : Nat → Int) (b o m c : Nat) (w : World) (hG : ∀ i, 0 ≤ G i ∧ G i < 256) (hc : ∀ i, i < m → w.cell? ⟨b, o + i, none⟩ = some (.int .u8 (G (o + i))))
    (p : Nat) (hp : p < m) (hp34 : G (o + p) = 34) :
    Calls Try.prog 34 #[.slice (some ⟨b, o, none⟩) m c, .int .u8 34] w fun e w' => w' = w ∧ ∃ q : Nat, e = .returned (.int .i64 q) ∧ q < m ∧ G (o + q) = 34 ∧ ∀ p, p < q → G (o + p) ≠ 34 := by
  obtain ⟨q, hq, h1, h2, h3⟩ := find_spec G o m hG p hp hp34
  have hc2 : ∀ i, i < m → w.cell? ⟨b, o + i, none⟩ = some (.int .u8 (((List.range m).map fun i => G (o + i)).getD i 0)) := by
    intro i hi
    rw [hc i hi]
    simp [List.getD_eq_getElem?_getD, List.getElem?_map, List.getElem?_range hi]
  have hrun := Lib.run_indexByteSlice (P := Try.prog) w b o m c ((List.range m).map fun i => G (o + i)) (by simp) hc2 34
  rw [hq] at hrun
  clear hq hc2 hc
  go_enter Try.func34, Try.ntmps34
  go_wp2
  rw [run_callFunc_extern Try.func38 (by kernel_rfl) (by kernel_rfl) (by kernel_rfl) (e := Extern.BytealgIndexByte.indexByte) (by kernel_rfl), hrun]
  simp only [Result.andThen]
  rw [Oper.upon_value]
  go_wp2
  go_ret
  exact ⟨rfl, q, rfl, h1, h2, h3⟩
end Go.Proofs.Qxb6603065a
