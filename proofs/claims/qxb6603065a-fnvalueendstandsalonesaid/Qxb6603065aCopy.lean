import Derived.Test.Qxb6603065aVal
import Derived.Test.Qxb6603065aVEnd
import Derived.WalkSpells
import Derived.Laws.CopyOwn
import Derived.OpenShut
namespace Go.Proofs.Qxb6603065a
open Go.RowKit

theorem info5 : (Try.prog.info? 5).map (fun i => (i.zero, i.size, i.bytes)) = some (some (.int .u8 0), 1, 1) := by kernel_rfl

/-- 'zzc := make([]byte, len(data)); copy(zzc, data)' -/
theorem mk_copy (w : World) (x : Addr) (n cap : Nat) (zs : List Int) (hn : n ≤ 1048576) (hz : n ≤ zs.length)
    (hc : ∀ i, i < zs.length → w.cell? (x.add i) = some (.int .u8 (zs.getD i 0))) :
    ∃ (W1 W2 : World) (g : Nat), (Instr.makeSlice 22 (.int .i64 n) (.int .i64 n)).run Try.prog w = .ok (.slice (some ⟨g, 0, none⟩) n n) W1 ∧
      (∀ ty, (Builtin.copy_ #[22, 22] ty #[.slice (some ⟨g, 0, none⟩) n n, .slice (some x) n cap]).run Try.prog W1 = .ok (.int .i64 n) W2) ∧
      Below w.heap.size w W2 ∧ ∀ i, i < n → W2.cell? ⟨g, i, none⟩ = some (.int .u8 (zs.getD i 0)) := by
  obtain ⟨i, hi, hz0, hsz, hby⟩ := info_parts info5
  have hmk := run_make (P := Try.prog) w 22 5 i (.int .u8 0) Try.underlying22 hi hz0 .i64 .i64 n n (by omega) (by omega) (by rw [hby]; omega) (by omega)
  rw [hsz] at hmk
  simp only [Int.toNat_natCast, Nat.mul_one] at hmk
  have hb1 : Below w.heap.size w (w.alloc (.cells (madeCells (Value.int .u8 0).cells n) 5)) := (Below.refl _ _).alloc (Nat.le_refl _) _
  have hg : (w.alloc (.cells (madeCells (Value.int .u8 0).cells n) 5)).heap[w.heap.size]? = some (.cells (madeCells (Value.int .u8 0).cells n) 5 (0, 0)) := by
    show (w.heap.push _)[w.heap.size]? = _
    simp
  have hlen : ((zs.take n).map (Value.int .u8)).length = n := by simp; omega
  have hcp := fun ty => run_copy_row (P := Try.prog) (w.alloc (.cells (madeCells (Value.int .u8 0).cells n) 5)) 22 22 ty 5 w.heap.size 0 n n x n cap (madeCells (Value.int .u8 0).cells n) 5 ((zs.take n).map (Value.int .u8))
    Try.underlying22 (by rw [hi]; simp [hsz]) hg (by rw [hlen]; simp) (fun j v hj => by
      have hjn : j < n := by have := (List.getElem?_eq_some_iff.1 hj).1; omega
      have hv : v = .int .u8 (zs.getD j 0) := by
        rw [List.getElem?_map, List.getElem?_take_of_lt hjn, List.getElem?_eq_getElem (by omega)] at hj
        simp at hj
        rw [← hj]
        congr 1
        rw [List.getD_eq_getElem?_getD, List.getElem?_eq_getElem (by omega)]
        rfl
      rw [hv]
      exact cell_later hb1 (hc j (by omega))) (by rw [hlen, size_madeCells]; omega) (by
      intro v hv
      obtain ⟨z, _, rfl⟩ := List.mem_map.1 hv
      rfl)
  rw [hlen] at hcp
  refine ⟨_, _, _, hmk, hcp, below_setRow hb1 (Nat.le_refl _) _, ?_⟩
  intro j hj
  rw [cell_of_row _ _ _ _ _ _ (setRow_heap _ _ _ _ _ _ hg)]
  simp only [List.take_zero, List.nil_append, List.getElem?_toArray]
  rw [List.getElem?_append_left (by omega), List.getElem?_map, List.getElem?_take_of_lt hj, List.getElem?_eq_getElem (by omega), List.getD_eq_getElem?_getD, List.getElem?_eq_getElem (by omega)]
  rfl

theorem getD_byte (zs : List Int) (h : ∀ n ∈ zs, (Lit.int .u8 n).wf = true) (i : Nat) : 0 ≤ zs.getD i 0 ∧ zs.getD i 0 < 256 := by
  rw [List.getD_eq_getElem?_getD]
  by_cases hi : i < zs.length
  · rw [List.getElem?_eq_getElem hi]
    have := bounds_u8 (h _ (List.getElem_mem hi))
    simp only [Option.getD_some]
    omega
  · rw [List.getElem?_eq_none (by omega)]
    simp
end Go.Proofs.Qxb6603065a
