import Derived.Test.Qxb6604254aLeaf
import Derived.RowKit3
import Derived.Laws.RangeAny
import Derived.Laws.Runes
namespace Go.Proofs.Qxb6604254a
open Go.RowKit

/-- new blocks at most, none of them frozen; of what was there nothing turns -/
def Gr (w w' : World) : Prop := Below w.heap.size w w' ∧ ∀ a, w'.frozen? a = w.frozen? a
theorem Gr.refl (w : World) : Gr w w := ⟨Below.refl _ _, fun _ => rfl⟩
theorem Gr.trans {a b c : World} (h : Gr a b) (h2 : Gr b c) : Gr a c := ⟨h.1.trans (h2.1.mono h.1.size), fun x => by rw [h2.2, h.2]⟩
theorem Gr.grown {w w' : World} (h : Gr w w') : Grown w w' := ⟨h.1.frame _, h.2, h.1.size⟩
theorem Gr.dr {w a b : World} (h : Gr w a) (h2 : Dr a b) : Gr w b := by
  obtain ⟨q, rfl⟩ := h2
  exact ⟨h.1.trans ⟨rfl, rfl, rfl, Nat.le_refl _, fun _ _ => rfl⟩, h.2⟩
theorem Gr.drewN {w a : World} (h : Gr w a) (q : Nat) : Gr w (a.drewN q) := h.dr ⟨q, rfl⟩
theorem frozen_push (a : World) (o : Obj) (ho : ∀ off, (match o with | .cells _ _ (lo, hi) => (decide (lo ≤ off) && decide (off < hi)) | _ => false) = false) (x : Addr) : (a.alloc o).frozen? x = a.frozen? x := by
  unfold World.frozen?
  show (match (a.heap.push o)[x.block]? with | some (.cells _ _ (lo, hi)) => (decide (lo ≤ x.off) && decide (x.off < hi)) | _ => false) = _
  rw [Array.getElem?_push]
  by_cases h : x.block = a.heap.size
  · rw [if_pos h, h, Array.getElem?_eq_none (Nat.le_refl _)]
    have := ho x.off
    revert this
    cases o <;> simp
  · rw [if_neg h]
    rfl
theorem Gr.cells {w a : World} (h : Gr w a) (c : Array Value) (t : TypeId) : Gr w (a.alloc (.cells c t)) :=
  ⟨h.1.alloc h.1.size _, fun x => by rw [frozen_push a _ (fun off => by simp) x, h.2]⟩
theorem Gr.iter {w a : World} (h : Gr w a) (s : ByteArray) (p : Nat) : Gr w (a.iter s p) :=
  ⟨h.1.alloc h.1.size _, fun x => by rw [World.iter, frozen_push a _ (fun off => rfl) x, h.2]⟩

/-- the world behind a step of an iterator that lies at block b -/
def stepped (W : World) (b : Nat) (s : ByteArray) (p : Nat) : World := { W with heap := W.heap.setIfInBounds b (.stringIter s p) }
theorem stepped_at {W : World} {b : Nat} {s : ByteArray} {p : Nat} (h : W.heap[b]? = some (.stringIter s p)) (p' : Nat) : (stepped W b s p').heap[b]? = some (.stringIter s p') := by
  have hb : b < W.heap.size := (Array.getElem?_eq_some_iff.1 h).1
  show (W.heap.setIfInBounds b _)[b]? = _
  simp [hb]
theorem Gr.stepped {w W : World} (g : Gr w W) {b : Nat} {s : ByteArray} {p : Nat} (hb : w.heap.size ≤ b) (h : W.heap[b]? = some (.stringIter s p)) (p' : Nat) : Gr w (stepped W b s p') := by
  refine ⟨g.1.trans ⟨rfl, rfl, rfl, by show _ ≤ (W.heap.setIfInBounds b _).size; simp, fun k hk => ?_⟩, fun x => ?_⟩
  · show (W.heap.setIfInBounds b _)[k]? = _
    rw [Array.getElem?_setIfInBounds_ne (by omega)]
  · rw [← g.2]
    unfold World.frozen?
    show (match (W.heap.setIfInBounds b (Obj.stringIter s p'))[x.block]? with | some (.cells _ _ (lo, hi)) => (decide (lo ≤ x.off) && decide (x.off < hi)) | _ => false) = _
    by_cases hx : b = x.block
    · subst hx
      have hb : x.block < W.heap.size := (Array.getElem?_eq_some_iff.1 h).1
      rw [h]
      simp [hb]
    · rw [Array.getElem?_setIfInBounds_ne hx]
      rfl
theorem run_next_at {P : Program} (W : World) (b : Nat) (s : ByteArray) (pos : Nat) (ty : TypeId) (hb : W.heap[b]? = some (.stringIter s pos)) (h : pos < s.size) :
    (Instr.next (.pointer (some ⟨b, 0, none⟩)) true ty).run P W = .ok (.tuple #[.bool true, .int .i64 pos, .int .i32 (Utf8.decode s pos).1]) (stepped W b s (pos + (Utf8.decode s pos).2)) := by
  simp only [Instr.next, getObj, setObj, Sem.run_bind, Sem.run, hb, Result.andThen, h, if_true]
  simp [goInt, stepped]
theorem run_next_at_end {P : Program} (W : World) (b : Nat) (s : ByteArray) (pos : Nat) (ty : TypeId) (hb : W.heap[b]? = some (.stringIter s pos)) (h : ¬ pos < s.size) :
    (Instr.next (.pointer (some ⟨b, 0, none⟩)) true ty).run P W = .ok (.tuple #[.bool false]) W := by
  simp [Instr.next, getObj, Sem.run, hb, h]
end Go.Proofs.Qxb6604254a
