import Derived.Test.Qxb6604254aRune
namespace Go.Proofs.Qxb6604254a
open Go.RowKit

theorem get_in (s : ByteArray) (k : Nat) (h : k < s.size) : ((s.get! k).toNat : Int) = at0 s k := by
  have e := get_at s k h
  rw [Nat.add_zero] at e
  rw [e, at0_in h]
theorem decode_low (s : ByteArray) (pos : Nat) (h : pos < s.size) (hl : at0 s pos < 128) : ((Utf8.decode s pos).1 : Int) = at0 s pos ∧ (Utf8.decode s pos).2 = 1 := by
  rw [at0_in h] at hl ⊢
  rw [decode_ascii s pos h (by omega)]
  exact ⟨rfl, rfl⟩
theorem decode_span (s : ByteArray) (pos : Nat) (h : pos < s.size) (hh : 128 ≤ at0 s pos) : 128 ≤ (Utf8.decode s pos).1 ∧ 1 ≤ (Utf8.decode s pos).2 ∧ pos + (Utf8.decode s pos).2 ≤ s.size ∧ ∀ k, pos ≤ k → k < pos + (Utf8.decode s pos).2 → 128 ≤ at0 s k := by
  have hd := decode_high s pos h (by rw [at0_in h] at hh; omega)
  refine ⟨hd.1, hd.2, ?_⟩
  have hc : ∀ j, (decide (pos + j < s.size) && (s.get! (pos + j)).toNat / 64 == 2) = true → pos + j < s.size ∧ 128 ≤ at0 s (pos + j) := fun j hj => by
    have h2 := Bool.and_eq_true_iff.1 hj
    have h3 : pos + j < s.size := of_decide_eq_true h2.1
    have h4 : (s.get! (pos + j)).toNat / 64 = 2 := by simpa using h2.2
    exact ⟨h3, by rw [← get_in s (pos + j) h3]; omega⟩
  have key : ∀ n : Nat, (Utf8.decode s pos).2 = n → pos + n ≤ s.size ∧ ∀ k, pos ≤ k → k < pos + n → 128 ≤ at0 s k := by
    have e1 : ∀ k, pos ≤ k → k < pos + 1 → 128 ≤ at0 s k := fun k a b => by
      obtain rfl : k = pos := by omega
      exact hh
    have one : ∀ n : Nat, 1 = n → pos + n ≤ s.size ∧ ∀ k, pos ≤ k → k < pos + n → 128 ≤ at0 s k := fun n hn => by
      subst hn; exact ⟨by omega, e1⟩
    intro n hn
    simp only [Utf8.decode] at hn
    split at hn
    · exact one n hn
    · split at hn
      · rename_i hb
        have hb2 := Bool.and_eq_true_iff.1 hb
        have c1 := hc 1 hb2.2
        split at hn
        · subst hn
          refine ⟨by show pos + 2 ≤ _; omega, fun k a b => ?_⟩
          have b' : k < pos + 2 := b
          have : k = pos ∨ k = pos + 1 := by omega
          rcases this with rfl | rfl
          · exact hh
          · exact c1.2
        · exact one n hn
      · split at hn
        · rename_i hb
          have hb2 := Bool.and_eq_true_iff.1 hb
          have hb3 := Bool.and_eq_true_iff.1 hb2.1
          have c1 := hc 1 hb3.2
          have c2 := hc 2 hb2.2
          split at hn
          · subst hn
            refine ⟨by show pos + 3 ≤ _; omega, fun k a b => ?_⟩
            have b' : k < pos + 3 := b
            have : k = pos ∨ k = pos + 1 ∨ k = pos + 2 := by omega
            rcases this with rfl | rfl | rfl
            · exact hh
            · exact c1.2
            · exact c2.2
          · exact one n hn
        · split at hn
          · rename_i hb
            have hb2 := Bool.and_eq_true_iff.1 hb
            have hb3 := Bool.and_eq_true_iff.1 hb2.1
            have hb4 := Bool.and_eq_true_iff.1 hb3.1
            have c1 := hc 1 hb4.2
            have c2 := hc 2 hb3.2
            have c3 := hc 3 hb2.2
            split at hn
            · subst hn
              refine ⟨by show pos + 4 ≤ _; omega, fun k a b => ?_⟩
              have b' : k < pos + 4 := b
              have : k = pos ∨ k = pos + 1 ∨ k = pos + 2 ∨ k = pos + 3 := by omega
              rcases this with rfl | rfl | rfl | rfl
              · exact hh
              · exact c1.2
              · exact c2.2
              · exact c3.2
            · exact one n hn
          · exact one n hn
  exact key _ rfl

/-- no '/' and no '?' ahead of n -/
def NoHit (s : ByteArray) (n : Nat) : Prop := ∀ j, j < n → at0 s j ≠ 47 ∧ at0 s j ≠ 63
/-- WHAT strings.IndexAny OF "/?" ANSWERS -/
def First (e : Ending) (s : ByteArray) : Prop := (e = .returned (.int .i64 (-1)) ∧ NoHit s s.size) ∨ ∃ k : Nat, e = .returned (.int .i64 k) ∧ k < s.size ∧ (at0 s k = 47 ∨ at0 s k = 63) ∧ NoHit s k
theorem First.none {e : Ending} {s : ByteArray} (h : e = .returned (.int .i64 (-1))) (h2 : NoHit s s.size) : First e s := .inl ⟨h, h2⟩
theorem First.some {e : Ending} {s : ByteArray} (k : Nat) (h : e = .returned (.int .i64 k)) (hk : k < s.size) (hh : at0 s k = 47 ∨ at0 s k = 63) (h2 : NoHit s k) : First e s := .inr ⟨k, h, hk, hh, h2⟩

set_option maxHeartbeats 400000 in
/-- strings.shouldUseASCIISet -/
theorem should_any (n : Int) (w : World) : Calls Try.prog 32 #[.int .i64 n] w fun e w' => e = .returned (.bool (decide (8 < n))) ∧ w' = w := by
  go_enter Try.func32, Try.ntmps32
  go_wp2
  go_ret
  exact ⟨rfl, rfl⟩

set_option maxRecDepth 1000000 in
set_option maxHeartbeats 4000000 in
/-- strings.IndexAny of "/?", at most 8 bytes -/
theorem any_short (s : ByteArray) (w : World) (h8 : s.size ≤ 8) : Calls Try.prog 27 #[.string s, .string ⟨#[47, 63]⟩] w fun e w' => First e s ∧ Gr w w' := by
  have h8z : decide ((8 : Int) < (s.size : Int)) = false := decide_eq_false (by omega)
  go_enter Try.func27, Try.ntmps27
  go_wp2_with (go_at_call 32; refine (should_any _ _).mono ?_; rintro e w1 ⟨rfl, hw⟩; rw [hw])
  go_loopw [9, 10] (fun _ _ wr => ∃ pos : Nat, pos ≤ s.size ∧ Gr w wr ∧ wr.heap[w.heap.size]? = some (Obj.stringIter s pos) ∧ NoHit s pos) (fun _ _ wr => s.size - wr.iterPos w.heap.size)
  case atStart => exact ⟨0, by omega, (Gr.refl _).iter _ _, World.iter_heap _ _ _, fun j hj => by omega⟩
  case round =>
    obtain ⟨pos, hpos, hG, hB, hN⟩ := hrel
    have HB : Hid (wr.heap[w.heap.size]? = some (Obj.stringIter s pos)) := hB
    clear hB
    by_cases hlt : pos < s.size
    case neg =>
      obtain rfl : pos = s.size := by omega
      have hnx := fun ty => run_next_at_end (P := Try.prog) wr w.heap.size s s.size ty HB.out hlt
      go_wp2_with fail
      go_ret
      exact ⟨First.none rfl hN, hG⟩
    have hnx := fun ty => run_next_at (P := Try.prog) wr w.heap.size s pos ty HB.out hlt
    have hkind := decode_kind s pos
    have hlow := decode_low s pos hlt
    have hspan := decode_span s pos hlt
    generalize Utf8.decode s pos = dd at hnx hkind hlow hspan
    obtain ⟨r, d⟩ := dd
    simp only at hnx hkind hlow hspan
    have hG2 := hG.stepped (Nat.le_refl _) HB.out (pos + d)
    have HB2 := stepped_at HB.out (pos + d)
    generalize stepped wr w.heap.size s (pos + d) = W2 at hnx hG2 HB2
    have HB3 : Hid (W2.heap[w.heap.size]? = some (Obj.stringIter s (pos + d))) := HB2
    clear HB2
    go_wp2_with fail
    refine (rune_any r W2 hkind).mono ?_
    rintro e w3 ⟨hF, hG3⟩
    obtain ⟨v, rfl, hv1, hv2, hiff⟩ := hF
    have HI : Hid (0 ≤ v ↔ (r = 47 ∨ r = 63)) := hiff
    clear hiff hnx
    have hG4 := hG2.trans hG3
    by_cases hv : 0 ≤ v
    · have g1 : decide ((0 : Int) ≤ v) = true := by simpa using hv
      have hhit : Hid (at0 s pos = 47 ∨ at0 s pos = 63) := by
        have hr := HI.out.1 hv
        show _ ∨ _
        by_cases hl : at0 s pos < 128
        · have := (hlow hl).1; omega
        · have := (hspan (by omega)).1; omega
      go_wp2_with fail
      go_ret
      exact ⟨First.some pos rfl hlt hhit.out hN, hG4⟩
    · have g1 : decide ((0 : Int) ≤ v) = false := by simpa using hv
      have hno : ¬ (r = 47 ∨ r = 63) := fun h => hv (HI.out.2 h)
      have hnext : pos < pos + d ∧ pos + d ≤ s.size ∧ NoHit s (pos + d) := by
        by_cases hl : at0 s pos < 128
        · obtain ⟨h1, rfl⟩ := hlow hl
          refine ⟨by omega, by omega, fun j hj => ?_⟩
          by_cases e : j = pos
          · subst e; omega
          · exact hN j (by omega)
        · obtain ⟨_, h2, h3, h4⟩ := hspan (by omega)
          refine ⟨by omega, h3, fun j hj => ?_⟩
          by_cases e : j < pos
          · exact hN j e
          · have := h4 j (by omega) hj; omega
      obtain ⟨n1, n2, n3⟩ := hnext
      have hB4 : Hid (w3.heap[w.heap.size]? = some (Obj.stringIter s (pos + d))) := by
        show _ = _
        rw [hG3.1.block _ (Array.getElem?_eq_some_iff.1 HB3.out).1]
        exact HB3.out
      clear hno hlow hspan hkind hv
      go_wp2_with fail
      go_roundw
      case rel => exact ⟨pos + d, n2, hG4, hB4.out, n3⟩
      case measure =>
        have e1 : wr.iterPos w.heap.size = pos := by simp [World.iterPos, HB.out]
        have e2 : w3.iterPos w.heap.size = pos + d := by simp [World.iterPos, hB4.out]
        rw [e1, e2]
        omega
end Go.Proofs.Qxb6604254a
