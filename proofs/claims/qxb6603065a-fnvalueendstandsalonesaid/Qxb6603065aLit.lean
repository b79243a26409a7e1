import Derived.Test.Qxb6603065aScan
import Derived.Deep.QuietTactic
import Derived.BigQuiet
namespace Go.Proofs.Qxb6603065a
open Go.RowKit

def Dr (w w' : World) : Prop := ∃ q, w' = w.drewN q
theorem Dr.refl (w : World) : Dr w w := ⟨0, rfl⟩
theorem Dr.trans {a b c : World} (h : Dr a b) (h2 : Dr b c) : Dr a c := by
  obtain ⟨q, rfl⟩ := h
  obtain ⟨r, rfl⟩ := h2
  exact ⟨q + r, by simp⟩
theorem Dr.drewN {a b : World} (h : Dr a b) (q : Nat) : Dr a (b.drewN q) := h.trans ⟨q, rfl⟩
theorem Dr.cell {a b : World} (h : Dr a b) (x : Addr) : b.cell? x = a.cell? x := by
  obtain ⟨q, rfl⟩ := h; rfl

set_option maxHeartbeats 400000 in
/-- zzLit_sjb1 -/
theorem lit_any (G : Nat → Int) (b n c : Nat) (i : Int) (k0 : Nat) (hi : i = k0) (s : ByteArray) (hs : s.size ≤ 8) (w : World) (hn : n ≤ 1048576) (hk : k0 < n)
    (hc : ∀ i, i < n → w.cell? ⟨b, i, none⟩ = some (.int .u8 (G i))) :
    Calls Try.prog 32 #[.slice (some ⟨b, 0, none⟩) n c, .int .i64 i, .string s] w fun e w' => Dr w w' ∧ ∃ r : Int, e = .returned (.int .i64 r) ∧ (r = -1 ∨ ∃ J : Nat, r = J ∧ J = k0 + s.size ∧ J ≤ n ∧ ∀ p (h : p < s.size), G (k0 + p) = (s[p].toNat : Int)) := by
  subst hi
  by_cases hshort : (n : Int) - k0 < s.size
  · go_enter Try.func32, Try.ntmps32
    go_wp2_with fail
    go_ret
    exact ⟨Dr.refl _, _, rfl, .inl rfl⟩
  · go_enter Try.func32, Try.ntmps32
    go_wp2_with fail
    go_loopw [7] (fun t wr => ∃ k : Nat, t = .int .i64 k ∧ k ≤ s.size ∧ Dr w wr ∧ ∀ p (h : p < s.size), p < k → G (k0 + p) = (s[p].toNat : Int)) (fun t _ => s.size - (intOf t).toNat)
    case atStart => exact ⟨0, rfl, by omega, Dr.refl _, fun p h h2 => by omega⟩
    case round =>
      obtain ⟨k, rfl, hk1, hD, hall⟩ := hrel
      have HA : Hid (∀ p (h : p < s.size), p < k → G (k0 + p) = (s[p].toNat : Int)) := hall
      clear hall
      by_cases hlt : k < s.size
      · have hcell : wr.cell? ⟨b, k0 + k, none⟩ = some (.int .u8 (G (k0 + k))) := by rw [hD.cell]; exact hc _ (by omega)
        have e1 : ((k0 : Int) + (k : Int)).toNat = k0 + k := by omega
        go_wp2_with fail
        go_quiet (fail)
        by_cases hq : G (k0 + k) = (s[k].toNat : Int)
        · have g1 : (G (k0 + k) != (s[k].toNat : Int)) = false := by simp [hq]
          have HQ : Hid (G (k0 + k) = (s[k].toNat : Int)) := hq
          clear hq
          go_wp2_with fail
          go_roundw
          case rel => exact ⟨k + 1, by go_num, by omega, hD.drewN _, fun p h h2 => by
            by_cases hp : p = k
            · subst hp; exact HQ.out
            · exact HA.out p h (by omega)⟩
          case measure => simp [intOf]; omega
        · have g1 : (G (k0 + k) != (s[k].toNat : Int)) = true := by simpa using hq
          clear hq
          go_wp2_with fail
          go_ret
          exact ⟨hD.drewN _, _, rfl, .inl rfl⟩
      · go_wp2_with fail
        go_ret
        exact ⟨hD, _, rfl, .inr ⟨k0 + s.size, by omega, rfl, by omega, fun p h => HA.out p h (by omega)⟩⟩
end Go.Proofs.Qxb6603065a
