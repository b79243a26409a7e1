import Derived.Test.Qxb6604254aAny
import Derived.Lib.AsciiSet
import Derived.Deep.WholeRow
import Derived.Laws.ResultCell
import Derived.Lib.IndexBytes
namespace Go.Proofs.Qxb6604254a
open Go.RowKit

theorem info43 : (Try.prog.info? 43).map (·.size) = some 256 := by kernel_rfl
theorem zero43 (w : World) : (zeroValue 43).run Try.prog w = .ok (.agg (Array.replicate 256 (.bool false))) w := by kernel_rfl

set_option maxRecDepth 1000000 in
set_option maxHeartbeats 1000000 in
/-- (*strings.asciiSet).contains -/
theorem contains_any (b : Nat) (x : UInt8) (v : Bool) (w : World) (hc : w.cell? ⟨b, x.toNat, none⟩ = some (.bool v)) :
    Calls Try.prog 34 #[.pointer (some ⟨b, 0, none⟩), .int .u8 x.toNat] w fun e w' => e = .returned (.bool v) ∧ w' = w := by
  have hx256 : (x.toNat : Int) < 256 := by have := UInt8.toNat_lt x; omega
  go_enter Try.func34, Try.ntmps34
  go_wp2
  go_ret
  exact ⟨rfl, rfl⟩

set_option maxRecDepth 1000000 in
set_option maxHeartbeats 4000000 in
/-- strings.makeASCIISet, of ASCII signs (the shelf's text, turned to this program) -/
theorem set_any (chars : ByteArray) (w : World) (hs : chars.size < 4294967281) (hascii : ∀ (j : Nat) b, chars.data.toList[j]? = some b → b.toNat < 128) :
    Calls Try.prog 33 #[.string chars] w fun e w' => e = .returned (.tuple #[.agg (Lib.setCells chars.data.toList), .bool true]) ∧ w' = w.alloc (.cells (Lib.setCells chars.data.toList) 43) := by
  have HA : Hid (∀ (j : Nat) b, chars.data.toList[j]? = some b → b.toNat < 128) := hascii
  clear hascii
  have hz := zero43
  go_enter Try.func33, Try.ntmps33
  go_wp2
  rw [← Lib.setCells_nil]
  go_loopg [4] chars.size (fun g s4 wx => ∃ i : Nat, i + g = chars.size ∧ s4 = .int .i64 i ∧ wx = w.alloc (.cells (Lib.setCells (chars.data.toList.take i)) 43))
  case atStart => exact ⟨0, by omega, rfl, rfl⟩
  case round =>
    obtain ⟨i, hig, rfl, rfl⟩ := hrel
    cases gk with
    | zero =>
      obtain rfl : i = chars.size := by omega
      have hiz : ¬ ((chars.size : Int) < (chars.size : Int)) := by omega
      rw [show chars.data.toList.take chars.size = chars.data.toList from List.take_of_length_le (by rw [← Lib.size_eq]; exact Nat.le_refl _)]
      have hld := run_loadVar_new (P := Try.prog) w 43 (Lib.setCells chars.data.toList) 256 4 Try.underlying43 (by rw [Lib.setCells_size]; exact info43)
      have hsz := Lib.setCells_size chars.data.toList
      have hlc := run_loadCellsFrom_new (P := Try.prog) w 43 (Lib.setCells chars.data.toList) 256 hsz
      have hsc := run_storeCells_new (P := Try.prog) w 43 (Lib.setCells chars.data.toList) (Lib.setCells chars.data.toList) (by rw [hsz]; exact info43) rfl (Lib.setCells_one _)
      have hg := heap_alloc_last w (.cells (Lib.setCells chars.data.toList) 43)
      clear hlc
      go_wp2_with (refine wpList_load_row rfl 43 _ rfl w.heap.size rfl 43 (Lib.setCells chars.data.toList) (0, 0) _ hg Try.underlying43 rfl (by rw [hsz]; exact info43) ?_)
      refine bodyPost_ret (v := .tuple #[.agg (Lib.setCells chars.data.toList), .bool true]) ?_ rfl ⟨rfl, rfl⟩
      rw [results_cell_tmp rfl]
      simp [asAddr, Result.andThen, hld]
    | succ g =>
      have hi : i < chars.size := by omega
      have hiz : (i : Int) < (chars.size : Int) := by omega
      obtain ⟨x, hx⟩ : ∃ x : UInt8, chars[i]'hi = x := ⟨_, rfl⟩
      have hxl : chars.data.toList[i]? = some x := by rw [← hx]; exact Lib.data_getElem? chars i hi
      have hx128 : ¬ ((128 : Int) ≤ (x.toNat : Int)) := by have := HA.out i x hxl; omega
      have hx256 : (x.toNat : Int) < 256 := by have := HA.out i x hxl; omega
      have hcell := Lib.setCells_at (chars.data.toList.take i) x
      have Hx : Hid (chars.data.toList[i]? = some x) := hxl
      clear hxl
      go_wp2
      go_roundg g
      case measure => omega
      case rel => exact ⟨i + 1, by omega, by first | rfl | simp, by rw [List.take_add_one, Hx.out]; simp only [Option.toList]; rw [Lib.setCells_snoc]⟩

theorem two_ascii : ∀ (j : Nat) b, (ByteArray.mk #[47, 63]).data.toList[j]? = some b → b.toNat < 128 := by
  intro j b h
  have h2 : b ∈ ([47, 63] : List UInt8) := List.mem_of_getElem? h
  simp at h2
  rcases h2 with rfl | rfl <;> decide
theorem two_has (x : UInt8) : ([47, 63] : List UInt8).contains x = true ↔ ((x.toNat : Int) = 47 ∨ (x.toNat : Int) = 63) := by
  simp only [List.contains_cons, List.contains_nil, Bool.or_false, Bool.or_eq_true, beq_iff_eq]
  constructor
  · rintro (rfl | rfl)
    · left; rfl
    · right; rfl
  · rintro (h | h)
    · left; exact UInt8.toNat_inj.1 (show x.toNat = 47 by omega)
    · right; exact UInt8.toNat_inj.1 (show x.toNat = 63 by omega)

/-- the set's cells -/
def S2 : Array Value := Lib.setCells [47, 63]
theorem S2_size : S2.size = 256 := Lib.setCells_size _
theorem S2_at (x : UInt8) : S2[x.toNat]? = some (.bool (([47, 63] : List UInt8).contains x)) := Lib.setCells_at _ x
theorem set2_any (w : World) : Calls Try.prog 33 #[.string ⟨#[47, 63]⟩] w fun e w' => e = .returned (.tuple #[.agg S2, .bool true]) ∧ w' = w.alloc (.cells S2 43) :=
  set_any ⟨#[47, 63]⟩ w (by decide) two_ascii

set_option maxRecDepth 1000000 in
set_option maxHeartbeats 8000000 in
/-- strings.IndexAny of "/?", more than 8 bytes (the shelf's text, turned to this program) -/
theorem any_long (s : ByteArray) (w : World) (h8 : 8 < s.size) (hs : s.size < 4294967281) : Calls Try.prog 27 #[.string s, .string ⟨#[47, 63]⟩] w fun e w' => First e s ∧ Gr w w' := by
  have h8z : decide ((8 : Int) < (s.size : Int)) = true := decide_eq_true (by omega)
  have hz := zero43
  have hsc : (storeCells ⟨w.heap.size + 1, 0, none⟩ S2.toList 0).run Try.prog ((w.alloc (.cells S2 43)).alloc (.cells (Array.replicate 256 (.bool false)) 43)) = .ok () ((w.alloc (.cells S2 43)).alloc (.cells S2 43)) := by
    have := run_storeCells_new (P := Try.prog) (w.alloc (.cells S2 43)) 43 (Array.replicate 256 (.bool false)) S2 (by rw [S2_size]; exact info43) (by rw [S2_size, Array.size_replicate]) (Lib.setCells_one _)
    simpa using this
  have hsz := S2_size
  have HC : Hid (∀ x : UInt8, ((w.alloc (.cells S2 43)).alloc (.cells S2 43)).cell? ⟨w.heap.size + 1, x.toNat, none⟩ = some (.bool (([47, 63] : List UInt8).contains x))) := fun x => by
    rw [World.cell?_alloc_at _ _ _ _ (by simp), S2_at]
  have hG : Hid (Gr w ((w.alloc (.cells S2 43)).alloc (.cells S2 43))) := ((Gr.refl w).cells S2 43).cells S2 43
  go_enter Try.func27, Try.ntmps27
  go_wp2_with (first
    | (go_at_call 32; refine (should_any _ _).mono ?_; rintro e w1 ⟨rfl, hw⟩; rw [hw, h8z])
    | (go_at_call 33; refine (set2_any _).mono ?_; rintro e w1 ⟨rfl, hw⟩; rw [hw]))
  clear hsc hz
  generalize (w.alloc (.cells S2 43)).alloc (.cells S2 43) = W2 at HC hG
  go_loop [8] (fun t => ∃ k : Nat, t = .int .i64 k ∧ k ≤ s.size ∧ NoHit s k) (fun t => s.size - (intOf t).toNat)
  case atStart => exact ⟨0, rfl, by omega, fun j hj => by omega⟩
  case round =>
    obtain ⟨k, rfl, hk, hN⟩ := hrel
    by_cases hlt : k < s.size
    case neg =>
      obtain rfl : k = s.size := by omega
      go_wp2_with fail
      go_ret
      exact ⟨First.none rfl hN, hG.out⟩
    have e : Hid (at0 s k = (s[k].toNat : Int)) := at0_in hlt
    have hc := HC.out s[k]
    have hh := two_has s[k]
    cases hin : ([47, 63] : List UInt8).contains s[k] <;> rw [hin] at hc hh
    · have hno : Hid (at0 s k ≠ 47 ∧ at0 s k ≠ 63) := by
        show _ ∧ _
        rw [e.out]
        have : ¬ ((s[k].toNat : Int) = 47 ∨ (s[k].toNat : Int) = 63) := fun h => by have := hh.2 h; cases this
        omega
      clear hh hin
      go_wp2_with (go_at_call 34; refine (contains_any _ s[k] _ _ hc).mono ?_; rintro e w' ⟨rfl, hw⟩; rw [hw])
      go_round
      case rel => exact ⟨k + 1, by go_num, by omega, fun j hj => by
        by_cases h : j = k
        · subst h; exact hno.out
        · exact hN j (by omega)⟩
      case measure => simp [intOf]; omega
    · have hhit : Hid (at0 s k = 47 ∨ at0 s k = 63) := by
        show _ ∨ _
        rw [e.out]
        exact hh.1 rfl
      clear hh hin
      go_wp2_with (go_at_call 34; refine (contains_any _ s[k] _ _ hc).mono ?_; rintro e w' ⟨rfl, hw⟩; rw [hw])
      go_ret
      exact ⟨First.some k rfl hlt hhit.out hN, hG.out⟩

/-- strings.IndexAny of "/?" -/
theorem any_any (s : ByteArray) (w : World) (hs : s.size < 4294967281) : Calls Try.prog 27 #[.string s, .string ⟨#[47, 63]⟩] w fun e w' => First e s ∧ Gr w w' := by
  by_cases h : s.size ≤ 8
  · exact any_short s w h
  · exact any_long s w (by omega) hs
end Go.Proofs.Qxb6604254a
