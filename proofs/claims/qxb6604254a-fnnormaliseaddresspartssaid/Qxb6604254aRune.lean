import Derived.Test.Qxb6604254aGr
import Derived.Deep.LoopGhost
import Derived.WalkMore
namespace Go.Proofs.Qxb6604254a
open Go.RowKit

/-- 'it returns a number that is not negative just where p holds' -/
def Finds (e : Ending) (p : Prop) : Prop := ∃ v : Int, e = .returned (.int .i64 v) ∧ -1 ≤ v ∧ v ≤ 100 ∧ (0 ≤ v ↔ p)
theorem Finds.mk {e : Ending} {p : Prop} (v : Int) (he : e = .returned (.int .i64 v)) (h1 : -1 ≤ v) (h2 : v ≤ 100) (h : 0 ≤ v ↔ p) : Finds e p := ⟨v, he, h1, h2, h⟩

theorem rune_nat : ∀ n, n < 128 → (-1 ≤ Lib.indexByte [47, 63] (UInt8.ofNat n)) ∧ Lib.indexByte [47, 63] (UInt8.ofNat n) ≤ 100 ∧ decide (0 ≤ Lib.indexByte [47, 63] (UInt8.ofNat n)) = (n == 47 || n == 63) := by decide +kernel

set_option maxRecDepth 1000000 in
set_option maxHeartbeats 2000000 in
/-- strings.IndexRune in the two signs, an ASCII rune -/
theorem rune_low (r : Nat) (w : World) (h : r < 128) : Calls Try.prog 31 #[.string ⟨#[47, 63]⟩, .int .i32 (r : Int)] w fun e w' => Finds e (r = 47 ∨ r = 63) ∧ w' = w := by
  obtain ⟨h1, h2, h3⟩ := rune_nat r h
  have H1 : Hid (-1 ≤ Lib.indexByte [47, 63] (UInt8.ofNat r)) := h1
  have H2 : Hid (Lib.indexByte [47, 63] (UInt8.ofNat r) ≤ 100) := h2
  have H3 : Hid (decide (0 ≤ Lib.indexByte [47, 63] (UInt8.ofNat r)) = (r == 47 || r == 63)) := h3
  clear h1 h2 h3
  have g1 : decide ((0 : Int) ≤ (r : Int)) = true := by simp
  have g2 : decide ((r : Int) < 128) = true := by simp; omega
  go_enter Try.func31, Try.ntmps31
  go_wp2_with (go_at_call 26; refine (ib_any _ _ _).mono ?_; rintro e w' ⟨rfl, rfl⟩)
  go_ret
  refine ⟨Finds.mk (Lib.indexByte [47, 63] (UInt8.ofNat r)) ?_ H1.out H2.out ?_, rfl⟩
  · rfl
  · have h := H3.out
    constructor
    · intro h2
      rw [decide_eq_true h2] at h
      simpa using h.symm
    · intro h2
      have h3 : (r == 47 || r == 63) = true := by simpa using h2
      rw [h3] at h
      exact of_decide_eq_true h

set_option maxRecDepth 1000000 in
set_option maxHeartbeats 2000000 in
/-- strings.IndexRune in the two signs, the replacement sign -/
theorem rune_err (w : World) : Calls Try.prog 31 #[.string ⟨#[47, 63]⟩, .int .i32 65533] w fun e w' => e = .returned (.int .i64 (-1)) ∧ Gr w w' := by
  go_enter Try.func31, Try.ntmps31
  go_wp2_with fail
  go_loopg [5, 6] 2 (fun g _ _ wx => ∃ k : Nat, k + g = 2 ∧ wx = w.iter ⟨#[47, 63]⟩ k)
  case atStart => exact ⟨0, rfl, rfl⟩
  case round =>
    obtain ⟨k, hkg, rfl⟩ := hrel
    have hk : k = 0 ∨ k = 1 ∨ k = 2 := by omega
    rcases hk with rfl | rfl | rfl
    · obtain rfl : gk = 2 := by omega
      have hnx := fun ty => run_next_ascii (P := Try.prog) w ⟨#[47, 63]⟩ 0 ty (by decide) (by decide)
      go_wp2_with fail
      go_roundg 1
      case measure => omega
      case rel => exact ⟨1, rfl, rfl⟩
    · obtain rfl : gk = 1 := by omega
      have hnx := fun ty => run_next_ascii (P := Try.prog) w ⟨#[47, 63]⟩ 1 ty (by decide) (by decide)
      go_wp2_with fail
      go_roundg 0
      case measure => omega
      case rel => exact ⟨2, rfl, rfl⟩
    · have hnx := fun ty => run_next_end (P := Try.prog) w ⟨#[47, 63]⟩ 2 ty (by decide)
      go_wp2_with fail
      go_ret
      exact ⟨rfl, (Gr.refl w).iter _ _⟩

set_option maxHeartbeats 400000 in
/-- unicode/utf8.ValidRune, of a valid one -/
theorem valid_any (r : Nat) (w : World) (hv : Utf8.valid (r : Int) = true) : Calls Try.prog 38 #[.int .i32 (r : Int)] w fun e w' => e = .returned (.bool true) ∧ w' = w := by
  have h : (r : Int) < 55296 ∨ (57343 < (r : Int) ∧ (r : Int) ≤ 1114111) := by
    simp [Utf8.valid] at hv
    omega
  clear hv
  have g1 : decide ((0 : Int) ≤ (r : Int)) = true := by simp
  rcases h with h | ⟨h1, h2⟩
  · have g2 : decide ((r : Int) < 55296) = true := by simp; omega
    go_enter Try.func38, Try.ntmps38
    go_wp2_with fail
    go_ret
    exact ⟨rfl, rfl⟩
  · have g2 : decide ((r : Int) < 55296) = false := by simp; omega
    have g3 : decide (57343 < (r : Int)) = true := by simp; omega
    have g4 : decide ((r : Int) ≤ 1114111) = true := by simp; omega
    go_enter Try.func38, Try.ntmps38
    go_wp2_with fail
    go_ret
    exact ⟨rfl, rfl⟩

/-- strings.IndexByte of no byte -/
theorem ib_empty (c : Int) (w : World) : Calls Try.prog 26 #[.string ByteArray.empty, .int .u8 c] w fun e w' => e = .returned (.int .i64 (-1)) ∧ w' = w := ib_any ByteArray.empty c w
set_option maxRecDepth 1000000 in
set_option maxHeartbeats 400000 in
/-- strings.IndexRune in the two signs, a rune of two bytes -/
theorem rune_two (r : Nat) (rs : ByteArray) (w : World) (h : 128 ≤ r) (hne : r ≠ 65533) (hv : Utf8.valid (r : Int) = true) (hrs : Utf8.encode (r : Int) = rs) (hl : 1 < rs.size) (hsz : (rs.size : Int) - 1 = 1) (g5 : ((63 : Int) != (rs[1].toNat : Int)) = true) : Calls Try.prog 31 #[.string ⟨#[47, 63]⟩, .int .i32 (r : Int)] w fun e w' => e = .returned (.int .i64 (-1)) ∧ Gr w w' := by
  have g1 : decide ((0 : Int) ≤ (r : Int)) = true := by simp
  have g2 : decide ((r : Int) < 128) = false := by simp; omega
  have g3 : ((r : Int) == 65533) = false := by rw [beq_eq_false_iff_ne]; omega
  have HV : Hid (Utf8.valid (r : Int) = true) := hv
  clear hv
  go_enter Try.func31, Try.ntmps31
  go_wp2_with (go_at_call 38; refine (valid_any _ _ HV.out).mono ?_; rintro e w' ⟨rfl, rfl⟩)
  go_step3
  go_wp2_with fail
  go_loop [9, 10] (fun x y => x = .int .i64 1 ∧ y = .int .i64 0) (fun _ _ => 0)
  case atStart => exact ⟨rfl, rfl⟩
  case round =>
    obtain ⟨rfl, rfl⟩ := hrel
    clear g1 g2 g3 hne h HV hrs
    have b1 : (1 : Int) < (rs.size : Int) := by omega
    clear hsz
    have g6 : ((({ data := #[47, 63] } : ByteArray)[1].toNat : Int) != (rs[1].toNat : Int)) = true := g5

    go_wp2_with fail
    go_step3
    go_wp2_with fail
    go_quiet (fail)
    go_wp2_with fail
    go_quiet ((go_at_call 26; refine (ib_empty _ _).mono ?_; rintro e w2 ⟨rfl, rfl⟩; exact ⟨rfl, _, rfl⟩))
    go_wp2_with fail
    rw [Exit.noGoto_ret]
    simp only [Exit.inBlock]
    go_wp2_with fail
    rw [Exit.noGoto_ret]
    simp only [Exit.inBlock]
    go_wp2_with fail
    go_ret
    exact ⟨rfl, (Gr.refl _).drewN _⟩

set_option maxRecDepth 1000000 in
set_option maxHeartbeats 400000 in
/-- strings.IndexRune in the two signs, a rune of more bytes -/
theorem rune_more (r : Nat) (rs : ByteArray) (w : World) (h : 128 ≤ r) (hne : r ≠ 65533) (hv : Utf8.valid (r : Int) = true) (hrs : Utf8.encode (r : Int) = rs) (h3 : 3 ≤ rs.size) (h4 : rs.size ≤ 4) : Calls Try.prog 31 #[.string ⟨#[47, 63]⟩, .int .i32 (r : Int)] w fun e w' => e = .returned (.int .i64 (-1)) ∧ Gr w w' := by
  have g1 : decide ((0 : Int) ≤ (r : Int)) = true := by simp
  have g2 : decide ((r : Int) < 128) = false := by simp; omega
  have g3 : ((r : Int) == 65533) = false := by rw [beq_eq_false_iff_ne]; omega
  have HV : Hid (Utf8.valid (r : Int) = true) := hv
  clear hv
  have g5 : decide ((rs.size : Int) - 1 < 2) = false := by simp; omega
  go_enter Try.func31, Try.ntmps31
  go_wp2_with (go_at_call 38; refine (valid_any _ _ HV.out).mono ?_; rintro e w' ⟨rfl, rfl⟩)
  go_step3
  go_wp2_with fail
  go_loop [9, 10] (fun x y => x = .int .i64 ((rs.size : Int) - 1) ∧ y = .int .i64 0) (fun _ _ => 0)
  case atStart => exact ⟨rfl, rfl⟩
  case round =>
    obtain ⟨rfl, rfl⟩ := hrel
    clear g1 g2 g3 hne h HV
    go_wp2_with fail
    go_ret
    exact ⟨rfl, Gr.refl _⟩

theorem last_of_two (rs : ByteArray) (h : rs.size = 2) (hf : ∀ h : rs.size - 1 < rs.size, 128 ≤ (rs[rs.size - 1]'h).toNat) : 128 ≤ ((rs[1]'(by omega)).toNat : Int) := by
  have h1 := hf (by omega)
  have e : rs.size - 1 = 1 := by omega
  simp only [e] at h1
  omega

/-- strings.IndexRune in the two signs, any rune that a range over a string gives -/
theorem rune_any (r : Nat) (w : World) (hr : r < 128 ∨ r = 65533 ∨ (128 ≤ r ∧ Utf8.valid (r : Int) = true)) : Calls Try.prog 31 #[.string ⟨#[47, 63]⟩, .int .i32 (r : Int)] w fun e w' => Finds e (r = 47 ∨ r = 63) ∧ Gr w w' := by
  by_cases h : r < 128
  · refine (rune_low r w h).mono ?_
    rintro e w' ⟨h1, rfl⟩
    exact ⟨h1, Gr.refl _⟩
  · have hn : ¬ (r = 47 ∨ r = 63) := by omega
    have fin : ∀ (e : Ending) (w' : World), e = .returned (.int .i64 (-1)) ∧ Gr w w' → Finds e (r = 47 ∨ r = 63) ∧ Gr w w' := fun e w' h1 =>
      ⟨Finds.mk (-1) h1.1 (by omega) (by omega) ⟨fun h2 => by omega, fun h2 => (hn h2).elim⟩, h1.2⟩
    by_cases he : r = 65533
    · subst he
      exact (rune_err w).mono fin
    · obtain ⟨h128, hv⟩ : 128 ≤ r ∧ Utf8.valid (r : Int) = true := by
        rcases hr with h1 | h1 | h1
        · exact (h h1).elim
        · exact (he h1).elim
        · exact h1
      obtain ⟨hf1, hf2, hf3⟩ := encode_facts (r : Int) hv (by omega)
      by_cases h3 : 3 ≤ (Utf8.encode (r : Int)).size
      · exact (rune_more r _ w h128 he hv rfl h3 hf2).mono fin
      · have hl : 1 < (Utf8.encode (r : Int)).size := by omega
        have hlast := last_of_two (Utf8.encode (r : Int)) (by omega) hf3
        exact (rune_two r _ w h128 he hv rfl hl (by omega) (by rw [bne_iff_ne]; omega)).mono fin

/-- WHAT A RANGE OVER A STRING GIVES at a place: the rune's kind -/
theorem decode_kind (s : ByteArray) (pos : Nat) : (Utf8.decode s pos).1 < 128 ∨ (Utf8.decode s pos).1 = 65533 ∨ (128 ≤ (Utf8.decode s pos).1 ∧ Utf8.valid ((Utf8.decode s pos).1 : Int) = true) := by
  simp only [Utf8.decode]
  split
  · left; assumption
  · split
    · split
      · right; right
        refine ⟨by simpa using ‹_›, ?_⟩
        simp [Utf8.valid]
        omega
      · right; left; rfl
    · split
      · split
        · rename_i h
          have h2 := Bool.and_eq_true_iff.1 h
          right; right
          exact ⟨by have := h2.1; simp at this; simp; omega, h2.2⟩
        · right; left; rfl
      · split
        · split
          · rename_i h
            have h2 := Bool.and_eq_true_iff.1 h
            right; right
            exact ⟨by have := h2.1; simp at this; simp; omega, h2.2⟩
          · right; left; rfl
        · right; left; rfl
end Go.Proofs.Qxb6604254a
