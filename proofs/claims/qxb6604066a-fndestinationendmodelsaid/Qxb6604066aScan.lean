import Derived.Test.Qxb6604066aAng
namespace Go.Proofs.Qxb6604066a
open Go.RowKit

/-- WHAT bareScanB1 HANDS BACK of a text of N bytes that lies from o on -/
def Scans (e : Ending) (H : Nat → Int) (o N : Nat) : Prop :=
  (∃ d m : Nat, e = .returned (.tuple #[.bool true, .int .i64 d, .int .i64 m]) ∧ Pl.Reach (Pl.stB H) (o, 0, 0) (o + N, d, m)) ∨
  (e = .returned (.tuple #[.bool false, .int .i64 0, .int .i64 0]) ∧ ∃ p a q, p < o + N ∧ Pl.Reach (Pl.stB H) (o, 0, 0) (p, a, q) ∧ Pl.stB H (p, a, q) = none)
theorem Scans.yes {e : Ending} {H : Nat → Int} {o N : Nat} (d m : Nat) (he : e = .returned (.tuple #[.bool true, .int .i64 d, .int .i64 m])) (h : Pl.Reach (Pl.stB H) (o, 0, 0) (o + N, d, m)) : Scans e H o N := .inl ⟨d, m, he, h⟩
theorem Scans.no {e : Ending} {H : Nat → Int} {o N : Nat} (he : e = .returned (.tuple #[.bool false, .int .i64 0, .int .i64 0])) (p a q : Nat) (hp : p < o + N) (h : Pl.Reach (Pl.stB H) (o, 0, 0) (p, a, q)) (h2 : Pl.stB H (p, a, q) = none) : Scans e H o N := .inr ⟨he, p, a, q, hp, h, h2⟩

set_option maxRecDepth 100000 in
set_option maxHeartbeats 1000000 in
/-- bareScanB1 -/
theorem scan_any (t : ByteArray) (H : Nat → Int) (o : Nat) (w : World) (hs : t.size ≤ 1048576) (hH : ∀ k, at0 t k = H (o + k)) :
    Calls Try.prog 19 #[.string t] w fun e w' => w' = w ∧ Scans e H o t.size := by
  have HH : Hid (∀ k, at0 t k = H (o + k)) := hH
  clear hH
  go_enter Try.func19, Try.ntmps19
  go_wp2_with fail
  go_loop [5, 6, 7] (fun u v x => ∃ k d m : Nat, u = .int .i64 d ∧ v = .int .i64 m ∧ x = .int .i64 k ∧ k ≤ t.size ∧ d ≤ m ∧ m ≤ k ∧ Pl.Reach (Pl.stB H) (o, 0, 0) (o + k, d, m)) (fun _ _ x => t.size - (intOf x).toNat)
  case atStart => exact ⟨0, 0, 0, rfl, rfl, rfl, by omega, by omega, by omega, Pl.Reach.refl _ _⟩
  case round =>
    obtain ⟨k, d, m, rfl, rfl, rfl, hk, hd, hm, hR⟩ := hrel
    by_cases hlt : k < t.size
    case neg =>
      obtain rfl : k = t.size := by omega
      go_wp2_with fail
      go_ret3
      exact ⟨rfl, Scans.yes d m rfl hR⟩
    have ek : at0 t k = (t[k].toNat : Int) := at0_in hlt
    have E : Hid (H (o + k) = (t[k].toNat : Int)) := by show H _ = _; rw [← ek, HH.out k]
    have E2 : Hid (at0 t (k + 1) = H (o + k + 1)) := by show at0 _ _ = _; rw [HH.out (k + 1)]; rfl
    have E1 : Hid (at0 t k = H (o + k)) := HH.out k
    clear ek
    by_cases hesc : (at0 t k == 92 && Pl.punB (at0 t (k + 1))) = true
    · have hR2 : Pl.Reach (Pl.stB H) (o, 0, 0) (o + (k + 2), d, m) := hR.tail (Pl.stB_esc (by
        have := (Bool.and_eq_true_iff.1 hesc).1
        rw [beq_iff_eq, E1.out] at this; exact this) (by
        have := (Bool.and_eq_true_iff.1 hesc).2
        rw [E2.out] at this; exact this))
      have hk3 : k + 1 < t.size := by
        by_cases hk3 : k + 1 < t.size
        · exact hk3
        · have := (Bool.and_eq_true_iff.1 hesc).2
          rw [at0_out (by omega), Pl.pun_zero] at this; cases this
      go_wp2_with (go_at_call 30; refine (pair_any t _ k rfl _ hs hlt).mono ?_; rintro e w' ⟨rfl, rfl⟩)
      go_round
      case rel => exact ⟨k + 2, d, m, rfl, rfl, by go_num, by omega, by omega, by omega, hR2⟩
      case measure => simp [intOf]; omega
    have hesc2 : (at0 t k == 92 && Pl.punB (at0 t (k + 1))) = false := by simpa using hesc
    have hno : ¬ (H (o + k) = 92 ∧ Pl.punB (H (o + k + 1)) = true) := by
      rw [← E1.out, ← E2.out]
      rintro ⟨h1, h2⟩
      exact hesc (by rw [h1, h2]; rfl)
    clear hesc
    by_cases hlow : (t[k].toNat : Int) ≤ 32 ∨ (t[k].toNat : Int) = 127
    · have hst : Hid (Pl.stB H (o + k, d, m) = none) := Pl.stB_low (by rw [E.out]; exact hlow)
      rcases hlow with h1 | h1
      · have a1 : decide ((t[k].toNat : Int) ≤ 32) = true := by simpa using h1
        go_wp2_with (go_at_call 30; refine (pair_any t _ k rfl _ hs hlt).mono ?_; rintro e w' ⟨rfl, rfl⟩)
        go_ret3
        exact ⟨rfl, Scans.no rfl (o + k) d m (by omega) hR hst.out⟩
      · have a1 : decide ((t[k].toNat : Int) ≤ 32) = false := by simp; omega
        have a2 : ((t[k].toNat : Int) == 127) = true := by simp [h1]
        clear h1
        go_wp2_with (go_at_call 30; refine (pair_any t _ k rfl _ hs hlt).mono ?_; rintro e w' ⟨rfl, rfl⟩)
        go_ret3
        exact ⟨rfl, Scans.no rfl (o + k) d m (by omega) hR hst.out⟩
    have a1 : decide ((t[k].toNat : Int) ≤ 32) = false := by simp; omega
    have a2 : ((t[k].toNat : Int) == 127) = false := by rw [beq_eq_false_iff_ne]; omega
    by_cases h40 : (t[k].toNat : Int) = 40
    · have a3 : ((t[k].toNat : Int) == 40) = true := by simp [h40]
      have a4 : ((t[k].toNat : Int) == 41) = false := by simp [h40]
      have hR2 : Pl.Reach (Pl.stB H) (o, 0, 0) (o + (k + 1), d + 1, max m (d + 1)) := hR.tail (Pl.stB_open (by rw [E.out]; exact h40))
      clear h40 hlow hno
      by_cases hdm : m < d + 1
      · have a5 : decide ((m : Int) < (d : Int) + 1) = true := by simp; omega
        rw [show max m (d + 1) = d + 1 from by omega] at hR2
        go_wp2_with (go_at_call 30; refine (pair_any t _ k rfl _ hs hlt).mono ?_; rintro e w' ⟨rfl, rfl⟩)
        go_round
        case rel => exact ⟨k + 1, d + 1, d + 1, by go_num, by go_num, by go_num, by omega, by omega, by omega, hR2⟩
        case measure => simp [intOf]; omega
      · have a5 : decide ((m : Int) < (d : Int) + 1) = false := by simp; omega
        rw [show max m (d + 1) = m from by omega] at hR2
        go_wp2_with (go_at_call 30; refine (pair_any t _ k rfl _ hs hlt).mono ?_; rintro e w' ⟨rfl, rfl⟩)
        go_round
        case rel => exact ⟨k + 1, d + 1, m, by go_num, rfl, by go_num, by omega, by omega, by omega, hR2⟩
        case measure => simp [intOf]; omega
    have a3 : ((t[k].toNat : Int) == 40) = false := by simp [h40]
    by_cases h41 : (t[k].toNat : Int) = 41
    · have a4 : ((t[k].toNat : Int) == 41) = true := by simp [h41]
      by_cases hd0 : d = 0
      · subst hd0
        have hst : Hid (Pl.stB H (o + k, 0, m) = none) := Pl.stB_close0 (by rw [E.out]; exact h41)
        clear h40 h41 hlow hno
        go_wp2_with (go_at_call 30; refine (pair_any t _ k rfl _ hs hlt).mono ?_; rintro e w' ⟨rfl, rfl⟩)
        go_ret3
        exact ⟨rfl, Scans.no rfl (o + k) 0 m (by omega) hR hst.out⟩
      · have a5 : ((d : Int) == 0) = false := by rw [beq_eq_false_iff_ne]; omega
        have hR2 : Pl.Reach (Pl.stB H) (o, 0, 0) (o + (k + 1), d - 1, m) := hR.tail (Pl.stB_close (by rw [E.out]; exact h41) hd0)
        clear h40 h41 hlow hno
        go_wp2_with (go_at_call 30; refine (pair_any t _ k rfl _ hs hlt).mono ?_; rintro e w' ⟨rfl, rfl⟩)
        go_round
        case rel => exact ⟨k + 1, d - 1, m, by go_num, rfl, by go_num, by omega, by omega, by omega, hR2⟩
        case measure => simp [intOf]; omega
    · have a4 : ((t[k].toNat : Int) == 41) = false := by simp [h41]
      have hR2 : Pl.Reach (Pl.stB H) (o, 0, 0) (o + (k + 1), d, m) := hR.tail (Pl.stB_one hno (by rw [E.out]; omega) (by rw [E.out]; omega) (by rw [E.out]; exact h40) (by rw [E.out]; exact h41))
      clear h40 h41 hlow hno
      go_wp2_with (go_at_call 30; refine (pair_any t _ k rfl _ hs hlt).mono ?_; rintro e w' ⟨rfl, rfl⟩)
      go_round
      case rel => exact ⟨k + 1, d, m, rfl, rfl, by go_num, by omega, by omega, by omega, hR2⟩
      case measure => simp [intOf]; omega
end Go.Proofs.Qxb6604066a
