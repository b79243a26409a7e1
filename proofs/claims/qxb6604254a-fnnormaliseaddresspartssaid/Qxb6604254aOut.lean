import Derived.Test.Qxb6604254aLeaf
import Derived.Deep.Cut
namespace Go.Proofs.Qxb6604254a
open Go.RowKit

set_option maxHeartbeats 400000 in
/-- zzAdd -/
theorem add_any (t l : Int) (w : World) (h1 : 0 ≤ t) (h2 : t ≤ 1048576) (h3 : 0 ≤ l) (h4 : l ≤ 1048576) : Calls Try.prog 23 #[.int .i64 t, .int .i64 l] w fun e w' => e = .returned (.int .i64 (t + l)) ∧ w' = w := by
  have g1 : decide (t < 0) = false := by simp; omega
  have g2 : decide (1048576 < t) = false := by simp; omega
  have g3 : decide (l < 0) = false := by simp; omega
  have g4 : decide (1048576 < l) = false := by simp; omega
  go_enter Try.func23, Try.ntmps23
  go_wp2_with fail
  go_ret
  exact ⟨rfl, rfl⟩

/-- WHAT THE LAW ASKS OF ITS PARTS -/
structure Parts (host : ByteArray) (port : Int) (path : ByteArray) : Prop where
  lo : 0 ≤ port
  hi : port ≤ 2
  plain : ¬ Has host ⟨#[35, 47, 63]⟩
  bare80 : port = 0 → Lib.hasSuffix host.data.toList [58, 56, 48] = false
  bare443 : port = 0 → Lib.hasSuffix host.data.toList [58, 52, 52, 51] = false
  opens : 0 < path.size → at0 path 0 = 47 ∨ at0 path 0 = 63
  clean : ¬ Has path ⟨#[35]⟩
/-- 'true; or false, and c holds' -/
def OutP (e : Ending) (c : Prop) : Prop := e = .returned (.bool true) ∨ (e = .returned (.bool false) ∧ c)
theorem OutP.out {e : Ending} {c : Prop} (h : e = .returned (.bool true)) : OutP e c := .inl h
theorem OutP.fits {e : Ending} {c : Prop} (h : e = .returned (.bool false)) (hc : c) : OutP e c := .inr ⟨h, hc⟩

set_option maxRecDepth 100000 in
set_option maxHeartbeats 2000000 in
/-- zzNormalisePartsOutside -/
theorem out_any (host : ByteArray) (port : Int) (path : ByteArray) (hasFrag : Bool) (frag : ByteArray) (w : World) (hs : host.size + path.size + frag.size ≤ 1048576) :
    Calls Try.prog 13 #[.string host, .int .i64 port, .string path, .bool hasFrag, .string frag] w fun e w' => OutP e (Parts host port path) ∧ Dr w w' := by
  have g1 : decide (1048576 < (host.size : Int)) = false := by simp; omega
  have g2 : decide (1048576 < (path.size : Int)) = false := by simp; omega
  have g3 : decide (1048576 < (frag.size : Int)) = false := by simp; omega
  have g4 : decide (1048576 < (host.size : Int) + (path.size : Int) + (frag.size : Int)) = false := by simp; omega
  by_cases hport : 0 ≤ port ∧ port ≤ 2
  case neg =>
    by_cases hp0 : port < 0
    · have g5 : decide (port < 0) = true := by simpa using hp0
      go_enter Try.func13, Try.ntmps13
      go_wp2_with (go_at_call 23; refine (add_any _ _ _ (by omega) (by omega) (by omega) (by omega)).mono ?_; rintro e w' ⟨rfl, rfl⟩)
      go_ret
      exact ⟨OutP.out rfl, Dr.refl _⟩
    · have g5 : decide (port < 0) = false := by simpa using hp0
      have g6 : decide (2 < port) = true := by simp; omega
      go_enter Try.func13, Try.ntmps13
      go_wp2_with (go_at_call 23; refine (add_any _ _ _ (by omega) (by omega) (by omega) (by omega)).mono ?_; rintro e w' ⟨rfl, rfl⟩)
      go_ret
      exact ⟨OutP.out rfl, Dr.refl _⟩
  obtain ⟨hp0, hp2⟩ := hport
  have g5 : decide (port < 0) = false := by simp; omega
  have g6 : decide (2 < port) = false := by simp; omega
  go_enter Try.func13, Try.ntmps13
  go_wp2_with (go_at_call 23; refine (add_any _ _ _ (by omega) (by omega) (by omega) (by omega)).mono ?_; rintro e w' ⟨rfl, rfl⟩)
  refine (zb_any host _ _ (by omega) (by decide)).mono ?_
  rintro e w1 ⟨hT, hD1⟩
  rcases hT with ⟨rfl, _⟩ | ⟨rfl, hplain⟩
  · go_wp2_with fail
    go_ret
    exact ⟨OutP.out rfl, hD1⟩
  have HP : Hid (¬ Has host ⟨#[35, 47, 63]⟩) := hplain
  clear hplain
  go_upto_region 9 with fail
  go_cut [50] from 11 (fun t wx => Dr w' wx ∧ (t = .bool true ∨ (t = .bool false ∧ (port = 0 → Lib.hasSuffix host.data.toList [58, 56, 48] = false ∧ Lib.hasSuffix host.data.toList [58, 52, 52, 51] = false))))
  case first =>
    by_cases hpz : port = 0
    · have g7 : (port == 0) = true := by simp [hpz]
      clear hpz
      go_wp2_with fail
      refine (zs_any host _ _ (by omega) (by decide)).mono ?_
      rintro e w2 ⟨rfl, hD2⟩
      cases h80 : Lib.hasSuffix host.data.toList [58, 56, 48]
      · have H80 : Hid (Lib.hasSuffix host.data.toList [58, 56, 48] = false) := h80
        go_wp2_with fail
        refine (zs_any host _ _ (by omega) (by decide)).mono ?_
        rintro e w3 ⟨rfl, hD3⟩
        cases h443 : Lib.hasSuffix host.data.toList [58, 52, 52, 51]
        · have H443 : Hid (Lib.hasSuffix host.data.toList [58, 52, 52, 51] = false) := h443
          go_wp2_with fail
          go_meet
          exact ⟨(hD1.trans hD2).trans hD3, .inr ⟨rfl, fun _ => ⟨H80.out, H443.out⟩⟩⟩
        · go_wp2_with fail
          go_meet
          exact ⟨(hD1.trans hD2).trans hD3, .inl rfl⟩
      · go_wp2_with fail
        go_meet
        exact ⟨hD1.trans hD2, .inl rfl⟩
    · have g7 : (port == 0) = false := by simp [hpz]
      have HZ : Hid (¬ port = 0) := hpz
      clear hpz
      go_wp2_with fail
      go_meet
      exact ⟨hD1, .inr ⟨rfl, fun h => (HZ.out h).elim⟩⟩
  case rest =>
    obtain ⟨hD2, hc⟩ := hcut
    rcases hc with rfl | ⟨rfl, hbare⟩
    · go_wp2_with fail
      go_ret
      exact ⟨OutP.out rfl, hD2⟩
    have HB : Hid (port = 0 → Lib.hasSuffix host.data.toList [58, 56, 48] = false ∧ Lib.hasSuffix host.data.toList [58, 52, 52, 51] = false) := hbare
    clear hbare
    by_cases hpath : 0 < path.size
    · have e0 : Hid (at0 path 0 = (path[0].toNat : Int)) := at0_in hpath
      have g8 : decide (0 < (path.size : Int)) = true := by simp; omega
      by_cases h47 : (path[0].toNat : Int) = 47
      · have g9 : ((path[0].toNat : Int) != 47) = false := by simp [h47]
        have HO : Hid (at0 path 0 = 47 ∨ at0 path 0 = 63) := .inl (by rw [e0.out]; exact h47)
        clear h47
        go_wp2_with fail
        refine (zb_any path _ _ (by omega) (by decide)).mono ?_
        rintro e w2 ⟨hT, hD3⟩
        rcases hT with ⟨rfl, _⟩ | ⟨rfl, hclean⟩
        · go_wp2_with fail
          go_ret
          exact ⟨OutP.out rfl, hD2.trans hD3⟩
        · have HCl : Hid (¬ Has path ⟨#[35]⟩) := hclean
          clear hclean
          go_wp2_with fail
          go_ret
          exact ⟨OutP.fits rfl ⟨hp0, hp2, HP.out, fun h => (HB.out h).1, fun h => (HB.out h).2, fun _ => HO.out, HCl.out⟩, hD2.trans hD3⟩
      · have g9 : ((path[0].toNat : Int) != 47) = true := by simpa using h47
        by_cases h63 : (path[0].toNat : Int) = 63
        · have g10 : ((path[0].toNat : Int) != 63) = false := by simp [h63]
          have HO : Hid (at0 path 0 = 47 ∨ at0 path 0 = 63) := .inr (by rw [e0.out]; exact h63)
          clear h63 h47
          go_wp2_with fail
          refine (zb_any path _ _ (by omega) (by decide)).mono ?_
          rintro e w2 ⟨hT, hD3⟩
          rcases hT with ⟨rfl, _⟩ | ⟨rfl, hclean⟩
          · go_wp2_with fail
            go_ret
            exact ⟨OutP.out rfl, hD2.trans hD3⟩
          · have HCl : Hid (¬ Has path ⟨#[35]⟩) := hclean
            clear hclean
            go_wp2_with fail
            go_ret
            exact ⟨OutP.fits rfl ⟨hp0, hp2, HP.out, fun h => (HB.out h).1, fun h => (HB.out h).2, fun _ => HO.out, HCl.out⟩, hD2.trans hD3⟩
        · have g10 : ((path[0].toNat : Int) != 63) = true := by simpa using h63
          clear h63 h47
          go_wp2_with fail
          go_ret
          exact ⟨OutP.out rfl, hD2⟩
    · have g8 : decide (0 < (path.size : Int)) = false := decide_eq_false (by omega)
      go_wp2_with fail
      refine (zb_any path _ _ (by omega) (by decide)).mono ?_
      rintro e w2 ⟨hT, hD3⟩
      rcases hT with ⟨rfl, _⟩ | ⟨rfl, hclean⟩
      · go_wp2_with fail
        go_ret
        exact ⟨OutP.out rfl, hD2.trans hD3⟩
      · have HCl : Hid (¬ Has path ⟨#[35]⟩) := hclean
        clear hclean
        go_wp2_with fail
        go_ret
        exact ⟨OutP.fits rfl ⟨hp0, hp2, HP.out, fun h => (HB.out h).1, fun h => (HB.out h).2, fun h => (hpath h).elim, HCl.out⟩, hD2.trans hD3⟩

/-- the port's text -/
def PortIs (port : Int) (t : ByteArray) : Prop := (port = 0 ∧ t = ⟨#[]⟩) ∨ (port = 1 ∧ t = ⟨#[58, 56, 48]⟩) ∨ (port = 2 ∧ t = ⟨#[58, 52, 52, 51]⟩)
set_option maxHeartbeats 400000 in
/-- zzPortText -/
theorem port_any (port : Int) (w : World) (h0 : 0 ≤ port) (h2 : port ≤ 2) :
    Calls Try.prog 14 #[.int .i64 port] w fun e w' => w' = w ∧ ∃ t, e = .returned (.string t) ∧ PortIs port t := by
  have h : port = 0 ∨ port = 1 ∨ port = 2 := by omega
  rcases h with rfl | rfl | rfl
  · go_enter Try.func14, Try.ntmps14
    go_wp2
    go_ret
    exact ⟨rfl, _, rfl, .inl ⟨rfl, rfl⟩⟩
  · go_enter Try.func14, Try.ntmps14
    go_wp2
    go_ret
    exact ⟨rfl, _, rfl, .inr (.inl ⟨rfl, rfl⟩)⟩
  · go_enter Try.func14, Try.ntmps14
    go_wp2
    go_ret
    exact ⟨rfl, _, rfl, .inr (.inr ⟨rfl, rfl⟩)⟩

set_option maxHeartbeats 400000 in
/-- zzBytes_FnNormaliseAddressParts, within its bound -/
theorem bytes_yes (host : ByteArray) (port : Int) (path : ByteArray) (hasFrag : Bool) (frag : ByteArray) (w : World) (hs : host.size + path.size + frag.size ≤ 1048576) :
    Calls Try.prog 12 #[.string host, .int .i64 port, .string path, .bool hasFrag, .string frag] w fun e w' => e = .returned (.bool true) ∧ w' = w := by
  go_enter Try.func12, Try.ntmps12
  go_wp2
  go_ret
  exact ⟨rfl, rfl⟩
set_option maxHeartbeats 400000 in
/-- zzBytes_FnNormaliseAddressParts, beyond it -/
theorem bytes_no (host : ByteArray) (port : Int) (path : ByteArray) (hasFrag : Bool) (frag : ByteArray) (w : World) (hs : 1048576 < host.size + path.size + frag.size)
    (b1 : host.size ≤ 9223372036854775807) (b2 : path.size ≤ 9223372036854775807) (b3 : frag.size ≤ 9223372036854775807) :
    Calls Try.prog 12 #[.string host, .int .i64 port, .string path, .bool hasFrag, .string frag] w fun e w' => e = .returned (.bool false) ∧ w' = w := by
  go_enter Try.func12, Try.ntmps12
  go_wp2
  all_goals (go_ret; exact ⟨rfl, rfl⟩)
end Go.Proofs.Qxb6604254a
