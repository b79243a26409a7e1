import Derived.Test.Qxb6604254aNorm
import Derived.Test.Qxb6604254aOut
namespace Go.Proofs.Qxb6604254a
open Go.RowKit

theorem not_has {s p : ByteArray} (h : ¬ Has s p) (b : UInt8) (h1 : b ∈ s.data.toList) (h2 : b ∈ p.data.toList) : False := by
  obtain ⟨i, hi, e1⟩ := List.getElem_of_mem h1
  obtain ⟨j, hj, e2⟩ := List.getElem_of_mem h2
  have hi' : i < s.size := by rw [Lib.size_eq]; exact hi
  have hj' : j < p.size := by rw [Lib.size_eq]; exact hj
  refine h ⟨i, j, hi', hj', (at0_eq_iff hi' hj').2 ?_⟩
  rw [List.getElem?_eq_getElem hi, List.getElem?_eq_getElem hj, e1, e2]

theorem lay_of {host path t : ByteArray} {port : Int} (hp : Parts host port path) (ht : PortIs port t) : Lay host.data.toList t.data.toList path.data.toList := by
  have hfr : ∀ b ∈ host.data.toList, b ≠ 47 ∧ b ≠ 63 := fun b hb =>
    ⟨fun e => not_has hp.plain b hb (by rw [e]; decide), fun e => not_has hp.plain b hb (by rw [e]; decide)⟩
  refine ⟨fun b hb => ?_, ?_, ?_⟩
  · rcases List.mem_append.1 hb with h | h
    · exact hfr b h
    · rcases ht with ⟨_, rfl⟩ | ⟨_, rfl⟩ | ⟨_, rfl⟩
      · simp at h
      · have h' : b ∈ ([58, 56, 48] : List UInt8) := h
        simp at h'
        rcases h' with rfl | rfl | rfl <;> decide
      · have h' : b ∈ ([58, 52, 52, 51] : List UInt8) := h
        simp at h'
        rcases h' with rfl | rfl | rfl <;> decide
  · cases hl : path.data.toList with
    | nil => exact .inl rfl
    | cons b P' =>
      right
      refine ⟨b, P', rfl, ?_⟩
      have hsz : 0 < path.size := by rw [Lib.size_eq, hl]; simp
      have h1 := at0_list path 0 b (by rw [hl]; rfl)
      have h2 := hp.opens hsz
      rw [h1] at h2
      rcases h2 with h2 | h2
      · left; exact UInt8.toNat_inj.1 (show b.toNat = 47 by omega)
      · right; exact UInt8.toNat_inj.1 (show b.toNat = 63 by omega)
  · rcases ht with ⟨h0, rfl⟩ | ⟨_, rfl⟩ | ⟨_, rfl⟩
    · exact .inl ⟨rfl, hp.bare80 h0, hp.bare443 h0⟩
    · exact .inr (.inl rfl)
    · exact .inr (.inr rfl)
theorem sharp_of {host path t : ByteArray} {port : Int} (hp : Parts host port path) (ht : PortIs port t) : (35 : UInt8) ∉ host.data.toList ++ t.data.toList ++ path.data.toList := by
  intro h
  rcases List.mem_append.1 h with h | h
  · rcases List.mem_append.1 h with h | h
    · exact not_has hp.plain 35 h (by decide)
    · rcases ht with ⟨_, rfl⟩ | ⟨_, rfl⟩ | ⟨_, rfl⟩
      · simp at h
      · revert h; decide
      · revert h; decide
  · exact not_has hp.clean 35 h (by decide)
theorem port_size {port : Int} {t : ByteArray} (ht : PortIs port t) : t.size ≤ 4 := by
  rcases ht with ⟨_, rfl⟩ | ⟨_, rfl⟩ | ⟨_, rfl⟩ <;> decide

set_option maxHeartbeats 400000 in
/-- ZZnormaliseAddress -/
theorem zznorm_any (a : ByteArray) (H T P F : List UInt8) (w : World) (ha : a.data.toList = H ++ T ++ P ++ F) (hsz : a.size ≤ 9000000) (hF : F = [] ∨ ∃ f, F = 35 :: f)
    (hno : (35 : UInt8) ∉ H ++ T ++ P) (L : Lay H T P) :
    Calls Try.prog 16 #[.string a] w fun e w' => e = .returned (.string ⟨(Lib.trimSuffix (H ++ P) [47]).toArray⟩) ∧ Gr w w' := by
  have HC : Hid (∀ w, Calls Try.prog 24 #[.string a] w fun e w' => e = .returned (.string ⟨(Lib.trimSuffix (H ++ P) [47]).toArray⟩) ∧ Gr w w') := fun w => norm_any a H T P F w ha hsz hF hno L
  clear ha hno L hF
  go_enter Try.func16, Try.ntmps16
  go_wp2_with fail
  refine (HC.out w).mono ?_
  rintro e w1 ⟨rfl, hG⟩
  go_wp2_with fail
  go_ret
  exact ⟨rfl, hG⟩

theorem trim_law (X R : ByteArray) (l : List UInt8) (hX : X.data.toList = l) (hR : R.data.toList = Lib.trimSuffix l [47]) :
    (Lib.hasSuffix l [47] = true → 1 ≤ X.size ∧ (R.toList == (X.extract 0 (X.size - 1)).toList) = true) ∧ (Lib.hasSuffix l [47] = false → (R.toList == X.toList) = true) := by
  refine ⟨fun h => ⟨?_, ?_⟩, fun h => ?_⟩
  · have h2 := h
    rw [Lib.hasSuffix, List.isSuffixOf_iff_suffix] at h2
    have h3 := h2.length_le
    rw [Lib.size_eq, hX]
    simpa using h3
  · rw [Lib.toList_data, Lib.toList_data, hR, Lib.trimSuffix, if_pos h, Lib.extract_data, hX, beq_iff_eq, Lib.size_eq, hX]
    simp
  · rw [Lib.toList_data, Lib.toList_data, hR, Lib.trimSuffix, if_neg (by rw [h]; simp), hX, beq_iff_eq]

set_option maxRecDepth 100000 in
set_option maxHeartbeats 2000000 in
/-- FnNormaliseAddressParts -/
theorem top_walk (host : ByteArray) (port : Int) (path : ByteArray) (hasFrag : Bool) (frag : ByteArray) (w : World) (b0 : host.size ≤ maxLen) (b2 : path.size ≤ maxLen) (b4 : frag.size ≤ maxLen) :
    Calls Try.prog 5 #[.string host, .int .i64 port, .string path, .bool hasFrag, .string frag] w fun e w' => e = .returned (.bool true) ∧ Gr w w' := by
  unfold maxLen at b0 b2 b4
  by_cases hsz : host.size + path.size + frag.size ≤ 1048576
  case neg =>
    go_enter Try.func5, Try.ntmps5
    go_wp2_with (go_at_call 12; refine (bytes_no _ _ _ _ _ _ (by omega) (by omega) (by omega) (by omega)).mono ?_; rintro e w' ⟨rfl, rfl⟩)
    go_ret
    exact ⟨rfl, Gr.refl _⟩
  go_enter Try.func5, Try.ntmps5
  go_wp2_with (go_at_call 12; refine (bytes_yes _ _ _ _ _ _ (by omega)).mono ?_; rintro e w1 ⟨rfl, hw⟩; rw [hw])
  refine (out_any host port path hasFrag frag w hsz).mono ?_
  rintro e w1 ⟨hO, hD⟩
  have hG1 := (Gr.refl w).dr hD
  rcases hO with rfl | ⟨rfl, hp⟩
  · go_wp2_with fail
    go_ret
    exact ⟨rfl, hG1⟩
  have h0 := hp.lo
  have h2 := hp.hi
  go_wp2_with fail
  refine (port_any port w1 h0 h2).mono ?_
  rintro e w2 ⟨hw, t, rfl, ht⟩
  have hw' := hw.symm
  clear hw
  subst hw'
  have hlay := lay_of hp ht
  have hsharp := sharp_of hp ht
  have htz := port_size ht
  have HS : Hid ((35 : UInt8) ∉ host.data.toList ++ t.data.toList ++ path.data.toList) := hsharp
  clear hsharp hp ht
  obtain ⟨R, hR⟩ : ∃ R : ByteArray, R = ⟨(Lib.trimSuffix (host.data.toList ++ path.data.toList) [47]).toArray⟩ := ⟨_, rfl⟩
  have HR : Hid (R.data.toList = Lib.trimSuffix (host.data.toList ++ path.data.toList) [47]) := by show _ = _; rw [hR]
  have hl0 : (host ++ t ++ path).data.toList = host.data.toList ++ t.data.toList ++ path.data.toList := by
    rw [ByteArray.data_append, Array.toList_append, ByteArray.data_append, Array.toList_append]
  have hl1 : (host ++ t ++ path ++ ⟨#[35]⟩ ++ frag).data.toList = host.data.toList ++ t.data.toList ++ path.data.toList ++ (35 :: frag.data.toList) := by
    rw [ByteArray.data_append, Array.toList_append, ByteArray.data_append, Array.toList_append, hl0]
    simp
  have HZ0 : Hid (∀ w, Calls Try.prog 16 #[.string (host ++ t ++ path)] w fun e w' => e = .returned (.string R) ∧ Gr w w') := by
    intro w
    rw [hR]
    refine zznorm_any _ host.data.toList t.data.toList path.data.toList [] w (by rw [List.append_nil]; exact hl0) ?_ (.inl rfl) HS.out hlay
    rw [Lib.size_eq, hl0, List.length_append, List.length_append, ← Lib.size_eq, ← Lib.size_eq, ← Lib.size_eq]
    omega
  have HZ1 : Hid (∀ w, Calls Try.prog 16 #[.string (host ++ t ++ path ++ ⟨#[35]⟩ ++ frag)] w fun e w' => e = .returned (.string R) ∧ Gr w w') := by
    intro w
    rw [hR]
    refine zznorm_any _ host.data.toList t.data.toList path.data.toList (35 :: frag.data.toList) w hl1 ?_ (.inr ⟨_, rfl⟩) HS.out hlay
    rw [Lib.size_eq, hl1, List.length_append, List.length_append, List.length_append, List.length_cons, ← Lib.size_eq, ← Lib.size_eq, ← Lib.size_eq, ← Lib.size_eq]
    omega
  clear hl0 hl1 hlay hR
  have hXl : (host ++ path).data.toList = host.data.toList ++ path.data.toList := by rw [ByteArray.data_append, Array.toList_append]
  have hXs : (host ++ path).size ≤ 1048576 := by rw [Lib.size_eq, hXl, List.length_append, ← Lib.size_eq, ← Lib.size_eq]; omega
  have HTR := trim_law (host ++ path) R _ hXl HR.out
  have HXL : Hid ((host ++ path).data.toList = host.data.toList ++ path.data.toList) := hXl
  clear hXl
  cases hasFrag
  · go_wp2_with fail
    generalize host ++ path = X at hXs HTR HXL
    have HT : Hid _ := HTR
    clear HTR
    refine (zs_any X _ _ (by omega) (by decide)).mono ?_
    rintro e w2 ⟨rfl, hD2⟩
    have hG2 := hG1.dr hD2
    rw [HXL.out]
    cases hq : Lib.hasSuffix (host.data.toList ++ path.data.toList) [47]
    · have heq := HT.out.2 hq
      clear HT
      go_wp2_with fail
      refine (HZ0.out _).mono ?_
      rintro e w3 ⟨rfl, hG3⟩
      have hG4 := hG2.trans hG3
      go_wp2_with fail
      go_ret
      exact ⟨rfl, hG4⟩
    · have hX1 := (HT.out.1 hq).1
      have heq := (HT.out.1 hq).2
      clear HT
      have i1 : ((X.size : Int) - 1).toNat = X.size - 1 := by omega
      go_wp2_with fail
      refine (HZ0.out _).mono ?_
      rintro e w3 ⟨rfl, hG3⟩
      have hG4 := hG2.trans hG3
      go_wp2_with fail
      go_ret
      exact ⟨rfl, hG4⟩
  · go_wp2_with fail
    generalize host ++ path = X at hXs HTR HXL
    have HT : Hid _ := HTR
    clear HTR
    refine (zs_any X _ _ (by omega) (by decide)).mono ?_
    rintro e w2 ⟨rfl, hD2⟩
    have hG2 := hG1.dr hD2
    rw [HXL.out]
    cases hq : Lib.hasSuffix (host.data.toList ++ path.data.toList) [47]
    · have heq := HT.out.2 hq
      clear HT
      go_wp2_with fail
      refine (HZ1.out _).mono ?_
      rintro e w3 ⟨rfl, hG3⟩
      have hG4 := hG2.trans hG3
      go_wp2_with fail
      go_ret
      exact ⟨rfl, hG4⟩
    · have hX1 := (HT.out.1 hq).1
      have heq := (HT.out.1 hq).2
      clear HT
      have i1 : ((X.size : Int) - 1).toNat = X.size - 1 := by omega
      go_wp2_with fail
      refine (HZ1.out _).mono ?_
      rintro e w3 ⟨rfl, hG3⟩
      have hG4 := hG2.trans hG3
      go_wp2_with fail
      go_ret
      exact ⟨rfl, hG4⟩
end Go.Proofs.Qxb6604254a
