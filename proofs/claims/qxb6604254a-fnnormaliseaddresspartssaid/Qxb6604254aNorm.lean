import Derived.Test.Qxb6604254aSet
import Derived.Deep.Cut
import Derived.Deep.CutBlock
import Derived.Deep.CutRange
namespace Go.Proofs.Qxb6604254a
open Go.RowKit

theorem index_app (c : UInt8) (A B : List UInt8) (h : c ∉ A) : Lib.indexByte (A ++ c :: B) c = A.length := by
  induction A with
  | nil => simp [Lib.indexByte]
  | cons b A ih =>
    have h1 : (b == c) = false := by
      rw [beq_eq_false_iff_ne]
      rintro rfl
      exact h (List.mem_cons_self ..)
    have h2 := ih (fun hm => h (List.mem_cons_of_mem _ hm))
    rw [List.cons_append, Lib.indexByte, h1, h2]
    have h3 : (((A.length : Int)) == -1) = false := by rw [beq_eq_false_iff_ne]; omega
    rw [h3]
    simp
theorem index_no (c : UInt8) (A : List UInt8) (h : c ∉ A) : Lib.indexByte A c = -1 := by
  induction A with
  | nil => rfl
  | cons b A ih =>
    have h1 : (b == c) = false := by
      rw [beq_eq_false_iff_ne]
      rintro rfl
      exact h (List.mem_cons_self ..)
    rw [Lib.indexByte, h1, ih (fun hm => h (List.mem_cons_of_mem _ hm))]
    rfl
theorem at0_list (s : ByteArray) (k : Nat) (b : UInt8) (h : s.data.toList[k]? = some b) : at0 s k = (b.toNat : Int) := by
  have hk : k < s.size := by
    have := (List.getElem?_eq_some_iff.1 h).1
    rw [Lib.size_eq]; exact this
  rw [list_at s k hk] at h
  rw [at0_in hk, Option.some.inj h]

/-- WHAT IS KNOWN of the text ahead of a fragment: host and port without '/' and '?', the path opens with one or is empty -/
structure Lay (H T P : List UInt8) : Prop where
  front : ∀ b ∈ H ++ T, b ≠ 47 ∧ b ≠ 63
  path : P = [] ∨ ∃ b P', P = b :: P' ∧ (b = 47 ∨ b = 63)
  port : (T = [] ∧ Lib.hasSuffix H [58, 56, 48] = false ∧ Lib.hasSuffix H [58, 52, 52, 51] = false) ∨ T = [58, 56, 48] ∨ T = [58, 52, 52, 51]

theorem first_law {e : Ending} {a : ByteArray} {H T P : List UInt8} (L : Lay H T P) (ha : a.data.toList = H ++ T ++ P) (hf : First e a) :
    (P = [] ∧ e = .returned (.int .i64 (-1))) ∨ (P ≠ [] ∧ e = .returned (.int .i64 ((H ++ T).length : Nat))) := by
  have hfront : NoHit a (H ++ T).length := fun j hj => by
    have hm : (H ++ T)[j] ∈ H ++ T := List.getElem_mem hj
    have h1 : a.data.toList[j]? = some (H ++ T)[j] := by rw [ha, List.getElem?_append_left hj, List.getElem?_eq_getElem hj]
    rw [at0_list a j _ h1]
    have h2 := L.front _ hm
    constructor
    · intro h; exact h2.1 (UInt8.toNat_inj.1 (show (H ++ T)[j].toNat = 47 by omega))
    · intro h; exact h2.2 (UInt8.toNat_inj.1 (show (H ++ T)[j].toNat = 63 by omega))
  have hsz : a.size = (H ++ T).length + P.length := by rw [Lib.size_eq, ha]; simp; omega
  rcases L.path with hP | ⟨b, P', hP, hb⟩
  · subst hP
    left
    refine ⟨rfl, ?_⟩
    rcases hf with ⟨h, _⟩ | ⟨k, _, hk, hh, _⟩
    · exact h
    · have := hfront k (by simp at hsz ⊢; omega)
      omega
  · right
    subst hP
    refine ⟨by simp, ?_⟩
    have h1 : a.data.toList[(H ++ T).length]? = some b := by rw [ha, List.getElem?_append_right (Nat.le_refl _)]; simp
    have h2 := at0_list a _ _ h1
    have h3 : at0 a (H ++ T).length = 47 ∨ at0 a (H ++ T).length = 63 := by
      rw [h2]
      rcases hb with rfl | rfl
      · left; rfl
      · right; rfl
    rcases hf with ⟨_, hn⟩ | ⟨k, he, hk, hh, hn⟩
    · have := hn (H ++ T).length (by simp at hsz ⊢; omega)
      omega
    · have hkk : k = (H ++ T).length := by
        by_cases hlt : k < (H ++ T).length
        · have := hfront k hlt; omega
        · by_cases hgt : (H ++ T).length < k
          · have := hn _ hgt; omega
          · omega
      rw [he, hkk]

theorem suf_self (A B : List UInt8) : Lib.hasSuffix (A ++ B) B = true := by
  rw [Lib.hasSuffix, List.isSuffixOf_iff_suffix]
  exact List.suffix_append A B
theorem suf_443_80 (A : List UInt8) : Lib.hasSuffix (A ++ [58, 52, 52, 51]) [58, 56, 48] = false := by
  rw [← Bool.not_eq_true, Lib.hasSuffix, List.isSuffixOf_iff_suffix]
  rintro ⟨B, hB⟩
  have h1 := congrArg List.getLast? hB
  simp at h1

theorem join_law (a1 : ByteArray) (H T P : List UInt8) (h k : Nat) (ha : a1.data.toList = H ++ T ++ P) (hh : h = (H ++ T).length) (hk : k = T.length) : ((a1.extract 0 (h - k)) ++ (a1.extract h a1.size)).data.toList = H ++ P := by
  rw [ByteArray.data_append, Array.toList_append, Lib.extract_data, Lib.extract_data, ha, List.drop_zero, Nat.sub_zero]
  have e1 : h - k = H.length := by rw [hh, hk]; simp
  congr 1
  · rw [e1, List.append_assoc, List.take_left]
  · rw [hh, List.drop_left, List.take_of_length_le]
    rw [Lib.size_eq, ha]
    simp
    omega
theorem port80 {H T P : List UInt8} (L : Lay H T P) (h : Lib.hasSuffix (H ++ T) [58, 56, 48] = true) : T = [58, 56, 48] := by
  rcases L.port with ⟨rfl, h1, _⟩ | h1 | rfl
  · rw [List.append_nil, h1] at h; cases h
  · exact h1
  · rw [suf_443_80] at h; cases h
theorem port443 {H T P : List UInt8} (L : Lay H T P) (h0 : Lib.hasSuffix (H ++ T) [58, 56, 48] = false) (h : Lib.hasSuffix (H ++ T) [58, 52, 52, 51] = true) : T = [58, 52, 52, 51] := by
  rcases L.port with ⟨rfl, _, h1⟩ | rfl | h1
  · rw [List.append_nil, h1] at h; cases h
  · rw [suf_self] at h0; cases h0
  · exact h1
theorem port0 {H T P : List UInt8} (L : Lay H T P) (h0 : Lib.hasSuffix (H ++ T) [58, 56, 48] = false) (h : Lib.hasSuffix (H ++ T) [58, 52, 52, 51] = false) : T = [] := by
  rcases L.port with ⟨h1, _⟩ | rfl | rfl
  · exact h1
  · rw [suf_self] at h0; cases h0
  · rw [suf_self] at h; cases h

/-- a string value that holds the bytes l -/
def IsStr (t : Value) (l : List UInt8) : Prop := ∃ a : ByteArray, t = .string a ∧ a.data.toList = l

set_option maxRecDepth 100000 in
set_option maxHeartbeats 4000000 in
/-- normaliseAddress -/
theorem norm_any (a : ByteArray) (H T P F : List UInt8) (w : World) (ha : a.data.toList = H ++ T ++ P ++ F) (hsz : a.size ≤ 9000000) (hF : F = [] ∨ ∃ f, F = 35 :: f)
    (hno : (35 : UInt8) ∉ H ++ T ++ P) (L : Lay H T P) :
    Calls Try.prog 24 #[.string a] w fun e w' => e = .returned (.string ⟨(Lib.trimSuffix (H ++ P) [47]).toArray⟩) ∧ Gr w w' := by
  have HA : Hid (a.data.toList = H ++ T ++ P ++ F) := ha
  have HNO : Hid ((35 : UInt8) ∉ H ++ T ++ P) := hno
  clear ha hno
  obtain ⟨n0, hn0⟩ : ∃ n0 : Nat, n0 = (H ++ T ++ P).length := ⟨_, rfl⟩
  obtain ⟨h, hh⟩ : ∃ h : Nat, h = (H ++ T).length := ⟨_, rfl⟩
  have hlenA : a.size = n0 + F.length := by rw [Lib.size_eq, HA.out, hn0, List.length_append]
  have hhn : h ≤ n0 := by rw [hn0, hh]; simp
  have hPn : P = [] → h = n0 := fun e => by rw [hn0, hh, e]; simp
  have hn0s : n0 ≤ 9000000 := by omega
  have HLA : Hid (a.size = n0 + F.length) := hlenA
  have HN0 : Hid (n0 = (H ++ T ++ P).length) := hn0
  have HH : Hid (h = (H ++ T).length) := hh
  have HPN : Hid (P = [] → h = n0) := hPn
  clear hlenA hn0 hh hPn
  have hidx : Lib.indexByte a.data.toList 35 = if F = [] then -1 else (n0 : Int) := by
    rw [HA.out, HN0.out]
    rcases hF with rfl | ⟨f, rfl⟩
    · rw [List.append_nil, if_pos rfl]; exact index_no 35 _ HNO.out
    · rw [if_neg (by simp)]; exact index_app 35 _ f HNO.out
  have HI : Hid (Lib.indexByte a.data.toList 35 = if F = [] then -1 else (n0 : Int)) := hidx
  clear hidx
  go_enter Try.func24, Try.ntmps24
  go_upto_region 1 with fail
  go_cut [3] from 8 (fun t wx => wx = w ∧ t = .int .i64 (if F = [] then -1 else (n0 : Int)))
  case first =>
    go_wp2_with fail
    refine (ib_any a 35 w).mono ?_
    rintro e w1 ⟨rfl, hw⟩
    rw [hw]
    clear hw
    go_wp2_with fail
    go_meet
    exact ⟨rfl, by rw [HI.out]⟩
  case rest =>
    obtain ⟨rfl, rfl⟩ := hcut
    go_upto_if 11 with fail
    go_cut [0, 3] from 8 (fun t _ wx => wx = wc ∧ IsStr t (H ++ T ++ P))
    case first =>
      by_cases hFe : F = []
      · rw [if_pos hFe]
        have hfin : Hid (a.data.toList = H ++ T ++ P) := by show _ = _; rw [HA.out, hFe, List.append_nil]
        clear hFe
        go_wp2_with fail
        go_meet
        exact ⟨rfl, a, rfl, hfin.out⟩
      · rw [if_neg hFe]
        have hfin : Hid ((a.extract 0 n0).data.toList = H ++ T ++ P) := by
          show _ = _
          rw [Lib.extract_data, HA.out, HN0.out, List.drop_zero, Nat.sub_zero, List.take_left]
        have hle : n0 ≤ a.size := by have := HLA.out; omega
        clear hFe
        go_wp2_with fail
        go_meet
        exact ⟨rfl, _, rfl, hfin.out⟩
    case rest =>
      obtain ⟨rfl, a1, rfl, ha1⟩ := hcut
      have HA1 : Hid (a1.data.toList = H ++ T ++ P) := ha1
      have hs1 : a1.size = n0 := by rw [Lib.size_eq, ha1]; exact HN0.out.symm
      clear ha1
      go_upto_region 5 with fail
      go_cut [5] from 8 (fun t wx => Gr wc wx ∧ t = .int .i64 (if P = [] then -1 else (h : Int)))
      case first =>
        go_wp2_with fail
        refine (any_any a1 wc (by omega)).mono ?_
        rintro e w2 ⟨hf, hG⟩
        have hlaw := first_law L HA1.out hf
        clear hf
        rcases hlaw with ⟨hPe, rfl⟩ | ⟨hPe, rfl⟩
        · have hfin : Hid ((-1 : Int) = if P = [] then -1 else (h : Int)) := by show _ = _; rw [if_pos hPe]
          clear hPe
          go_wp2_with fail
          go_meet
          exact ⟨hG, by rw [← hfin.out]⟩
        · have hfin : Hid (((((H ++ T).length : Nat) : Int)) = if P = [] then -1 else (h : Int)) := by show _ = _; rw [if_neg hPe, HH.out]
          clear hPe
          go_wp2_with fail
          go_meet
          exact ⟨hG, by rw [← hfin.out]; simp⟩
      case rest =>
        obtain ⟨hG, rfl⟩ := hcut
        obtain ⟨w2, rfl⟩ : ∃ w2 : World, w2 = wc := ⟨_, rfl⟩
        go_upto_if 20 with fail
        go_cut [4, 5] from 8 (fun t _ wx => wx = w2 ∧ t = .int .i64 (h : Int))
        case first =>
          by_cases hPe : P = []
          · rw [if_pos hPe]
            have hfin : Hid ((a1.size : Int) = (h : Int)) := by show _ = _; rw [hs1, HPN.out hPe]
            clear hPe
            go_wp2_with fail
            go_meet
            exact ⟨rfl, by rw [← hfin.out]; simp [hs1]⟩
          · rw [if_neg hPe]
            clear hPe
            go_wp2_with fail
            go_meet
            exact ⟨rfl, rfl⟩
        case rest =>
          obtain ⟨rfl, rfl⟩ := hcut
          go_upto_block 0 with fail
          obtain ⟨wb, rfl⟩ : ∃ wb : World, wb = wc := ⟨_, rfl⟩
          have hGb : Hid (Gr wb (wb.alloc (.cells #[.string ⟨#[58, 56, 48]⟩, .string ⟨#[58, 52, 52, 51]⟩] 9))) := (Gr.refl wb).cells _ _
          have hex : Hid ((a1.extract 0 h).data.toList = H ++ T) := by
            show _ = _
            rw [Lib.extract_data, HA1.out, List.drop_zero, Nat.sub_zero, HH.out, List.take_left]
          have HS : Hid (∀ (w : World) (p : ByteArray), Calls Try.prog 28 #[.string (a1.extract 0 h), .string p] w fun e w' => e = .returned (.bool (Lib.hasSuffix (H ++ T) p.data.toList)) ∧ w' = w) := by
            intro w p
            have := hs_any (a1.extract 0 h) p w (by rw [ByteArray.size_extract]; omega)
            rw [hex.out] at this
            exact this
          go_cut [0, 7] from 8 (fun t _ wx => Gr wb wx ∧ IsStr t (H ++ P))
          case first =>
            go_wp2_with fail
            go_loop [0, 7, 24] (fun t _ u => t = .string a1 ∧ ((u = .int .i64 0) ∨ (u = .int .i64 1 ∧ Lib.hasSuffix (H ++ T) [58, 56, 48] = false) ∨ (u = .int .i64 2 ∧ Lib.hasSuffix (H ++ T) [58, 56, 48] = false ∧ Lib.hasSuffix (H ++ T) [58, 52, 52, 51] = false))) (fun _ _ u => 2 - (intOf u).toNat)
            case atStart => exact ⟨rfl, .inl rfl⟩
            case round =>
              obtain ⟨rfl, hu⟩ := hrel
              rcases hu with rfl | ⟨rfl, h80⟩ | ⟨rfl, h80, h443⟩
              · go_wp2_with fail
                refine (HS.out _ _).mono ?_
                rintro e w3 ⟨rfl, hw⟩
                have hw' := hw.symm
                clear hw
                subst hw'
                cases hq : Lib.hasSuffix (H ++ T) [58, 56, 48]
                · have HQ : Hid (Lib.hasSuffix (H ++ T) [58, 56, 48] = false) := hq
                  go_wp2_with fail
                  go_round
                  case rel => exact ⟨rfl, .inr (.inl ⟨rfl, HQ.out⟩)⟩
                  case measure => simp [intOf]
                · have hTe := port80 L hq
                  have h3 : 3 ≤ h := by rw [HH.out, hTe]; simp
                  have hj : Hid (((a1.extract 0 (h - 3)) ++ (a1.extract h a1.size)).data.toList = H ++ P) := join_law a1 H T P h 3 HA1.out HH.out (by rw [hTe]; rfl)
                  have i1 : ((h : Int) - 3).toNat = h - 3 := by omega
                  clear hTe
                  go_wp2_with fail
                  go_quiet (fail)
                  go_wp2_with fail
                  go_meet
                  exact ⟨hGb.out.drewN _, _, rfl, by rw [← hs1]; exact hj.out⟩
              · have H80 : Hid (Lib.hasSuffix (H ++ T) [58, 56, 48] = false) := h80
                clear h80
                go_wp2_with fail
                refine (HS.out _ _).mono ?_
                rintro e w3 ⟨rfl, hw⟩
                have hw' := hw.symm
                clear hw
                subst hw'
                cases hq : Lib.hasSuffix (H ++ T) [58, 52, 52, 51]
                · have HQ : Hid (Lib.hasSuffix (H ++ T) [58, 52, 52, 51] = false) := hq
                  go_wp2_with fail
                  go_round
                  case rel => exact ⟨rfl, .inr (.inr ⟨rfl, H80.out, HQ.out⟩)⟩
                  case measure => simp [intOf]
                · have hTe := port443 L H80.out hq
                  have h3 : 4 ≤ h := by rw [HH.out, hTe]; simp
                  have hj : Hid (((a1.extract 0 (h - 4)) ++ (a1.extract h a1.size)).data.toList = H ++ P) := join_law a1 H T P h 4 HA1.out HH.out (by rw [hTe]; rfl)
                  have i1 : ((h : Int) - 4).toNat = h - 4 := by omega
                  clear hTe
                  go_wp2_with fail
                  go_quiet (fail)
                  go_wp2_with fail
                  go_meet
                  exact ⟨hGb.out.drewN _, _, rfl, by rw [← hs1]; exact hj.out⟩
              · have hTe := port0 L h80 h443
                have hfin : Hid (a1.data.toList = H ++ P) := by show _ = _; rw [HA1.out, hTe, List.append_nil]
                clear hTe h80 h443
                go_wp2_with fail
                go_meet
                exact ⟨hGb.out, a1, rfl, hfin.out⟩
          case rest =>
            obtain ⟨hG2, a2, rfl, ha2⟩ := hcut
            have HA2 : Hid (a2.data.toList = H ++ P) := ha2
            have hs2 : a2.size ≤ 9000000 := by
              have e1 : a2.size = (H ++ P).length := by rw [Lib.size_eq, ha2]
              have e2 := HN0.out
              simp at e1 e2
              omega
            clear ha2
            have hGf := hG.trans hG2
            go_wp2_with fail
            refine (ts_any a2 _ _ (by omega)).mono ?_
            rintro e w3 ⟨rfl, hw⟩
            have hw' := hw.symm
            clear hw
            subst hw'
            rw [HA2.out]
            go_wp2_with fail
            go_ret
            exact ⟨rfl, hGf⟩
end Go.Proofs.Qxb6604254a
