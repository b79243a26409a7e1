import Derived.Test.Qxb6604066aAttrLeaf
import Derived.Lib.IndexLaws
import Derived.Deep.QuietTactic
import Derived.BigQuiet
import Derived.Deep.Cut
import Derived.Deep.CutBlock
namespace Go.Proofs.Qxb6604066a
open Go.RowKit

theorem list_at (s : ByteArray) (k : Nat) (h : k < s.size) : s.data.toList[k]? = some s[k] := by
  rw [List.getElem?_eq_getElem (by simpa using h)]
  rfl
theorem list_at_none (s : ByteArray) (k : Nat) (h : s.size ≤ k) : s.data.toList[k]? = none := by
  rw [List.getElem?_eq_none (by simpa using h)]
theorem at0_of {s : ByteArray} {k : Nat} {b : UInt8} (h : s.data.toList[k]? = some b) : k < s.size ∧ at0 s k = (b.toNat : Int) := by
  have hk : k < s.size := by
    by_cases hk : k < s.size
    · exact hk
    · rw [list_at_none s k (by omega)] at h; cases h
  rw [list_at s k hk] at h
  cases h
  exact ⟨hk, at0_in hk⟩
theorem of_at0 {s : ByteArray} {k : Nat} {b : UInt8} (hk : k < s.size) (h : at0 s k = (b.toNat : Int)) : s.data.toList[k]? = some b := by
  rw [list_at s k hk, at0_in hk] at *
  have : s[k].toNat = b.toNat := by omega
  rw [UInt8.toNat_inj.1 this]

/-- the first of a byte in a tail -/
theorem close_law (s : ByteArray) (b : UInt8) (a C : Nat) (ha : a ≤ s.size) (hC : Pa.Runs (Pa.notB (b.toNat : Int)) (at0 s) s.size a C) :
    Lib.indexByte (s.extract a s.size).data.toList b = if C < s.size then (C : Int) - a else -1 := by
  have hx : ∀ k, at0 (s.extract a s.size) k = at0 s (a + k) := fun k => by
    rw [at0, at0]
    by_cases h : a + k < s.size
    · rw [dif_pos (by rw [ByteArray.size_extract]; omega), dif_pos h, ByteArray.getElem_extract]
    · rw [dif_neg (by rw [ByteArray.size_extract]; omega), dif_neg h]
  have hsz : (s.extract a s.size).size = s.size - a := by rw [ByteArray.size_extract]; omega
  have hle := hC.le
  have hge := Lib.indexByte_ge (s.extract a s.size).data.toList b
  have hat : C < s.size → (s.extract a s.size).data.toList[C - a]? = some b := fun h => by
    refine of_at0 (by omega) ?_
    rw [hx, show a + (C - a) = C from by omega]
    have := hC.stop h
    simpa [Pa.notB] using this
  by_cases hneg : Lib.indexByte (s.extract a s.size).data.toList b = -1
  · rw [hneg, if_neg]
    intro h
    exact Lib.indexByte_none hneg _ (hat h)
  · obtain ⟨o, ho⟩ := Int.eq_ofNat_of_zero_le (show 0 ≤ Lib.indexByte (s.extract a s.size).data.toList b by omega)
    obtain ⟨h1, h2⟩ := Lib.indexByte_some ho
    obtain ⟨h3, h4⟩ := at0_of h1
    rw [hx] at h4
    have hoC : C ≤ a + o := by
      by_cases h : C ≤ a + o
      · exact h
      · have := hC.all (a + o) (by omega) (by omega)
        rw [h4] at this
        simp [Pa.notB] at this
    have hCn : C < s.size := by omega
    have : C = a + o := by
      by_cases h : C = a + o
      · exact h
      · exact (h2 (C - a) (by omega) (hat hCn)).elim
    rw [ho, if_pos hCn]
    omega

set_option maxHeartbeats 400000 in
/-- strings.IndexByte, its answer known -/
theorem ib_eq (t : ByteArray) (c : Int) (r : Int) (w : World) (h : Lib.indexByte t.data.toList c.toNat.toUInt8 = r) : Calls Try.prog 33 #[.string t, .int .u8 c] w fun e w' => e = .returned (.int .i64 r) ∧ w' = w := by
  refine (ib_any t c w).mono ?_
  rintro e w' ⟨rfl, rfl⟩
  exact ⟨ret_int h, rfl⟩

set_option maxRecDepth 100000 in
set_option maxHeartbeats 4000000 in
/-- attribute, where a name begins -/
theorem attr_any (s : ByteArray) (i : Int) (i0 E Q V C U : Nat) (hi : i = i0) (w : World) (hs : s.size ≤ 1048576) (h0 : i0 < s.size) (hst : Pa.startB (at0 s i0) = true)
    (hM : Pa.Marks (at0 s) s.size i0 E Q V C U) :
    Calls Try.prog 20 #[.string s, .int .i64 i] w fun e w' => e = .returned (.int .i64 (Pa.ans (at0 s) s.size i0 E Q V C U)) ∧ ∃ q, w' = w.drewN q := by
  subst hi
  have hEl := hM.hE.lim
  have hEi := hM.hE.le
  go_enter Try.func20, Try.ntmps20
  go_upto_region 1 with fail
  go_cut [32] from 10 (fun t wx => wx = w ∧ t = .bool false)
  case first =>
    rw [at0_in h0] at hst
    have hge : decide ((s.size : Int) ≤ (i0 : Int)) = false := by simp; omega
    have hgeN : decide (s.size ≤ i0) = false := by simp; omega
    cases hl : Pa.letB (s[i0].toNat : Int)
    · by_cases h95 : (s[i0].toNat : Int) = 95
      · have g1 : ((s[i0].toNat : Int) != 95) = false := by simp [h95]
        clear hst h95
        go_wp2_with (go_at_call 31; refine (let_any _ _).mono ?_; rintro e w' ⟨rfl, rfl⟩)
        go_meet
        exact ⟨rfl, rfl⟩
      · have g1 : ((s[i0].toNat : Int) != 95) = true := by simpa using h95
        have g2 : ((s[i0].toNat : Int) != 58) = false := by
          simp [Pa.startB, hl, h95] at hst
          simp [hst]
        clear hst h95
        go_wp2_with (go_at_call 31; refine (let_any _ _).mono ?_; rintro e w' ⟨rfl, rfl⟩)
        go_meet
        exact ⟨rfl, rfl⟩
    · clear hst
      go_wp2_with (go_at_call 31; refine (let_any _ _).mono ?_; rintro e w' ⟨rfl, rfl⟩)
      go_meet
      exact ⟨rfl, rfl⟩
  case rest =>
    obtain ⟨rfl, rfl⟩ := hcut
    clear hst
    go_upto_block 0 with fail
    go_cut [5] from 10 (fun t wx => wx = wc ∧ t = .int .i64 E)
    case first =>
      go_wp2_with fail
      go_loop [5] (fun t => ∃ k : Nat, t = .int .i64 k ∧ i0 + 1 ≤ k ∧ k ≤ E) (fun t => s.size - (intOf t).toNat)
      case atStart => exact ⟨i0 + 1, by go_num, by omega, hEi⟩
      case round =>
        obtain ⟨k, rfl, hk1, hk2⟩ := hrel
        by_cases hlt : k < s.size
        case neg =>
          obtain rfl : k = E := by omega
          have hge : decide ((k : Int) < (s.size : Int)) = false := by simp; omega
          go_wp2_with fail
          go_meet
          exact ⟨rfl, rfl⟩
        have e : at0 s k = (s[k].toNat : Int) := at0_in hlt
        have hl := marks_law s[k]
        cases hn : Pa.nameB (at0 s k)
        · obtain rfl : k = E := hM.hE.no hk1 hk2 hn
          rw [e] at hn
          have h1 : Pa.letB (s[k].toNat : Int) = false := by simp [Pa.nameB] at hn; simp [hn]
          have h2 : Pa.digB (s[k].toNat : Int) = false := by simp [Pa.nameB] at hn; simp [hn]
          have h3 : decide (0 ≤ Lib.indexByte [95, 46, 58, 45] s[k]) = false := by rw [hl]; simp [Pa.nameB] at hn; simp [hn]
          clear hl hn e
          go_wp2_with (first | (go_at_call 31; refine (let_any _ _).mono ?_; rintro e w' ⟨rfl, rfl⟩) | (go_at_call 32; refine (dig_any _ _).mono ?_; rintro e w' ⟨rfl, rfl⟩) | (go_at_call 33; refine (ib_any _ _ _).mono ?_; rintro e w' ⟨rfl, rfl⟩))
          go_meet
          exact ⟨rfl, rfl⟩
        · have hkE := hM.hE.yes hlt hk2 hn
          rw [e] at hn
          cases h1 : Pa.letB (s[k].toNat : Int)
          · cases h2 : Pa.digB (s[k].toNat : Int)
            · have h3 : decide (0 ≤ Lib.indexByte [95, 46, 58, 45] s[k]) = true := by rw [hl]; simp [Pa.nameB, h1, h2] at hn; simp; omega
              clear hl hn e
              go_wp2_with (first | (go_at_call 31; refine (let_any _ _).mono ?_; rintro e w' ⟨rfl, rfl⟩) | (go_at_call 32; refine (dig_any _ _).mono ?_; rintro e w' ⟨rfl, rfl⟩) | (go_at_call 33; refine (ib_any _ _ _).mono ?_; rintro e w' ⟨rfl, rfl⟩))
              go_round
              case rel => exact ⟨k + 1, by go_num, by omega, by omega⟩
              case measure => simp [intOf]; omega
            · clear hl hn e
              go_wp2_with (first | (go_at_call 31; refine (let_any _ _).mono ?_; rintro e w' ⟨rfl, rfl⟩) | (go_at_call 32; refine (dig_any _ _).mono ?_; rintro e w' ⟨rfl, rfl⟩) | (go_at_call 33; refine (ib_any _ _ _).mono ?_; rintro e w' ⟨rfl, rfl⟩))
              go_round
              case rel => exact ⟨k + 1, by go_num, by omega, by omega⟩
              case measure => simp [intOf]; omega
          · clear hl hn e
            go_wp2_with (first | (go_at_call 31; refine (let_any _ _).mono ?_; rintro e w' ⟨rfl, rfl⟩) | (go_at_call 32; refine (dig_any _ _).mono ?_; rintro e w' ⟨rfl, rfl⟩) | (go_at_call 33; refine (ib_any _ _ _).mono ?_; rintro e w' ⟨rfl, rfl⟩))
            go_round
            case rel => exact ⟨k + 1, by go_num, by omega, by omega⟩
            case measure => simp [intOf]; omega
    case rest =>
      obtain ⟨rfl, rfl⟩ := hcut
      have hQl := hM.hQ.lim
      have hQi := hM.hQ.le
      go_wp2_with fail
      refine (skip_any s _ E Q rfl _ hs hM.hQ).mono ?_
      rintro e w' ⟨rfl, hw⟩
      have hw' := hw.symm
      clear hw
      subst hw'
      by_cases hQn : Q < s.size
      case neg =>
        have hf : Hid (Pa.ans (at0 s) s.size i0 E Q V C U = E) := Pa.ans_name (fun h => hQn h.1)
        have hge : decide ((s.size : Int) ≤ (Q : Int)) = true := by simp; omega
        go_wp2_with fail
        go_ret
        exact ⟨by rw [hf.out]; rfl, 0, rfl⟩
      have eQ : at0 s Q = (s[Q].toNat : Int) := at0_in hQn
      have EQ : Hid (at0 s Q = (s[Q].toNat : Int)) := eQ
      clear eQ
      have hge : decide ((s.size : Int) ≤ (Q : Int)) = false := by simp; omega
      have hgeN : decide (s.size ≤ Q) = false := by simp; omega
      by_cases h61 : (s[Q].toNat : Int) = 61
      case neg =>
        have hf : Hid (Pa.ans (at0 s) s.size i0 E Q V C U = E) := Pa.ans_name (fun h => h61 (by rw [← EQ.out]; exact h.2))
        have g1 : ((s[Q].toNat : Int) != 61) = true := by simpa using h61
        clear h61
        go_wp2_with fail
        go_ret
        exact ⟨by rw [hf.out]; rfl, 0, rfl⟩
      have g1 : ((s[Q].toNat : Int) != 61) = false := by simp [h61]
      have H61 : Hid (at0 s Q = 61) := by show at0 s Q = 61; rw [EQ.out]; exact h61
      clear h61
      have hV := hM.hV hQn
      have hVl := hV.lim
      have hVi := hV.le
      go_wp2_with fail
      refine (skip_any s _ (Q + 1) V (by omega) _ hs hV).mono ?_
      rintro e w' ⟨rfl, hw⟩
      have hw' := hw.symm
      clear hw
      subst hw'
      by_cases hVn : V < s.size
      case neg =>
        have hf : Hid (Pa.ans (at0 s) s.size i0 E Q V C U = i0) := Pa.ans_bare hQn H61.out hVn
        have hge2 : decide ((s.size : Int) ≤ (V : Int)) = true := by simp; omega
        go_wp2_with fail
        go_ret
        exact ⟨by rw [hf.out]; rfl, 0, rfl⟩
      have hge2 : decide ((s.size : Int) ≤ (V : Int)) = false := by simp; omega
      have hge2N : decide (s.size ≤ V) = false := by simp; omega
      have eV : at0 s V = (s[V].toNat : Int) := at0_in hVn
      have EV : Hid (at0 s V = (s[V].toNat : Int)) := eV
      clear eV
      by_cases hq : (s[V].toNat : Int) = 34 ∨ (s[V].toNat : Int) = 39
      · have hq2 : ((s[V].toNat : Int) == 34) = true ∨ ((s[V].toNat : Int) == 34) = false ∧ ((s[V].toNat : Int) == 39) = true := by
          rcases hq with h | h
          · exact .inl (by simp [h])
          · exact .inr ⟨by simp [h], by simp [h]⟩
        have Hq : Hid (at0 s V = 34 ∨ at0 s V = 39) := by show _ ∨ _; rw [EV.out]; exact hq
        have hC := hM.hC hQn hVn
        have hCl := hC.lim
        have hCi := hC.le
        have hlaw : Lib.indexByte (s.extract (V + 1) s.size).data.toList ((s[V].toNat : Int)).toNat.toUInt8 = if C < s.size then (C : Int) - ((V + 1 : Nat) : Int) else -1 := by
          rw [Int.toNat_natCast]
          have h := close_law s s[V] (V + 1) C hVn (by rw [EV.out] at hC; exact hC)
          rw [← UInt8.ofNat_toNat (x := s[V])] at h
          simpa using h
        clear hq
        by_cases hCn : C < s.size
        · rw [if_pos hCn] at hlaw
          have HL : Hid _ := hlaw
          clear hlaw
          have hf : Hid (Pa.ans (at0 s) s.size i0 E Q V C U = C + 1) := Pa.ans_quote hQn H61.out hVn Hq.out hCn
          rcases hq2 with a1 | ⟨a1, a2⟩
          all_goals
            go_wp2_with fail
            go_quiet ((go_at_call 33; exact Calls.quiet_of_same (ib_eq _ _ _ _ HL.out)))
            go_wp2_with fail
            go_ret
            exact ⟨ret_int (by rw [hf.out]; omega), _, rfl⟩
        · rw [if_neg hCn] at hlaw
          have HL : Hid _ := hlaw
          clear hlaw
          have hf : Hid (Pa.ans (at0 s) s.size i0 E Q V C U = i0) := Pa.ans_open hQn H61.out hVn Hq.out hCn
          rcases hq2 with a1 | ⟨a1, a2⟩
          all_goals
            go_wp2_with fail
            go_quiet ((go_at_call 33; exact Calls.quiet_of_same (ib_eq _ _ _ _ HL.out)))
            go_wp2_with fail
            go_ret
            exact ⟨ret_int (by rw [hf.out]), _, rfl⟩
      · have a1 : ((s[V].toNat : Int) == 34) = false := by rw [beq_eq_false_iff_ne]; omega
        have a2 : ((s[V].toNat : Int) == 39) = false := by rw [beq_eq_false_iff_ne]; omega
        have Hq : Hid (¬ (at0 s V = 34 ∨ at0 s V = 39)) := by show ¬ (_ ∨ _); rw [EV.out]; exact hq
        clear hq
        have hU := hM.hU hQn hVn
        have hUl := hU.lim
        have hUi := hU.le
        go_upto_block 3 with fail
        go_cut [9] from 10 (fun t wx => wx = wc ∧ t = .int .i64 U)
        case first =>
          go_wp2_with fail
          go_loop [9] (fun t => ∃ k : Nat, t = .int .i64 k ∧ V ≤ k ∧ k ≤ U) (fun t => s.size - (intOf t).toNat)
          case atStart => exact ⟨V, rfl, by omega, hUi⟩
          case round =>
            obtain ⟨k, rfl, hk1, hk2⟩ := hrel
            by_cases hlt : k < s.size
            case neg =>
              obtain rfl : k = U := by omega
              have hge3 : decide ((k : Int) < (s.size : Int)) = false := by simp; omega
              go_wp2_with fail
              go_meet
              exact ⟨rfl, rfl⟩
            have e : at0 s k = (s[k].toNat : Int) := at0_in hlt
            have hl := unq_law s[k]
            rw [← e] at hl
            clear e
            cases hw : Pa.unqB (at0 s k)
            · obtain rfl : k = U := hU.no hk1 hk2 hw
              rw [hw] at hl
              clear hw
              go_wp2_with (go_at_call 33; refine (ib_any _ _ _).mono ?_; rintro e w' ⟨rfl, rfl⟩)
              go_meet
              exact ⟨rfl, rfl⟩
            · have hkb := hU.yes hlt hk2 hw
              rw [hw] at hl
              clear hw
              go_wp2_with (go_at_call 33; refine (ib_any _ _ _).mono ?_; rintro e w' ⟨rfl, rfl⟩)
              go_round
              case rel => exact ⟨k + 1, by go_num, by omega, by omega⟩
              case measure => simp [intOf]; omega
        case rest =>
          obtain ⟨rfl, rfl⟩ := hcut
          by_cases hUV : U = V
          · have hf : Hid (Pa.ans (at0 s) s.size i0 E Q V C U = i0) := Pa.ans_none hQn H61.out hVn Hq.out hUV
            have b1 : ((U : Int) == (V : Int)) = true := by simp [hUV]
            clear hUV
            go_wp2_with fail
            go_ret
            exact ⟨ret_int (by rw [hf.out]), 0, rfl⟩
          · have hf : Hid (Pa.ans (at0 s) s.size i0 E Q V C U = U) := Pa.ans_unq hQn H61.out hVn Hq.out hUV
            have b1 : ((U : Int) == (V : Int)) = false := by rw [beq_eq_false_iff_ne]; omega
            clear hUV
            go_wp2_with fail
            go_ret
            exact ⟨ret_int (by rw [hf.out]), 0, rfl⟩
end Go.Proofs.Qxb6604066a
