import Derived.Test.Qxb6604066aAttr
namespace Go.Proofs.Qxb6604066a
open Go.RowKit

/-- where the model's machine stands: the state's slot, the name's end as it holds it, the place -/
def StR (G : Nat → Int) (n E Q V C U : Nat) (a : Value) (ne k : Nat) : Prop :=
  (a = .int .i64 1 ∧ ne = k ∧ k ≤ E) ∨ (a = .int .i64 2 ∧ ne = E ∧ E < k ∧ k ≤ Q) ∨ (a = .int .i64 3 ∧ Q < n ∧ G Q = 61 ∧ Q < k ∧ k ≤ V) ∨
  (a = .int .i64 4 ∧ Q < n ∧ G Q = 61 ∧ V < n ∧ G V = 34 ∧ V < k ∧ k ≤ C) ∨ (a = .int .i64 5 ∧ Q < n ∧ G Q = 61 ∧ V < n ∧ G V = 39 ∧ V < k ∧ k ≤ C) ∨
  (a = .int .i64 6 ∧ Q < n ∧ G Q = 61 ∧ V < n ∧ ¬ (G V = 34 ∨ G V = 39) ∧ V < k ∧ k ≤ U)
theorem StR.one {G : Nat → Int} {n E Q V C U ne k : Nat} (h : ne = k) (h2 : k ≤ E) : StR G n E Q V C U (.int .i64 1) ne k := .inl ⟨rfl, h, h2⟩
theorem StR.two {G : Nat → Int} {n E Q V C U ne k : Nat} (h : ne = E) (h1 : E < k) (h2 : k ≤ Q) : StR G n E Q V C U (.int .i64 2) ne k := .inr (.inl ⟨rfl, h, h1, h2⟩)
theorem StR.three {G : Nat → Int} {n E Q V C U ne k : Nat} (hQ : Q < n) (h61 : G Q = 61) (h1 : Q < k) (h2 : k ≤ V) : StR G n E Q V C U (.int .i64 3) ne k := .inr (.inr (.inl ⟨rfl, hQ, h61, h1, h2⟩))
theorem StR.four {G : Nat → Int} {n E Q V C U ne k : Nat} (hQ : Q < n) (h61 : G Q = 61) (hV : V < n) (h34 : G V = 34) (h1 : V < k) (h2 : k ≤ C) : StR G n E Q V C U (.int .i64 4) ne k := .inr (.inr (.inr (.inl ⟨rfl, hQ, h61, hV, h34, h1, h2⟩)))
theorem StR.five {G : Nat → Int} {n E Q V C U ne k : Nat} (hQ : Q < n) (h61 : G Q = 61) (hV : V < n) (h39 : G V = 39) (h1 : V < k) (h2 : k ≤ C) : StR G n E Q V C U (.int .i64 5) ne k := .inr (.inr (.inr (.inr (.inl ⟨rfl, hQ, h61, hV, h39, h1, h2⟩))))
theorem StR.six {G : Nat → Int} {n E Q V C U ne k : Nat} (hQ : Q < n) (h61 : G Q = 61) (hV : V < n) (hq : ¬ (G V = 34 ∨ G V = 39)) (h1 : V < k) (h2 : k ≤ U) : StR G n E Q V C U (.int .i64 6) ne k := .inr (.inr (.inr (.inr (.inr ⟨rfl, hQ, h61, hV, hq, h1, h2⟩))))

set_option maxRecDepth 100000 in
set_option maxHeartbeats 4000000 in
/-- attrModelB1, where a name begins -/
theorem attrM_any (s : ByteArray) (i : Int) (i0 E Q V C U : Nat) (hi : i = i0) (w : World) (hs : s.size ≤ 1048576) (h0 : i0 < s.size) (hst : Pa.startB (at0 s i0) = true)
    (hM : Pa.Marks (at0 s) s.size i0 E Q V C U) :
    Calls Try.prog 13 #[.string s, .int .i64 i] w fun e w' => e = .returned (.int .i64 (Pa.ans (at0 s) s.size i0 E Q V C U)) ∧ w' = w := by
  subst hi
  have hEl := hM.hE.lim
  have hEi := hM.hE.le
  have hQl := hM.hQ.lim
  have hQi := hM.hQ.le
  rw [at0_in h0] at hst
  have hge : decide ((s.size : Int) ≤ (i0 : Int)) = false := by simp; omega
  have hgeN : decide (s.size ≤ i0) = false := by simp; omega
  go_enter Try.func13, Try.ntmps13
  go_wp2_with (go_at_call 21; refine (start_any _ _).mono ?_; rintro e w' ⟨rfl, rfl⟩)
  go_loop [5, 6, 7] (fun a b x => ∃ ne k : Nat, b = .int .i64 ne ∧ x = .int .i64 k ∧ i0 + 1 ≤ k ∧ k ≤ s.size ∧ StR (at0 s) s.size E Q V C U a ne k) (fun _ _ x => s.size - (intOf x).toNat)
  case atStart => exact ⟨i0 + 1, i0 + 1, by go_num, by go_num, by omega, by omega, StR.one rfl hEi⟩
  case round =>
    obtain ⟨ne, k, rfl, rfl, hk1, hk2, hS⟩ := hrel
    by_cases hlt : k < s.size
    case neg =>
      have hge3 : decide ((k : Int) < (s.size : Int)) = false := by simp; omega
      rcases hS with ⟨rfl, h1, h2⟩ | ⟨rfl, h1, h2, h3⟩ | ⟨rfl, h1, h2, h3, h4⟩ | ⟨rfl, h1, h2, h3, h4, h5, h6⟩ | ⟨rfl, h1, h2, h3, h4, h5, h6⟩ | ⟨rfl, h1, h2, h3, h4, h5, h6⟩
      · have hf : Hid (Pa.ans (at0 s) s.size i0 E Q V C U = ne) := by show _ = _; rw [Pa.ans_name (by omega)]; omega
        clear h1
        go_wp2_with fail
        go_ret
        exact ⟨ret_int (by rw [hf.out]), rfl⟩
      · have hf : Hid (Pa.ans (at0 s) s.size i0 E Q V C U = ne) := by show _ = _; rw [Pa.ans_name (by omega)]; omega
        clear h1
        go_wp2_with fail
        go_ret
        exact ⟨ret_int (by rw [hf.out]), rfl⟩
      · have hf : Hid (Pa.ans (at0 s) s.size i0 E Q V C U = i0) := Pa.ans_bare h1 h2 (by omega)
        clear h2
        go_wp2_with fail
        go_ret
        exact ⟨ret_int (by rw [hf.out]), rfl⟩
      · have hf : Hid (Pa.ans (at0 s) s.size i0 E Q V C U = i0) := Pa.ans_open h1 h2 h3 (.inl h4) (by omega)
        clear h2 h4
        go_wp2_with fail
        go_ret
        exact ⟨ret_int (by rw [hf.out]), rfl⟩
      · have hf : Hid (Pa.ans (at0 s) s.size i0 E Q V C U = i0) := Pa.ans_open h1 h2 h3 (.inr h4) (by omega)
        clear h2 h4
        go_wp2_with fail
        go_ret
        exact ⟨ret_int (by rw [hf.out]), rfl⟩
      · have hUl := (hM.hU h1 h3).lim
        have hf : Hid (Pa.ans (at0 s) s.size i0 E Q V C U = s.size) := by show _ = _; rw [Pa.ans_unq h1 h2 h3 h4 (by omega)]; omega
        clear h2 h4
        go_wp2_with fail
        go_ret
        exact ⟨ret_int (by rw [hf.out]), rfl⟩
    have e : at0 s k = (s[k].toNat : Int) := at0_in hlt
    have EK : Hid (at0 s k = (s[k].toNat : Int)) := e
    clear e
    rcases hS with ⟨rfl, h1, h2⟩ | ⟨rfl, h1, h2, h3⟩ | ⟨rfl, h1, h2, h3, h4⟩ | ⟨rfl, h1, h2, h3, h4, h5, h6⟩ | ⟨rfl, h1, h2, h3, h4, h5, h6⟩ | ⟨rfl, h1, h2, h3, h4, h5, h6⟩
    · subst h1
      cases hn : Pa.nameB (s[ne].toNat : Int)
      · obtain rfl : ne = E := hM.hE.no hk1 h2 (by rw [EK.out]; exact hn)
        cases hw : Pa.wsB (s[ne].toNat : Int)
        · obtain rfl : ne = Q := hM.hQ.no (Nat.le_refl _) hQi (by rw [EK.out]; exact hw)
          by_cases h61 : (s[ne].toNat : Int) = 61
          · have g1 : ((s[ne].toNat : Int) == 61) = true := by simp [h61]
            have H61 : Hid (at0 s ne = 61) := by show _ = _; rw [EK.out]; exact h61
            have hVi := (hM.hV hlt).le
            clear h61
            go_wp2_with (first | (go_at_call 22; refine (name_any _ _).mono ?_; rintro e w' ⟨rfl, rfl⟩) | (go_at_call 23; refine (ws_any _ _).mono ?_; rintro e w' ⟨rfl, rfl⟩) | (go_at_call 24; refine (unq_any _ _).mono ?_; rintro e w' ⟨rfl, rfl⟩))
            go_round
            case rel => exact ⟨ne, ne + 1, rfl, by go_num, by omega, by omega, StR.three hlt H61.out (by omega) (by omega)⟩
            case measure => simp [intOf]; omega
          · have g1 : ((s[ne].toNat : Int) == 61) = false := by simp [h61]
            have hf : Hid (Pa.ans (at0 s) s.size i0 ne ne V C U = ne) := Pa.ans_name (fun h => h61 (by rw [← EK.out]; exact h.2))
            clear h61
            go_wp2_with (first | (go_at_call 22; refine (name_any _ _).mono ?_; rintro e w' ⟨rfl, rfl⟩) | (go_at_call 23; refine (ws_any _ _).mono ?_; rintro e w' ⟨rfl, rfl⟩) | (go_at_call 24; refine (unq_any _ _).mono ?_; rintro e w' ⟨rfl, rfl⟩))
            go_ret
            exact ⟨ret_int (by rw [hf.out]), rfl⟩
        · have hq := hM.hQ.yes hlt hQi (by rw [EK.out]; exact hw)
          go_wp2_with (first | (go_at_call 22; refine (name_any _ _).mono ?_; rintro e w' ⟨rfl, rfl⟩) | (go_at_call 23; refine (ws_any _ _).mono ?_; rintro e w' ⟨rfl, rfl⟩) | (go_at_call 24; refine (unq_any _ _).mono ?_; rintro e w' ⟨rfl, rfl⟩))
          go_round
          case rel => exact ⟨ne, ne + 1, rfl, by go_num, by omega, by omega, StR.two rfl (by omega) (by omega)⟩
          case measure => simp [intOf]; omega
      · have hq := hM.hE.yes hlt h2 (by rw [EK.out]; exact hn)
        go_wp2_with (first | (go_at_call 22; refine (name_any _ _).mono ?_; rintro e w' ⟨rfl, rfl⟩) | (go_at_call 23; refine (ws_any _ _).mono ?_; rintro e w' ⟨rfl, rfl⟩) | (go_at_call 24; refine (unq_any _ _).mono ?_; rintro e w' ⟨rfl, rfl⟩))
        go_round
        case rel => exact ⟨ne + 1, ne + 1, by go_num, by go_num, by omega, by omega, StR.one rfl (by omega)⟩
        case measure => simp [intOf]; omega
    · subst h1
      cases hw : Pa.wsB (s[k].toNat : Int)
      · obtain rfl : k = Q := hM.hQ.no (by omega) h3 (by rw [EK.out]; exact hw)
        by_cases h61 : (s[k].toNat : Int) = 61
        · have g1 : ((s[k].toNat : Int) == 61) = true := by simp [h61]
          have H61 : Hid (at0 s k = 61) := by show _ = _; rw [EK.out]; exact h61
          have hVi := (hM.hV hlt).le
          clear h61
          go_wp2_with (first | (go_at_call 22; refine (name_any _ _).mono ?_; rintro e w' ⟨rfl, rfl⟩) | (go_at_call 23; refine (ws_any _ _).mono ?_; rintro e w' ⟨rfl, rfl⟩) | (go_at_call 24; refine (unq_any _ _).mono ?_; rintro e w' ⟨rfl, rfl⟩))
          go_round
          case rel => exact ⟨ne, k + 1, rfl, by go_num, by omega, by omega, StR.three hlt H61.out (by omega) (by omega)⟩
          case measure => simp [intOf]; omega
        · have g1 : ((s[k].toNat : Int) == 61) = false := by simp [h61]
          have hf : Hid (Pa.ans (at0 s) s.size i0 ne k V C U = ne) := Pa.ans_name (fun h => h61 (by rw [← EK.out]; exact h.2))
          clear h61
          go_wp2_with (first | (go_at_call 22; refine (name_any _ _).mono ?_; rintro e w' ⟨rfl, rfl⟩) | (go_at_call 23; refine (ws_any _ _).mono ?_; rintro e w' ⟨rfl, rfl⟩) | (go_at_call 24; refine (unq_any _ _).mono ?_; rintro e w' ⟨rfl, rfl⟩))
          go_ret
          exact ⟨ret_int (by rw [hf.out]), rfl⟩
      · have hq := hM.hQ.yes hlt h3 (by rw [EK.out]; exact hw)
        go_wp2_with (first | (go_at_call 22; refine (name_any _ _).mono ?_; rintro e w' ⟨rfl, rfl⟩) | (go_at_call 23; refine (ws_any _ _).mono ?_; rintro e w' ⟨rfl, rfl⟩) | (go_at_call 24; refine (unq_any _ _).mono ?_; rintro e w' ⟨rfl, rfl⟩))
        go_round
        case rel => exact ⟨ne, k + 1, rfl, by go_num, by omega, by omega, StR.two rfl (by omega) (by omega)⟩
        case measure => simp [intOf]; omega
    · have H61 : Hid (at0 s Q = 61) := h2
      clear h2
      have hV := hM.hV h1
      cases hw : Pa.wsB (s[k].toNat : Int)
      · obtain rfl : k = V := hV.no (by omega) h4 (by rw [EK.out]; exact hw)
        have hCi := (hM.hC h1 hlt).le
        have hUi := (hM.hU h1 hlt).le
        by_cases h34 : (s[k].toNat : Int) = 34
        · have g1 : ((s[k].toNat : Int) == 34) = true := by simp [h34]
          have H34 : Hid (at0 s k = 34) := by show _ = _; rw [EK.out]; exact h34
          clear h34
          go_wp2_with (first | (go_at_call 22; refine (name_any _ _).mono ?_; rintro e w' ⟨rfl, rfl⟩) | (go_at_call 23; refine (ws_any _ _).mono ?_; rintro e w' ⟨rfl, rfl⟩) | (go_at_call 24; refine (unq_any _ _).mono ?_; rintro e w' ⟨rfl, rfl⟩))
          go_round
          case rel => exact ⟨ne, k + 1, rfl, by go_num, by omega, by omega, StR.four h1 H61.out hlt H34.out (by omega) (by omega)⟩
          case measure => simp [intOf]; omega
        have g1 : ((s[k].toNat : Int) == 34) = false := by simp [h34]
        by_cases h39 : (s[k].toNat : Int) = 39
        · have g2 : ((s[k].toNat : Int) == 39) = true := by simp [h39]
          have H39 : Hid (at0 s k = 39) := by show _ = _; rw [EK.out]; exact h39
          clear h34 h39
          go_wp2_with (first | (go_at_call 22; refine (name_any _ _).mono ?_; rintro e w' ⟨rfl, rfl⟩) | (go_at_call 23; refine (ws_any _ _).mono ?_; rintro e w' ⟨rfl, rfl⟩) | (go_at_call 24; refine (unq_any _ _).mono ?_; rintro e w' ⟨rfl, rfl⟩))
          go_round
          case rel => exact ⟨ne, k + 1, rfl, by go_num, by omega, by omega, StR.five h1 H61.out hlt H39.out (by omega) (by omega)⟩
          case measure => simp [intOf]; omega
        have g2 : ((s[k].toNat : Int) == 39) = false := by simp [h39]
        have Hq : Hid (¬ (at0 s k = 34 ∨ at0 s k = 39)) := by show ¬ (_ ∨ _); rw [EK.out]; omega
        clear h34 h39
        cases hu : Pa.unqB (s[k].toNat : Int)
        · have hUk := (hM.hU h1 hlt).no (Nat.le_refl _) hUi (by rw [EK.out]; exact hu)
          have hf : Hid (Pa.ans (at0 s) s.size i0 E Q k C U = i0) := Pa.ans_none h1 H61.out hlt Hq.out hUk.symm
          clear hUk
          go_wp2_with (first | (go_at_call 22; refine (name_any _ _).mono ?_; rintro e w' ⟨rfl, rfl⟩) | (go_at_call 23; refine (ws_any _ _).mono ?_; rintro e w' ⟨rfl, rfl⟩) | (go_at_call 24; refine (unq_any _ _).mono ?_; rintro e w' ⟨rfl, rfl⟩))
          go_ret
          exact ⟨ret_int (by rw [hf.out]), rfl⟩
        · have hUk := (hM.hU h1 hlt).yes hlt hUi (by rw [EK.out]; exact hu)
          go_wp2_with (first | (go_at_call 22; refine (name_any _ _).mono ?_; rintro e w' ⟨rfl, rfl⟩) | (go_at_call 23; refine (ws_any _ _).mono ?_; rintro e w' ⟨rfl, rfl⟩) | (go_at_call 24; refine (unq_any _ _).mono ?_; rintro e w' ⟨rfl, rfl⟩))
          go_round
          case rel => exact ⟨ne, k + 1, rfl, by go_num, by omega, by omega, StR.six h1 H61.out hlt Hq.out (by omega) (by omega)⟩
          case measure => simp [intOf]; omega
      · have hq := hV.yes hlt h4 (by rw [EK.out]; exact hw)
        go_wp2_with (first | (go_at_call 22; refine (name_any _ _).mono ?_; rintro e w' ⟨rfl, rfl⟩) | (go_at_call 23; refine (ws_any _ _).mono ?_; rintro e w' ⟨rfl, rfl⟩) | (go_at_call 24; refine (unq_any _ _).mono ?_; rintro e w' ⟨rfl, rfl⟩))
        go_round
        case rel => exact ⟨ne, k + 1, rfl, by go_num, by omega, by omega, StR.three h1 H61.out (by omega) (by omega)⟩
        case measure => simp [intOf]; omega
    · have H61 : Hid (at0 s Q = 61) := h2
      have H34 : Hid (at0 s V = 34) := h4
      clear h2 h4
      have hC := hM.hC h1 h3
      by_cases hc : (s[k].toNat : Int) = 34
      · have g1 : ((s[k].toNat : Int) == 34) = true := by simp [hc]
        obtain rfl : k = C := hC.no (by omega) h6 (by rw [EK.out, H34.out, hc]; rfl)
        have hf : Hid (Pa.ans (at0 s) s.size i0 E Q V k U = k + 1) := Pa.ans_quote h1 H61.out h3 (.inl H34.out) hlt
        clear hc
        go_wp2_with (first | (go_at_call 22; refine (name_any _ _).mono ?_; rintro e w' ⟨rfl, rfl⟩) | (go_at_call 23; refine (ws_any _ _).mono ?_; rintro e w' ⟨rfl, rfl⟩) | (go_at_call 24; refine (unq_any _ _).mono ?_; rintro e w' ⟨rfl, rfl⟩))
        go_ret
        exact ⟨ret_int (by rw [hf.out]; omega), rfl⟩
      · have g1 : ((s[k].toNat : Int) == 34) = false := by simp [hc]
        have hq := hC.yes hlt h6 (by rw [EK.out, H34.out]; simpa [Pa.notB] using hc)
        clear hc
        go_wp2_with (first | (go_at_call 22; refine (name_any _ _).mono ?_; rintro e w' ⟨rfl, rfl⟩) | (go_at_call 23; refine (ws_any _ _).mono ?_; rintro e w' ⟨rfl, rfl⟩) | (go_at_call 24; refine (unq_any _ _).mono ?_; rintro e w' ⟨rfl, rfl⟩))
        go_round
        case rel => exact ⟨ne, k + 1, rfl, by go_num, by omega, by omega, StR.four h1 H61.out h3 H34.out (by omega) (by omega)⟩
        case measure => simp [intOf]; omega
    · have H61 : Hid (at0 s Q = 61) := h2
      have H39 : Hid (at0 s V = 39) := h4
      clear h2 h4
      have hC := hM.hC h1 h3
      by_cases hc : (s[k].toNat : Int) = 39
      · have g1 : ((s[k].toNat : Int) == 39) = true := by simp [hc]
        obtain rfl : k = C := hC.no (by omega) h6 (by rw [EK.out, H39.out, hc]; rfl)
        have hf : Hid (Pa.ans (at0 s) s.size i0 E Q V k U = k + 1) := Pa.ans_quote h1 H61.out h3 (.inr H39.out) hlt
        clear hc
        go_wp2_with (first | (go_at_call 22; refine (name_any _ _).mono ?_; rintro e w' ⟨rfl, rfl⟩) | (go_at_call 23; refine (ws_any _ _).mono ?_; rintro e w' ⟨rfl, rfl⟩) | (go_at_call 24; refine (unq_any _ _).mono ?_; rintro e w' ⟨rfl, rfl⟩))
        go_ret
        exact ⟨ret_int (by rw [hf.out]; omega), rfl⟩
      · have g1 : ((s[k].toNat : Int) == 39) = false := by simp [hc]
        have hq := hC.yes hlt h6 (by rw [EK.out, H39.out]; simpa [Pa.notB] using hc)
        clear hc
        go_wp2_with (first | (go_at_call 22; refine (name_any _ _).mono ?_; rintro e w' ⟨rfl, rfl⟩) | (go_at_call 23; refine (ws_any _ _).mono ?_; rintro e w' ⟨rfl, rfl⟩) | (go_at_call 24; refine (unq_any _ _).mono ?_; rintro e w' ⟨rfl, rfl⟩))
        go_round
        case rel => exact ⟨ne, k + 1, rfl, by go_num, by omega, by omega, StR.five h1 H61.out h3 H39.out (by omega) (by omega)⟩
        case measure => simp [intOf]; omega
    · have H61 : Hid (at0 s Q = 61) := h2
      have Hq : Hid (¬ (at0 s V = 34 ∨ at0 s V = 39)) := h4
      clear h2 h4
      have hU := hM.hU h1 h3
      cases hu : Pa.unqB (s[k].toNat : Int)
      · obtain rfl : k = U := hU.no (by omega) h6 (by rw [EK.out]; exact hu)
        have hf : Hid (Pa.ans (at0 s) s.size i0 E Q V C k = k) := Pa.ans_unq h1 H61.out h3 Hq.out (by omega)
        go_wp2_with (first | (go_at_call 22; refine (name_any _ _).mono ?_; rintro e w' ⟨rfl, rfl⟩) | (go_at_call 23; refine (ws_any _ _).mono ?_; rintro e w' ⟨rfl, rfl⟩) | (go_at_call 24; refine (unq_any _ _).mono ?_; rintro e w' ⟨rfl, rfl⟩))
        go_ret
        exact ⟨ret_int (by rw [hf.out]), rfl⟩
      · have hq := hU.yes hlt h6 (by rw [EK.out]; exact hu)
        go_wp2_with (first | (go_at_call 22; refine (name_any _ _).mono ?_; rintro e w' ⟨rfl, rfl⟩) | (go_at_call 23; refine (ws_any _ _).mono ?_; rintro e w' ⟨rfl, rfl⟩) | (go_at_call 24; refine (unq_any _ _).mono ?_; rintro e w' ⟨rfl, rfl⟩))
        go_round
        case rel => exact ⟨ne, k + 1, rfl, by go_num, by omega, by omega, StR.six h1 H61.out h3 Hq.out (by omega) (by omega)⟩
        case measure => simp [intOf]; omega
end Go.Proofs.Qxb6604066a
