import Derived.Test.Qxb6603065aRec
namespace Go.Proofs.Qxb6603065a
open Go.RowKit

set_option maxRecDepth 100000 in
set_option maxHeartbeats 2000000 in
theorem obj_any (G : Nat → Int) (b n c : Nat) (hn : n ≤ 1048576) (k0 : Nat) (hk : k0 < n) (h123 : G k0 = 123) (ih : ∀ k, k0 < k → Says 24 G b n c k) : Says 30 G b n c k0 := by
  intro i w hi hc
  subst hi
  have H123 : Hid (G k0 = 123) := h123
  clear h123
  go_enter Try.func30, Try.ntmps30
  go_wp2_with fail
  refine (skip_any G b n c _ (k0 + 1) (by omega) w hn (by omega) hc).mono ?_
  rintro e w' ⟨rfl, r, rfl, k, rfl, hk1, hk2, hP⟩
  by_cases hq : k < n ∧ G k = 125
  · obtain ⟨hkn, hq⟩ := hq
    have hcell := hc k hkn
    have g1 : (G k == 125) = true := by simp [hq]
    have hV := Pl.Val.of_brackets (.inl H123.out) (by omega) hP (.inl hq)
    clear hq
    go_wp2_with fail
    go_ret
    exact ⟨Dr.refl _, _, rfl, .inr ⟨k + 1, by omega, by omega, by omega, hV⟩⟩
  · have hloop : (k < n ∧ (G k == 125) = false) ∨ n ≤ k := by
      by_cases hkn : k < n
      · exact .inl ⟨hkn, by rw [beq_eq_false_iff_ne]; exact fun h => hq ⟨hkn, h⟩⟩
      · exact .inr (by omega)
    clear hq
    have HC : Hid (∀ i, i < n → w'.cell? ⟨b, i, none⟩ = some (.int .u8 (G i))) := hc
    rcases hloop with ⟨hkn, g1⟩ | hkn
    · have hcell := hc k hkn
      go_wp2_with fail
      go_loopw [5] (fun t wr => ∃ k : Nat, t = .int .i64 k ∧ k0 < k ∧ k ≤ n ∧ Dr w' wr ∧ Pl.Pass G (k0 + 1) k) (fun t _ => n - (intOf t).toNat)
      case atStart => exact ⟨k, rfl, by omega, by omega, Dr.refl _, hP⟩
      case round =>
        obtain ⟨j, rfl, hj1, hj2, hD, hQ⟩ := hrel
        have hcr : ∀ i, i < n → wr.cell? ⟨b, i, none⟩ = some (.int .u8 (G i)) := fun i hi => by rw [hD.cell]; exact HC.out i hi
        by_cases hjn : j < n
        case neg =>
          have hge1 : decide ((n : Int) ≤ (j : Int)) = true := by simp; omega
          go_wp2_with fail
          go_ret
          exact ⟨hD, _, rfl, .inl rfl⟩
        have hcj := hcr j hjn
        by_cases h34 : G j = 34
        case neg =>
          have a1 : (G j != 34) = true := by simpa using h34
          clear h34
          go_wp2_with fail
          go_ret
          exact ⟨hD, _, rfl, .inl rfl⟩
        have a1 : (G j != 34) = false := by simp [h34]
        have H34 : Hid (G j = 34) := h34
        clear h34
        go_wp2_with fail
        refine (lex_any G b n c _ j rfl wr hn hjn hcr).mono ?_
        rintro e w2 ⟨hw2, r, rfl, hr⟩
        have hw2' := hw2.symm
        clear hw2
        subst hw2'
        rcases hr with rfl | ⟨J, rfl, hJ2, hS⟩
        case inl =>
          go_wp2_with fail
          go_ret
          exact ⟨hD, _, rfl, .inl rfl⟩
        have hJ1 : j + 1 < J := by have := hS.lt; omega
        have hQ2 := hQ.trans (Pl.Pass.str H34.out hS)
        clear hQ hS
        go_wp2_with fail
        refine (skip_any G b n c _ J rfl wr hn (by omega) hcr).mono ?_
        rintro e w3 ⟨hw3, r, rfl, k2, rfl, hk3, hk4, hP2⟩
        have hw3' := hw3.symm
        clear hw3
        subst hw3'
        have hQ3 := hQ2.trans hP2
        clear hP2 hQ2
        by_cases hlt : k2 < n
        case neg =>
          have hge1 : decide ((n : Int) ≤ (k2 : Int)) = true := by simp; omega
          go_wp2_with fail
          go_ret
          exact ⟨hD, _, rfl, .inl rfl⟩
        have hcell2 := hcr k2 hlt
        by_cases h58 : G k2 = 58
        case neg =>
          have a2 : (G k2 != 58) = true := by simpa using h58
          clear h58
          go_wp2_with fail
          go_ret
          exact ⟨hD, _, rfl, .inl rfl⟩
        have a2 : (G k2 != 58) = false := by simp [h58]
        have hQ4 := hQ3.trans (Pl.Pass.one (by omega) (by omega) (by omega) (by omega) (by omega))
        clear h58 hQ3
        go_wp2_with fail
        refine (skip_any G b n c _ (k2 + 1) (by omega) wr hn (by omega) hcr).mono ?_
        rintro e w3 ⟨hw3, r, rfl, k3, rfl, hk5, hk6, hP3⟩
        have hw3' := hw3.symm
        clear hw3
        subst hw3'
        have hQ5 := hQ4.trans hP3
        clear hP3 hQ4
        go_wp2_with fail
        refine (ih k3 (by omega) _ wr rfl hcr).mono ?_
        rintro e w2 ⟨hD2, r, rfl, hr⟩
        have hD3 := hD.trans hD2
        have hc2 : ∀ i, i < n → w2.cell? ⟨b, i, none⟩ = some (.int .u8 (G i)) := fun i hi => by rw [hD3.cell]; exact HC.out i hi
        rcases hr with rfl | ⟨J2, rfl, hJ3, hJ4, hV⟩
        case inl =>
          go_wp2_with fail
          go_ret
          exact ⟨hD3, _, rfl, .inl rfl⟩
        have hQ6 := hQ5.trans hV.pass
        clear hcr hV hQ5 hcj hcell2
        go_wp2_with fail
        refine (skip_any G b n c _ J2 rfl w2 hn (by omega) hc2).mono ?_
        rintro e w3 ⟨hw3, r, rfl, k4, rfl, hk7, hk8, hP4⟩
        have hw3' := hw3.symm
        clear hw3
        subst hw3'
        have hQ7 := hQ6.trans hP4
        clear hP4 hQ6
        by_cases hlt4 : k4 < n
        case neg =>
          go_wp2_with fail
          go_ret
          exact ⟨hD3, _, rfl, .inl rfl⟩
        have hcell4 := hc2 k4 hlt4
        by_cases h125 : G k4 = 125
        · have a3 : (G k4 == 125) = true := by simp [h125]
          have hV := Pl.Val.of_brackets (.inl H123.out) (by omega) hQ7 (.inl h125)
          clear h125
          go_wp2_with fail
          go_ret
          exact ⟨hD3, _, rfl, .inr ⟨k4 + 1, by omega, by omega, by omega, hV⟩⟩
        · have a3 : (G k4 == 125) = false := by simp [h125]
          by_cases h44 : G k4 = 44
          · have a4 : (G k4 != 44) = false := by simp [h44]
            have hQ8 := hQ7.trans (Pl.Pass.one (by omega) (by omega) (by omega) (by omega) (by omega))
            clear h44 h125 hQ7
            go_wp2_with fail
            refine (skip_any G b n c _ (k4 + 1) (by omega) w2 hn (by omega) hc2).mono ?_
            rintro e w3 ⟨hw3, r, rfl, k5, rfl, hk9, hk10, hP5⟩
            have hw3' := hw3.symm
            clear hw3
            subst hw3'
            have hQ9 := hQ8.trans hP5
            clear hP5 hQ8
            go_wp2_with fail
            go_roundw
            case rel => exact ⟨k5, rfl, by omega, by omega, hD3, hQ9⟩
            case measure => simp [intOf]; omega
          · have a4 : (G k4 != 44) = true := by simpa using h44
            clear h44 h125
            go_wp2_with fail
            go_ret
            exact ⟨hD3, _, rfl, .inl rfl⟩
    · have hge : decide ((k : Int) < (n : Int)) = false := by simp; omega
      go_wp2_with fail
      go_loopw [5] (fun t wr => ∃ k : Nat, t = .int .i64 k ∧ k0 < k ∧ k ≤ n ∧ Dr w' wr ∧ Pl.Pass G (k0 + 1) k) (fun t _ => n - (intOf t).toNat)
      case atStart => exact ⟨k, rfl, by omega, by omega, Dr.refl _, hP⟩
      case round =>
        obtain ⟨j, rfl, hj1, hj2, hD, hQ⟩ := hrel
        have hcr : ∀ i, i < n → wr.cell? ⟨b, i, none⟩ = some (.int .u8 (G i)) := fun i hi => by rw [hD.cell]; exact HC.out i hi
        by_cases hjn : j < n
        case neg =>
          have hge1 : decide ((n : Int) ≤ (j : Int)) = true := by simp; omega
          go_wp2_with fail
          go_ret
          exact ⟨hD, _, rfl, .inl rfl⟩
        have hcj := hcr j hjn
        by_cases h34 : G j = 34
        case neg =>
          have a1 : (G j != 34) = true := by simpa using h34
          clear h34
          go_wp2_with fail
          go_ret
          exact ⟨hD, _, rfl, .inl rfl⟩
        have a1 : (G j != 34) = false := by simp [h34]
        have H34 : Hid (G j = 34) := h34
        clear h34
        go_wp2_with fail
        refine (lex_any G b n c _ j rfl wr hn hjn hcr).mono ?_
        rintro e w2 ⟨hw2, r, rfl, hr⟩
        have hw2' := hw2.symm
        clear hw2
        subst hw2'
        rcases hr with rfl | ⟨J, rfl, hJ2, hS⟩
        case inl =>
          go_wp2_with fail
          go_ret
          exact ⟨hD, _, rfl, .inl rfl⟩
        have hJ1 : j + 1 < J := by have := hS.lt; omega
        have hQ2 := hQ.trans (Pl.Pass.str H34.out hS)
        clear hQ hS
        go_wp2_with fail
        refine (skip_any G b n c _ J rfl wr hn (by omega) hcr).mono ?_
        rintro e w3 ⟨hw3, r, rfl, k2, rfl, hk3, hk4, hP2⟩
        have hw3' := hw3.symm
        clear hw3
        subst hw3'
        have hQ3 := hQ2.trans hP2
        clear hP2 hQ2
        by_cases hlt : k2 < n
        case neg =>
          have hge1 : decide ((n : Int) ≤ (k2 : Int)) = true := by simp; omega
          go_wp2_with fail
          go_ret
          exact ⟨hD, _, rfl, .inl rfl⟩
        have hcell2 := hcr k2 hlt
        by_cases h58 : G k2 = 58
        case neg =>
          have a2 : (G k2 != 58) = true := by simpa using h58
          clear h58
          go_wp2_with fail
          go_ret
          exact ⟨hD, _, rfl, .inl rfl⟩
        have a2 : (G k2 != 58) = false := by simp [h58]
        have hQ4 := hQ3.trans (Pl.Pass.one (by omega) (by omega) (by omega) (by omega) (by omega))
        clear h58 hQ3
        go_wp2_with fail
        refine (skip_any G b n c _ (k2 + 1) (by omega) wr hn (by omega) hcr).mono ?_
        rintro e w3 ⟨hw3, r, rfl, k3, rfl, hk5, hk6, hP3⟩
        have hw3' := hw3.symm
        clear hw3
        subst hw3'
        have hQ5 := hQ4.trans hP3
        clear hP3 hQ4
        go_wp2_with fail
        refine (ih k3 (by omega) _ wr rfl hcr).mono ?_
        rintro e w2 ⟨hD2, r, rfl, hr⟩
        have hD3 := hD.trans hD2
        have hc2 : ∀ i, i < n → w2.cell? ⟨b, i, none⟩ = some (.int .u8 (G i)) := fun i hi => by rw [hD3.cell]; exact HC.out i hi
        rcases hr with rfl | ⟨J2, rfl, hJ3, hJ4, hV⟩
        case inl =>
          go_wp2_with fail
          go_ret
          exact ⟨hD3, _, rfl, .inl rfl⟩
        have hQ6 := hQ5.trans hV.pass
        clear hcr hV hQ5 hcj hcell2
        go_wp2_with fail
        refine (skip_any G b n c _ J2 rfl w2 hn (by omega) hc2).mono ?_
        rintro e w3 ⟨hw3, r, rfl, k4, rfl, hk7, hk8, hP4⟩
        have hw3' := hw3.symm
        clear hw3
        subst hw3'
        have hQ7 := hQ6.trans hP4
        clear hP4 hQ6
        by_cases hlt4 : k4 < n
        case neg =>
          go_wp2_with fail
          go_ret
          exact ⟨hD3, _, rfl, .inl rfl⟩
        have hcell4 := hc2 k4 hlt4
        by_cases h125 : G k4 = 125
        · have a3 : (G k4 == 125) = true := by simp [h125]
          have hV := Pl.Val.of_brackets (.inl H123.out) (by omega) hQ7 (.inl h125)
          clear h125
          go_wp2_with fail
          go_ret
          exact ⟨hD3, _, rfl, .inr ⟨k4 + 1, by omega, by omega, by omega, hV⟩⟩
        · have a3 : (G k4 == 125) = false := by simp [h125]
          by_cases h44 : G k4 = 44
          · have a4 : (G k4 != 44) = false := by simp [h44]
            have hQ8 := hQ7.trans (Pl.Pass.one (by omega) (by omega) (by omega) (by omega) (by omega))
            clear h44 h125 hQ7
            go_wp2_with fail
            refine (skip_any G b n c _ (k4 + 1) (by omega) w2 hn (by omega) hc2).mono ?_
            rintro e w3 ⟨hw3, r, rfl, k5, rfl, hk9, hk10, hP5⟩
            have hw3' := hw3.symm
            clear hw3
            subst hw3'
            have hQ9 := hQ8.trans hP5
            clear hP5 hQ8
            go_wp2_with fail
            go_roundw
            case rel => exact ⟨k5, rfl, by omega, by omega, hD3, hQ9⟩
            case measure => simp [intOf]; omega
          · have a4 : (G k4 != 44) = true := by simpa using h44
            clear h44 h125
            go_wp2_with fail
            go_ret
            exact ⟨hD3, _, rfl, .inl rfl⟩
end Go.Proofs.Qxb6603065a
