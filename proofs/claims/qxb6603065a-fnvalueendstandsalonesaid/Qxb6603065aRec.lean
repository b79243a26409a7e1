import Derived.Test.Qxb6603065aNum
import Derived.Test.Qxb6603065aLit
namespace Go.Proofs.Qxb6603065a
open Go.RowKit

/-- WHAT zzValue_sjb1, zzArray_sjb1, zzObject_sjb1 SAY at i (f: the function's number). -/
def Says (f : Nat) (G : Nat → Int) (b n c k0 : Nat) : Prop := ∀ (i : Int) (w : World), i = k0 → (∀ i, i < n → w.cell? ⟨b, i, none⟩ = some (.int .u8 (G i))) →
  Calls Try.prog f #[.slice (some ⟨b, 0, none⟩) n c, .int .i64 i] w fun e w' => Dr w w' ∧ ∃ r : Int, e = .returned (.int .i64 r) ∧ (r = -1 ∨ ∃ J : Nat, r = J ∧ k0 < J ∧ J ≤ n ∧ Pl.Val G k0 J)

set_option maxRecDepth 100000 in
set_option maxHeartbeats 1000000 in
theorem arr_any (G : Nat → Int) (b n c : Nat) (hn : n ≤ 1048576) (k0 : Nat) (hk : k0 < n) (h91 : G k0 = 91) (ih : ∀ k, k0 < k → Says 24 G b n c k) : Says 31 G b n c k0 := by
  intro i w hi hc
  subst hi
  have H91 : Hid (G k0 = 91) := h91
  clear h91
  go_enter Try.func31, Try.ntmps31
  go_wp2_with fail
  refine (skip_any G b n c _ (k0 + 1) (by omega) w hn (by omega) hc).mono ?_
  rintro e w' ⟨rfl, r, rfl, k, rfl, hk1, hk2, hP⟩
  by_cases hq : k < n ∧ G k = 93
  · obtain ⟨hkn, hq⟩ := hq
    have hcell := hc k hkn
    have g1 : (G k == 93) = true := by simp [hq]
    have hV := Pl.Val.of_brackets (.inr H91.out) (by omega) hP (.inr hq)
    clear hq
    go_wp2_with fail
    go_ret
    exact ⟨Dr.refl _, _, rfl, .inr ⟨k + 1, by omega, by omega, by omega, hV⟩⟩
  · have hloop : (k < n ∧ (G k == 93) = false) ∨ n ≤ k := by
      by_cases hkn : k < n
      · exact .inl ⟨hkn, by rw [beq_eq_false_iff_ne]; exact fun h => hq ⟨hkn, h⟩⟩
      · exact .inr (by omega)
    clear hq
    have HC : Hid (∀ i, i < n → w'.cell? ⟨b, i, none⟩ = some (.int .u8 (G i))) := hc
    rcases hloop with ⟨hkn, g1⟩ | hkn
    · have hcell := hc k hkn
      go_wp2_with fail
      go_loopw [5] (fun t wr => ∃ k : Nat, t = .int .i64 k ∧ k0 < k ∧ k ≤ n ∧ Dr w' wr ∧ Pl.Pass G (k0 + 1) k) (fun t _ => n - (intOf t).toNat)
      case atStart => exact ⟨k, rfl, by omega, by omega, Dr.refl _, hP⟩
      case round =>
        obtain ⟨j, rfl, hj1, hj2, hD, hQ⟩ := hrel
        have hcr : ∀ i, i < n → wr.cell? ⟨b, i, none⟩ = some (.int .u8 (G i)) := fun i hi => by rw [hD.cell]; exact HC.out i hi
        go_wp2_with fail
        refine (ih j hj1 _ wr rfl hcr).mono ?_
        rintro e w2 ⟨hD2, r, rfl, hr⟩
        have hD3 := hD.trans hD2
        have hc2 : ∀ i, i < n → w2.cell? ⟨b, i, none⟩ = some (.int .u8 (G i)) := fun i hi => by rw [hD3.cell]; exact HC.out i hi
        rcases hr with rfl | ⟨J, rfl, hJ1, hJ2, hV⟩
        · go_wp2_with fail
          go_ret
          exact ⟨hD3, _, rfl, .inl rfl⟩
        · have hQ2 := hQ.trans hV.pass
          clear hcr hV hQ
          go_wp2_with fail
          refine (skip_any G b n c _ J rfl w2 hn (by omega) hc2).mono ?_
          rintro e w3 ⟨hw3, r, rfl, k2, rfl, hk3, hk4, hP2⟩
          have hw3' := hw3.symm
          clear hw3
          subst hw3'
          have hQ3 := hQ2.trans hP2
          clear hP2 hQ2
          by_cases hlt : k2 < n
          · have hcell2 := hc2 k2 hlt
            by_cases h93 : G k2 = 93
            · have a1 : (G k2 == 93) = true := by simp [h93]
              have hV := Pl.Val.of_brackets (.inr H91.out) (by omega) hQ3 (.inr h93)
              clear h93
              go_wp2_with fail
              go_ret
              exact ⟨hD3, _, rfl, .inr ⟨k2 + 1, by omega, by omega, by omega, hV⟩⟩
            · have a1 : (G k2 == 93) = false := by simp [h93]
              by_cases h44 : G k2 = 44
              · have a2 : (G k2 != 44) = false := by simp [h44]
                have hQ4 := hQ3.trans (Pl.Pass.one (by omega) (by omega) (by omega) (by omega) (by omega))
                clear h44 h93 hQ3
                go_wp2_with fail
                refine (skip_any G b n c _ (k2 + 1) (by omega) w2 hn (by omega) hc2).mono ?_
                rintro e w3 ⟨hw3, r, rfl, k3, rfl, hk5, hk6, hP3⟩
                have hw3' := hw3.symm
                clear hw3
                subst hw3'
                have hQ5 := hQ4.trans hP3
                clear hP3 hQ4
                go_wp2_with fail
                go_roundw
                case rel => exact ⟨k3, rfl, by omega, by omega, hD3, hQ5⟩
                case measure => simp [intOf]; omega
              · have a2 : (G k2 != 44) = true := by simpa using h44
                clear h44 h93
                go_wp2_with fail
                go_ret
                exact ⟨hD3, _, rfl, .inl rfl⟩
          · go_wp2_with fail
            go_ret
            exact ⟨hD3, _, rfl, .inl rfl⟩
    · have hge : decide ((k : Int) < (n : Int)) = false := by simp; omega
      go_wp2_with fail
      go_loopw [5] (fun t wr => ∃ k : Nat, t = .int .i64 k ∧ k0 < k ∧ k ≤ n ∧ Dr w' wr ∧ Pl.Pass G (k0 + 1) k) (fun t _ => n - (intOf t).toNat)
      case atStart => exact ⟨k, rfl, by omega, by omega, Dr.refl _, hP⟩
      case round =>
        obtain ⟨j, rfl, hj1, hj2, hD, hQ⟩ := hrel
        have hcr : ∀ i, i < n → wr.cell? ⟨b, i, none⟩ = some (.int .u8 (G i)) := fun i hi => by rw [hD.cell]; exact HC.out i hi
        go_wp2_with fail
        refine (ih j hj1 _ wr rfl hcr).mono ?_
        rintro e w2 ⟨hD2, r, rfl, hr⟩
        have hD3 := hD.trans hD2
        have hc2 : ∀ i, i < n → w2.cell? ⟨b, i, none⟩ = some (.int .u8 (G i)) := fun i hi => by rw [hD3.cell]; exact HC.out i hi
        rcases hr with rfl | ⟨J, rfl, hJ1, hJ2, hV⟩
        · go_wp2_with fail
          go_ret
          exact ⟨hD3, _, rfl, .inl rfl⟩
        · have hQ2 := hQ.trans hV.pass
          clear hcr hV hQ
          go_wp2_with fail
          refine (skip_any G b n c _ J rfl w2 hn (by omega) hc2).mono ?_
          rintro e w3 ⟨hw3, r, rfl, k2, rfl, hk3, hk4, hP2⟩
          have hw3' := hw3.symm
          clear hw3
          subst hw3'
          have hQ3 := hQ2.trans hP2
          clear hP2 hQ2
          by_cases hlt : k2 < n
          · have hcell2 := hc2 k2 hlt
            by_cases h93 : G k2 = 93
            · have a1 : (G k2 == 93) = true := by simp [h93]
              have hV := Pl.Val.of_brackets (.inr H91.out) (by omega) hQ3 (.inr h93)
              clear h93
              go_wp2_with fail
              go_ret
              exact ⟨hD3, _, rfl, .inr ⟨k2 + 1, by omega, by omega, by omega, hV⟩⟩
            · have a1 : (G k2 == 93) = false := by simp [h93]
              by_cases h44 : G k2 = 44
              · have a2 : (G k2 != 44) = false := by simp [h44]
                have hQ4 := hQ3.trans (Pl.Pass.one (by omega) (by omega) (by omega) (by omega) (by omega))
                clear h44 h93 hQ3
                go_wp2_with fail
                refine (skip_any G b n c _ (k2 + 1) (by omega) w2 hn (by omega) hc2).mono ?_
                rintro e w3 ⟨hw3, r, rfl, k3, rfl, hk5, hk6, hP3⟩
                have hw3' := hw3.symm
                clear hw3
                subst hw3'
                have hQ5 := hQ4.trans hP3
                clear hP3 hQ4
                go_wp2_with fail
                go_roundw
                case rel => exact ⟨k3, rfl, by omega, by omega, hD3, hQ5⟩
                case measure => simp [intOf]; omega
              · have a2 : (G k2 != 44) = true := by simpa using h44
                clear h44 h93
                go_wp2_with fail
                go_ret
                exact ⟨hD3, _, rfl, .inl rfl⟩
          · go_wp2_with fail
            go_ret
            exact ⟨hD3, _, rfl, .inl rfl⟩
end Go.Proofs.Qxb6603065a
