import Derived.Test.Qxb6603065aScan
import Derived.Deep.Cut
import Derived.Deep.CutBlock
namespace Go.Proofs.Qxb6603065a
open Go.RowKit

set_option maxRecDepth 100000 in
set_option maxHeartbeats 4000000 in
/-- zzNumber_sjb1 -/
theorem num_any (G : Nat → Int) (b n c : Nat) (i : Int) (k0 : Nat) (hi : i = k0) (w : World) (hn : n ≤ 1048576) (hk : k0 < n)
    (hc : ∀ i, i < n → w.cell? ⟨b, i, none⟩ = some (.int .u8 (G i))) :
    Calls Try.prog 33 #[.slice (some ⟨b, 0, none⟩) n c, .int .i64 i] w fun e w' => w' = w ∧ ∃ r : Int, e = .returned (.int .i64 r) ∧ (r = -1 ∨ ∃ J : Nat, r = J ∧ k0 < J ∧ J ≤ n ∧ Pl.Nods G k0 J) := by
  subst hi
  have hcell := hc k0 hk
  go_enter Try.func33, Try.ntmps33
  go_upto_if 17 with fail
  go_cut [5] from 6 (fun t wx => wx = w ∧ ∃ k : Nat, t = .int .i64 k ∧ k0 ≤ k ∧ k ≤ n ∧ Pl.Nods G k0 k)
  case first =>
    by_cases h : G k0 = 45
    · have g1 : (G k0 == 45) = true := by simp [h]
      have hN := (Pl.Nods.none G k0).snoc (by unfold Pl.Nod; omega)
      go_wp2_with fail
      go_meet
      exact ⟨rfl, k0 + 1, by go_num, by omega, by omega, hN⟩
    · have g1 : (G k0 == 45) = false := by simp [h]
      go_wp2_with fail
      go_meet
      exact ⟨rfl, k0, rfl, by omega, by omega, Pl.Nods.none G k0⟩
  case rest =>
    clear hcell
    obtain ⟨rfl, k, rfl, hk1, hk2, hN⟩ := hcut
    by_cases hlt : k < n
    case neg =>
      go_wp2_with fail
      go_ret
      exact ⟨rfl, _, rfl, .inl rfl⟩
    have hcell := hc k hlt
    go_upto_if 28 with fail
    go_cut [5] from 6 (fun t wx => wx = wc ∧ ∃ k : Nat, t = .int .i64 k ∧ k0 < k ∧ k ≤ n ∧ Pl.Nods G k0 k)
    case first =>
      by_cases h : G k = 48
      · have g1 : (G k == 48) = true := by simp [h]
        have hN := hN.snoc (by unfold Pl.Nod; omega)
        go_wp2_with fail
        go_meet
        exact ⟨rfl, k + 1, by go_num, by omega, by omega, hN⟩
      · have g1 : (G k == 48) = false := by simp [h]
        by_cases hd : Pl.digB (G k) = true
        · have hN2 := hN.snoc (Pl.dig_nod hd)
          go_wp2_with (go_at_call 37; refine (dig_any _ _).mono ?_; rintro e w' ⟨rfl, rfl⟩)
          go_loop [5] (fun t => ∃ j : Nat, t = .int .i64 j ∧ (j = k ∨ k < j) ∧ j ≤ n ∧ Pl.Nods G k0 j) (fun t => n - (intOf t).toNat)
          case atStart => exact ⟨k, rfl, .inl rfl, by omega, hN⟩
          case round =>
            obtain ⟨j, rfl, hj1, hj2, hM⟩ := hrel
            by_cases hjn : j < n
            · have hcj := hc j hjn
              by_cases hdj : Pl.digB (G j) = true
              · have hM2 := hM.snoc (Pl.dig_nod hdj)
                go_wp2_with (go_at_call 37; refine (dig_any _ _).mono ?_; rintro e w' ⟨rfl, rfl⟩)
                go_round
                case rel => exact ⟨j + 1, by go_num, by omega, by omega, hM2⟩
                case measure => simp [intOf]; omega
              · have hdj2 : Pl.digB (G j) = false := by simpa using hdj
                have hjk : k < j := by rcases hj1 with rfl | h2; (rw [hd] at hdj2; cases hdj2); exact h2
                go_wp2_with (go_at_call 37; refine (dig_any _ _).mono ?_; rintro e w' ⟨rfl, rfl⟩)
                go_meet
                exact ⟨rfl, j, rfl, by omega, by omega, hM⟩
            · have hge : decide ((j : Int) < (n : Int)) = false := by simp; omega
              go_wp2_with (go_at_call 37; refine (dig_any _ _).mono ?_; rintro e w' ⟨rfl, rfl⟩)
              go_meet
              exact ⟨rfl, j, rfl, by omega, by omega, hM⟩
        · have hd2 : Pl.digB (G k) = false := by simpa using hd
          go_wp2_with (go_at_call 37; refine (dig_any _ _).mono ?_; rintro e w' ⟨rfl, rfl⟩)
          go_ret
          exact ⟨rfl, _, rfl, .inl rfl⟩
    case rest =>
      clear hcell hN hk1 hk2 hlt
      obtain ⟨rfl, k, rfl, hk1, hk2, hN⟩ := hcut
      go_upto_region 12 with fail
      go_cut [59] from 6 (fun t wx => wx = wc ∧ ∃ bb : Bool, t = .bool bb ∧ (bb = true → k < n ∧ G k = 46))
      case first =>
        by_cases hlt : k < n
        · have hcell := hc k hlt
          go_wp2_with fail
          go_meet
          exact ⟨rfl, _, rfl, fun h => ⟨hlt, by simpa using h⟩⟩
        · have hge : decide ((k : Int) < (n : Int)) = false := by simp; omega
          go_wp2_with fail
          go_meet
          exact ⟨rfl, _, rfl, fun h => by cases h⟩
      case rest =>
        obtain ⟨rfl, bb, rfl, hbb⟩ := hcut
        have HB : Hid (bb = true → k < n ∧ G k = 46) := hbb
        clear hbb
        go_upto_if 59 with fail
        go_cut [5] from 6 (fun t wx => wx = wc ∧ ∃ k : Nat, t = .int .i64 k ∧ k0 < k ∧ k ≤ n ∧ Pl.Nods G k0 k)
        case first =>
          cases bb with
          | false =>
            go_wp2_with fail
            go_meet
            exact ⟨rfl, k, rfl, hk1, hk2, hN⟩
          | true =>
            have hlt := (HB.out rfl).1
            have hN2 := hN.snoc (by have := (HB.out rfl).2; unfold Pl.Nod; omega)
            clear HB
            by_cases hd : k + 1 < n ∧ Pl.digB (G (k + 1)) = true
            · obtain ⟨hk3, hd⟩ := hd
              have hcell := hc (k + 1) hk3
              have e1 : ((k : Int) + 1).toNat = k + 1 := by omega
              go_wp2_with (go_at_call 37; refine (dig_any _ _).mono ?_; rintro e w' ⟨rfl, rfl⟩)
              go_loop [5] (fun t => ∃ j : Nat, t = .int .i64 j ∧ k < j ∧ j ≤ n ∧ Pl.Nods G k0 j) (fun t => n - (intOf t).toNat)
              case atStart => exact ⟨k + 1, by go_num, by omega, by omega, hN2⟩
              case round =>
                obtain ⟨j, rfl, hj1, hj2, hM⟩ := hrel
                clear hcell hd
                by_cases hjn : j < n
                · have hcj := hc j hjn
                  by_cases hdj : Pl.digB (G j) = true
                  · have hM2 := hM.snoc (Pl.dig_nod hdj)
                    go_wp2_with (go_at_call 37; refine (dig_any _ _).mono ?_; rintro e w' ⟨rfl, rfl⟩)
                    go_round
                    case rel => exact ⟨j + 1, by go_num, by omega, by omega, hM2⟩
                    case measure => simp [intOf]; omega
                  · have hdj2 : Pl.digB (G j) = false := by simpa using hdj
                    go_wp2_with (go_at_call 37; refine (dig_any _ _).mono ?_; rintro e w' ⟨rfl, rfl⟩)
                    go_meet
                    exact ⟨rfl, j, rfl, by omega, by omega, hM⟩
                · have hge : decide ((j : Int) < (n : Int)) = false := by simp; omega
                  go_wp2_with (go_at_call 37; refine (dig_any _ _).mono ?_; rintro e w' ⟨rfl, rfl⟩)
                  go_meet
                  exact ⟨rfl, j, rfl, by omega, by omega, hM⟩
            · by_cases hk3 : k + 1 < n
              · have hd2 : Pl.digB (G (k + 1)) = false := by
                  cases hq : Pl.digB (G (k + 1)) with
                  | false => rfl
                  | true => exact (hd ⟨hk3, hq⟩).elim
                have hcell := hc (k + 1) hk3
                have e1 : ((k : Int) + 1).toNat = k + 1 := by omega
                go_wp2_with (go_at_call 37; refine (dig_any _ _).mono ?_; rintro e w' ⟨rfl, rfl⟩)
                go_ret
                exact ⟨rfl, _, rfl, .inl rfl⟩
              · have hge : decide ((n : Int) ≤ (k : Int) + 1) = true := by simp; omega
                go_wp2_with (go_at_call 37; refine (dig_any _ _).mono ?_; rintro e w' ⟨rfl, rfl⟩)
                go_ret
                exact ⟨rfl, _, rfl, .inl rfl⟩
        case rest =>
          clear hN hk1 hk2 HB
          obtain ⟨rfl, k, rfl, hk1, hk2, hN⟩ := hcut
          go_upto_region 18 with fail
          go_cut [104] from 6 (fun t wx => wx = wc ∧ ∃ bb : Bool, t = .bool bb ∧ (bb = true → k < n ∧ (G k = 101 ∨ G k = 69)))
          case first =>
            by_cases hlt : k < n
            · have hcell := hc k hlt
              by_cases h101 : G k = 101
              · have g1 : (G k == 101) = true := by simp [h101]
                go_wp2_with fail
                go_meet
                exact ⟨rfl, _, rfl, fun _ => ⟨hlt, .inl h101⟩⟩
              · have g1 : (G k == 101) = false := by simp [h101]
                go_wp2_with fail
                go_meet
                exact ⟨rfl, _, rfl, fun h => ⟨hlt, .inr (by simpa using h)⟩⟩
            · have hge : decide ((k : Int) < (n : Int)) = false := by simp; omega
              go_wp2_with fail
              go_meet
              exact ⟨rfl, _, rfl, fun h => by cases h⟩
          case rest =>
            obtain ⟨rfl, bb, rfl, hbb⟩ := hcut
            have HB : Hid (bb = true → k < n ∧ (G k = 101 ∨ G k = 69)) := hbb
            clear hbb
            go_upto_if 104 with fail
            go_cut [5] from 6 (fun t wx => wx = wc ∧ ∃ k : Nat, t = .int .i64 k ∧ k0 < k ∧ k ≤ n ∧ Pl.Nods G k0 k)
            case rest =>
              clear hN hk1 hk2 HB
              obtain ⟨rfl, k, rfl, hk1, hk2, hN⟩ := hcut
              go_wp2_with fail
              go_ret
              exact ⟨rfl, _, rfl, .inr ⟨k, rfl, hk1, hk2, hN⟩⟩
            case first =>
              cases bb with
              | false =>
                go_wp2_with fail
                go_meet
                exact ⟨rfl, k, rfl, hk1, hk2, hN⟩
              | true =>
                have hlt := (HB.out rfl).1
                have hN2 := hN.snoc (by have := (HB.out rfl).2; unfold Pl.Nod; omega)
                clear HB
                go_upto_region 20 with fail
                go_cut [124] from 6 (fun t wx => wx = wc ∧ ∃ bb : Bool, t = .bool bb ∧ (bb = true → k + 1 < n ∧ (G (k + 1) = 43 ∨ G (k + 1) = 45)))
                case first =>
                  by_cases hlt1 : k + 1 < n
                  · have hcell := hc (k + 1) hlt1
                    have e1 : ((k : Int) + 1).toNat = k + 1 := by omega
                    by_cases h43 : G (k + 1) = 43
                    · have g1 : (G (k + 1) == 43) = true := by simp [h43]
                      go_wp2_with fail
                      go_meet
                      exact ⟨rfl, _, rfl, fun _ => ⟨hlt1, .inl h43⟩⟩
                    · have g1 : (G (k + 1) == 43) = false := by simp [h43]
                      go_wp2_with fail
                      go_meet
                      exact ⟨rfl, _, rfl, fun h => ⟨hlt1, .inr (by simpa using h)⟩⟩
                  · have hge : decide ((k : Int) + 1 < (n : Int)) = false := by simp; omega
                    go_wp2_with fail
                    go_meet
                    exact ⟨rfl, _, rfl, fun h => by cases h⟩
                case rest =>
                  obtain ⟨rfl, bb, rfl, hbb⟩ := hcut
                  have HB : Hid (bb = true → k + 1 < n ∧ (G (k + 1) = 43 ∨ G (k + 1) = 45)) := hbb
                  clear hbb
                  go_upto_if 124 with fail
                  go_cut [5] from 6 (fun t wx => wx = wc ∧ ∃ j : Nat, t = .int .i64 j ∧ k0 < j ∧ j ≤ n ∧ Pl.Nods G k0 j)
                  case first =>
                    cases bb with
                    | false =>
                      go_wp2_with fail
                      go_meet
                      exact ⟨rfl, k + 1, by go_num, by omega, by omega, hN2⟩
                    | true =>
                      have hlt1 := (HB.out rfl).1
                      have hN3 := hN2.snoc (by have := (HB.out rfl).2; unfold Pl.Nod; omega)
                      clear HB
                      go_wp2_with fail
                      go_meet
                      exact ⟨rfl, k + 2, by go_num, by omega, by omega, hN3⟩
                  case rest =>
                    clear hN hN2 hk1 hk2 hlt HB
                    obtain ⟨rfl, k, rfl, hk1, hk2, hN⟩ := hcut
                    by_cases hd : k < n ∧ Pl.digB (G k) = true
                    · obtain ⟨hk3, hd⟩ := hd
                      have hcell := hc k hk3
                      have hge0 : decide (n ≤ k) = false := by simp; omega
                      go_wp2_with (go_at_call 37; refine (dig_any _ _).mono ?_; rintro e w' ⟨rfl, rfl⟩)
                      go_loop [5] (fun t => ∃ j : Nat, t = .int .i64 j ∧ k ≤ j ∧ j ≤ n ∧ Pl.Nods G k0 j) (fun t => n - (intOf t).toNat)
                      case atStart => exact ⟨k, rfl, by omega, by omega, hN⟩
                      case round =>
                        obtain ⟨j, rfl, hj1, hj2, hM⟩ := hrel
                        clear hcell hd
                        by_cases hjn : j < n
                        · have hcj := hc j hjn
                          by_cases hdj : Pl.digB (G j) = true
                          · have hM2 := hM.snoc (Pl.dig_nod hdj)
                            go_wp2_with (go_at_call 37; refine (dig_any _ _).mono ?_; rintro e w' ⟨rfl, rfl⟩)
                            go_round
                            case rel => exact ⟨j + 1, by go_num, by omega, by omega, hM2⟩
                            case measure => simp [intOf]; omega
                          · have hdj2 : Pl.digB (G j) = false := by simpa using hdj
                            go_wp2_with (go_at_call 37; refine (dig_any _ _).mono ?_; rintro e w' ⟨rfl, rfl⟩)
                            go_meet
                            exact ⟨rfl, j, rfl, by omega, by omega, hM⟩
                        · have hge : decide ((j : Int) < (n : Int)) = false := by simp; omega
                          go_wp2_with (go_at_call 37; refine (dig_any _ _).mono ?_; rintro e w' ⟨rfl, rfl⟩)
                          go_meet
                          exact ⟨rfl, j, rfl, by omega, by omega, hM⟩
                    · by_cases hk3 : k < n
                      · have hd2 : Pl.digB (G k) = false := by
                          cases hq : Pl.digB (G k) with
                          | false => rfl
                          | true => exact (hd ⟨hk3, hq⟩).elim
                        have hcell := hc k hk3
                        go_wp2_with (go_at_call 37; refine (dig_any _ _).mono ?_; rintro e w' ⟨rfl, rfl⟩)
                        go_ret
                        exact ⟨rfl, _, rfl, .inl rfl⟩
                      · have hge : decide ((n : Int) ≤ (k : Int)) = true := by simp; omega
                        go_wp2_with (go_at_call 37; refine (dig_any _ _).mono ?_; rintro e w' ⟨rfl, rfl⟩)
                        go_ret
                        exact ⟨rfl, _, rfl, .inl rfl⟩
end Go.Proofs.Qxb6603065a
