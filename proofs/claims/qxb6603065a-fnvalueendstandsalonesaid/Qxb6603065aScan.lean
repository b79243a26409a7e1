import Derived.Test.Qxb6603065aLeaf
namespace Go.Proofs.Qxb6603065a
open Go.RowKit

set_option maxHeartbeats 400000 in
/-- zzStringLexemeEnd_sjb1 -/
theorem lex_any (G : Nat → Int) (b n c : Nat) (i : Int) (k0 : Nat) (hi : i = k0) (w : World) (hn : n ≤ 1048576) (hk : k0 < n)
    (hc : ∀ i, i < n → w.cell? ⟨b, i, none⟩ = some (.int .u8 (G i))) :
    Calls Try.prog 15 #[.slice (some ⟨b, 0, none⟩) n c, .int .i64 i] w fun e w' => w' = w ∧ ∃ r : Int, e = .returned (.int .i64 r) ∧ (r = -1 ∨ ∃ J : Nat, r = J ∧ J ≤ n ∧ Pl.Str G (k0 + 1) J) := by
  subst hi
  go_enter Try.func15, Try.ntmps15
  go_wp2
  go_loop [5] (fun t => ∃ k : Nat, t = .int .i64 k ∧ k ≤ n + 1 ∧ ∀ J, Pl.Str G k J → Pl.Str G (k0 + 1) J) (fun t => n + 1 - (intOf t).toNat)
  case atStart => exact ⟨k0 + 1, by go_num, by omega, fun J h => h⟩
  case round =>
    obtain ⟨k, rfl, hk2, hS⟩ := hrel
    by_cases hlt : k < n
    · have hcell := hc k hlt
      by_cases h1 : G k = 92
      · have g1 : (G k == 92) = true := by simp [h1]
        go_wp2
        go_round
        case rel => exact ⟨k + 2, by go_num, by omega, fun J h => hS J (h.esc h1)⟩
        case measure => simp [intOf]; omega
      · have g1 : (G k == 92) = false := by simp [h1]
        by_cases h2 : G k = 34
        · have g2 : (G k == 34) = true := by simp [h2]
          have hfin := hS _ (Pl.Str.close h2)
          go_wp2
          go_ret
          exact ⟨rfl, _, rfl, .inr ⟨k + 1, by omega, by omega, hfin⟩⟩
        · have g2 : (G k == 34) = false := by simp [h2]
          go_wp2
          go_round
          case rel => exact ⟨k + 1, by go_num, by omega, fun J h => hS J (h.step h1 h2)⟩
          case measure => simp [intOf]; omega
    · go_wp2
      go_ret
      exact ⟨rfl, _, rfl, .inl rfl⟩

set_option maxHeartbeats 400000 in
/-- zzWS_sjb1 -/
theorem skip_any (G : Nat → Int) (b n c : Nat) (i : Int) (k0 : Nat) (hi : i = k0) (w : World) (hn : n ≤ 1048576) (hk : k0 ≤ n)
    (hc : ∀ i, i < n → w.cell? ⟨b, i, none⟩ = some (.int .u8 (G i))) :
    Calls Try.prog 36 #[.slice (some ⟨b, 0, none⟩) n c, .int .i64 i] w fun e w' => w' = w ∧ ∃ r : Int, e = .returned (.int .i64 r) ∧ ∃ J : Nat, r = J ∧ k0 ≤ J ∧ J ≤ n ∧ Pl.Pass G k0 J := by
  subst hi
  go_enter Try.func36, Try.ntmps36
  go_wp2
  go_loop [1] (fun t => ∃ k : Nat, t = .int .i64 k ∧ k0 ≤ k ∧ k ≤ n ∧ Pl.Pass G k0 k) (fun t => n - (intOf t).toNat)
  case atStart => exact ⟨k0, rfl, by omega, by omega, Pl.Pass.refl _ _⟩
  case round =>
    obtain ⟨k, rfl, hk2, hk3, hS⟩ := hrel
    by_cases hlt : k < n
    · have hcell := hc k hlt
      by_cases h1 : Pl.wsB (G k) = true
      · have hp := hS.trans (Pl.ws_pass h1)
        go_wp2_with (go_at_call 12; refine (ws_any _ _).mono ?_; rintro e w' ⟨rfl, rfl⟩)
        go_round
        case rel => exact ⟨k + 1, by go_num, by omega, by omega, hp⟩
        case measure => simp [intOf]; omega
      · have g1 : Pl.wsB (G k) = false := by simpa using h1
        go_wp2_with (go_at_call 12; refine (ws_any _ _).mono ?_; rintro e w' ⟨rfl, rfl⟩)
        go_ret
        exact ⟨rfl, _, rfl, k, rfl, hk2, hk3, hS⟩
    · have hge : decide ((k : Int) < (n : Int)) = false := by simp; omega
      go_wp2_with (go_at_call 12; refine (ws_any _ _).mono ?_; rintro e w' ⟨rfl, rfl⟩)
      go_ret
      exact ⟨rfl, _, rfl, k, rfl, hk2, hk3, hS⟩
end Go.Proofs.Qxb6603065a
