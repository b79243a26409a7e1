import Derived.Test.Qxb6603065aStrEnd
namespace Go.Proofs.Qxb6603065a
open Go.RowKit

set_option maxHeartbeats 400000 in
/-- strictjson.valueEnd at a string -/
theorem vEnd_str (G : Nat → Int) (b o n c : Nat) (i : Int) (k0 e : Nat) (hi : i = k0) (w : World) (hG : ∀ i, 0 ≤ G i ∧ G i < 256) (hn : n ≤ 1048576) (hnc : n ≤ c)
    (hc : ∀ i, i < n → w.cell? ⟨b, o + i, none⟩ = some (.int .u8 (G (o + i)))) (h34 : G (o + k0) = 34) (hS : Pl.Str G (o + k0 + 1) (o + e)) (he : e ≤ n) :
    Calls Try.prog 29 #[.slice (some ⟨b, o, none⟩) n c, .int .i64 i] w fun r w' => w' = w ∧ r = .returned (.int .i64 e) := by
  subst hi
  have hk0 : k0 + 1 < e := by have := hS.lt; omega
  have hcell := hc k0 (by omega)
  have g1 : (G (o + k0) == 34) = true := by simp [h34]
  have H34 : Hid (G (o + k0) = 34) := h34
  clear h34
  go_enter Try.func29, Try.ntmps29
  go_wp2_with fail
  refine (strEnd_any G b o n c _ k0 e rfl w hG hn hnc hc H34.out hS he).mono ?_
  rintro r w' ⟨rfl, rfl⟩
  go_wp2_with fail
  go_ret
  exact ⟨rfl, rfl⟩

set_option maxHeartbeats 400000 in
/-- strictjson.valueEnd at a number or a literal -/
theorem vEnd_flat (G : Nat → Int) (b o n c : Nat) (i : Int) (k0 e : Nat) (hi : i = k0) (w : World) (hn : n ≤ 1048576)
    (hc : ∀ i, i < n → w.cell? ⟨b, o + i, none⟩ = some (.int .u8 (G (o + i)))) (h1 : G (o + k0) ≠ 34) (h2 : G (o + k0) ≠ 123) (h3 : G (o + k0) ≠ 91) (hlt : k0 < e) (he : e ≤ n)
    (hno : ∀ p, o + k0 ≤ p → p < o + e → Pl.delB (G p) = false) (hyes : e < n → Pl.delB (G (o + e)) = true) :
    Calls Try.prog 29 #[.slice (some ⟨b, o, none⟩) n c, .int .i64 i] w fun r w' => w' = w ∧ r = .returned (.int .i64 e) := by
  subst hi
  have hcell := hc k0 (by omega)
  have g1 : (G (o + k0) == 34) = false := by simp [h1]
  have g2 : (G (o + k0) == 123) = false := by simp [h2]
  have g3 : (G (o + k0) == 91) = false := by simp [h3]
  have HN : Hid (∀ p, o + k0 ≤ p → p < o + e → Pl.delB (G p) = false) := hno
  have HY : Hid (e < n → Pl.delB (G (o + e)) = true) := hyes
  clear hno hyes h1 h2 h3
  go_enter Try.func29, Try.ntmps29
  go_wp2_with fail
  go_loop [1] (fun t => ∃ k : Nat, t = .int .i64 k ∧ k0 ≤ k ∧ k ≤ e) (fun t => n - (intOf t).toNat)
  case atStart => exact ⟨k0, rfl, by omega, by omega⟩
  case round =>
    obtain ⟨k, rfl, hk1, hk2⟩ := hrel
    by_cases hke : k < e
    · have hcell2 := hc k (by omega)
      have hd := HN.out (o + k) (by omega) (by omega)
      have hkn : k < n := by omega
      go_wp2_with (go_at_call 35; refine (del_any _ _).mono ?_; rintro e w' ⟨rfl, rfl⟩)
      go_round
      case rel => exact ⟨k + 1, by go_num, by omega, by omega⟩
      case measure => simp [intOf]; omega
    · obtain rfl : k = e := by omega
      by_cases hkn : k < n
      · have hcell2 := hc k (by omega)
        have hd := HY.out hkn
        go_wp2_with (go_at_call 35; refine (del_any _ _).mono ?_; rintro e w' ⟨rfl, rfl⟩)
        go_ret
        exact ⟨rfl, rfl⟩
      · have hge : decide ((k : Int) < (n : Int)) = false := by simp; omega
        go_wp2_with (go_at_call 35; refine (del_any _ _).mono ?_; rintro e w' ⟨rfl, rfl⟩)
        go_ret
        exact ⟨rfl, rfl⟩

set_option maxHeartbeats 1000000 in
/-- strictjson.valueEnd at an object or an array -/
theorem vEnd_deep (G : Nat → Int) (b o n c : Nat) (i : Int) (k0 e : Nat) (hi : i = k0) (w : World) (hG : ∀ i, 0 ≤ G i ∧ G i < 256) (hn : n ≤ 1048576) (hnc : n ≤ c)
    (hc : ∀ i, i < n → w.cell? ⟨b, o + i, none⟩ = some (.int .u8 (G (o + i)))) (h1 : G (o + k0) = 123 ∨ G (o + k0) = 91) (hL : Pl.Lead G (o + e) (o + k0) 0) (he : e ≤ n) :
    Calls Try.prog 29 #[.slice (some ⟨b, o, none⟩) n c, .int .i64 i] w fun r w' => w' = w ∧ r = .returned (.int .i64 e) := by
  subst hi
  have hk0 : k0 < e := by have := hL.lt; omega
  have hcell := hc k0 (by omega)
  have g1 : (G (o + k0) == 34) = false := by rw [beq_eq_false_iff_ne]; omega
  have g2 : (G (o + k0) == 123) = true ∨ (G (o + k0) == 123) = false ∧ (G (o + k0) == 91) = true := by
    rcases h1 with h | h
    · exact .inl (by simp [h])
    · exact .inr ⟨by simp [h], by simp [h]⟩
  clear h1
  have key : ∀ (k d : Nat), Pl.Lead G (o + e) (o + k) d → k < e := fun k d h => by have := h.lt; omega
  have HK : Hid (∀ (k d : Nat), Pl.Lead G (o + e) (o + k) d → k < e) := key
  clear key
  rcases g2 with g2 | ⟨g2, g3⟩
  all_goals
    go_enter Try.func29, Try.ntmps29
    go_wp2_with fail
    go_loop [1, 5] (fun t s => ∃ k d : Nat, t = .int .i64 k ∧ s = .int .i64 d ∧ k0 ≤ k ∧ d ≤ k ∧ Pl.Lead G (o + e) (o + k) d) (fun t _ => n - (intOf t).toNat)
    case atStart => exact ⟨k0, 0, rfl, rfl, by omega, by omega, hL⟩
    case round =>
      obtain ⟨k, d, rfl, rfl, hk1, hdk, hM⟩ := hrel
      have hke := HK.out k d hM
      have hcell2 := hc k (by omega)
      have hkn : k < n := by omega
      by_cases h34 : G (o + k) = 34
      · have a1 : (G (o + k) == 34) = true := by simp [h34]
        have H34 : Hid (G (o + k) = 34) := h34
        clear h34
        obtain ⟨j, hj, hM2⟩ := hM.str_inv H34.out
        obtain ⟨j, rfl⟩ : ∃ j', j = o + j' := ⟨j - o, by have := hj.lt; omega⟩
        have hj2 : k + 1 < j := by have := hj.lt; omega
        have hj3 := HK.out j d hM2
        go_wp2_with fail
        refine (strEnd_any G b o n c _ k j rfl w hG hn hnc hc H34.out hj (by omega)).mono ?_
        rintro r w' ⟨rfl, rfl⟩
        go_wp2_with fail
        go_round
        case rel => exact ⟨j, d, rfl, rfl, by omega, by omega, hM2⟩
        case measure => simp [intOf]; omega
      · have a1 : (G (o + k) == 34) = false := by simp [h34]
        by_cases hop : G (o + k) = 123 ∨ G (o + k) = 91
        · have a2 : (G (o + k) == 123) = true ∨ (G (o + k) == 123) = false ∧ (G (o + k) == 91) = true := by
            rcases hop with h | h
            · exact .inl (by simp [h])
            · exact .inr ⟨by simp [h], by simp [h]⟩
          have hM2 := hM.into_inv hop
          have hd0 : (((d : Int) + 1) == 0) = false := by rw [beq_eq_false_iff_ne]; omega
          clear hop h34
          rcases a2 with a2 | ⟨a2, a3⟩
          all_goals
            go_wp2_with fail
            go_round
            case rel => exact ⟨k + 1, d + 1, by go_num, by go_num, by omega, by omega, hM2⟩
            case measure => simp [intOf]; omega
        · have a2 : (G (o + k) == 123) = false := by rw [beq_eq_false_iff_ne]; omega
          have a3 : (G (o + k) == 91) = false := by rw [beq_eq_false_iff_ne]; omega
          by_cases hcl : G (o + k) = 125 ∨ G (o + k) = 93
          · have a4 : (G (o + k) == 125) = true ∨ (G (o + k) == 125) = false ∧ (G (o + k) == 93) = true := by
              rcases hcl with h | h
              · exact .inl (by simp [h])
              · exact .inr ⟨by simp [h], by simp [h]⟩
            rcases hM.out_inv hcl with ⟨hd1, hE⟩ | ⟨hd2, hM2⟩
            · obtain rfl : d = 1 := hd1
              obtain rfl : e = k + 1 := by omega
              clear hcl h34 hop hE
              rcases a4 with a4 | ⟨a4, a5⟩
              all_goals
                go_wp2_with fail
                go_ret
                exact ⟨rfl, ret_int (by omega)⟩
            · have hd0 : (((d : Int) - 1) == 0) = false := by rw [beq_eq_false_iff_ne]; omega
              clear hcl h34 hop
              rcases a4 with a4 | ⟨a4, a5⟩
              all_goals
                go_wp2_with fail
                go_round
                case rel => exact ⟨k + 1, d - 1, by go_num, by go_num, by omega, by omega, hM2⟩
                case measure => simp [intOf]; omega
          · have a4 : (G (o + k) == 125) = false := by rw [beq_eq_false_iff_ne]; omega
            have a5 : (G (o + k) == 93) = false := by rw [beq_eq_false_iff_ne]; omega
            obtain ⟨hd1, hM2⟩ := hM.plain_inv h34 (by omega) (by omega) (by omega) (by omega)
            have hd0 : ((d : Int) == 0) = false := by rw [beq_eq_false_iff_ne]; omega
            clear hcl h34 hop
            go_wp2_with fail
            go_round
            case rel => exact ⟨k + 1, d, by go_num, rfl, by omega, by omega, hM2⟩
            case measure => simp [intOf]; omega

/-- strictjson.valueEnd -/
theorem vEnd_any (G : Nat → Int) (b o n c : Nat) (i : Int) (k0 e : Nat) (hi : i = k0) (w : World) (hG : ∀ i, 0 ≤ G i ∧ G i < 256) (hn : n ≤ 1048576) (hnc : n ≤ c)
    (hc : ∀ i, i < n → w.cell? ⟨b, o + i, none⟩ = some (.int .u8 (G (o + i)))) (hE : Pl.Ends G (o + k0) (o + e) (o + n)) :
    Calls Try.prog 29 #[.slice (some ⟨b, o, none⟩) n c, .int .i64 i] w fun r w' => w' = w ∧ r = .returned (.int .i64 e) := by
  have h1 := hE.le
  have h2 := hE.pos
  by_cases h34 : G (o + k0) = 34
  · exact vEnd_str G b o n c i k0 e hi w hG hn hnc hc h34 (hE.str h34) (by omega)
  · by_cases hop : G (o + k0) = 123 ∨ G (o + k0) = 91
    · exact vEnd_deep G b o n c i k0 e hi w hG hn hnc hc hop (hE.deep hop) (by omega)
    · obtain ⟨h3, h4⟩ := hE.flat h34 (by omega) (by omega)
      exact vEnd_flat G b o n c i k0 e hi w hn hc h34 (by omega) (by omega) (by omega) (by omega) h3 (fun h => h4 (by omega))

set_option maxHeartbeats 400000 in
/-- strictjson.ZZvalueEnd -/
theorem zzEnd_any (G : Nat → Int) (b o n c : Nat) (i : Int) (k0 e : Nat) (hi : i = k0) (w : World) (hG : ∀ i, 0 ≤ G i ∧ G i < 256) (hn : n ≤ 1048576) (hnc : n ≤ c)
    (hc : ∀ i, i < n → w.cell? ⟨b, o + i, none⟩ = some (.int .u8 (G (o + i)))) (hE : Pl.Ends G (o + k0) (o + e) (o + n)) :
    Calls Try.prog 21 #[.slice (some ⟨b, o, none⟩) n c, .int .i64 i] w fun r w' => w' = w ∧ r = .returned (.int .i64 e) := by
  subst hi
  go_enter Try.func21, Try.ntmps21
  go_wp2_with fail
  refine (vEnd_any G b o n c _ k0 e rfl w hG hn hnc hc hE).mono ?_
  rintro r w' ⟨rfl, rfl⟩
  go_wp2_with fail
  go_ret
  exact ⟨rfl, rfl⟩
end Go.Proofs.Qxb6603065a
