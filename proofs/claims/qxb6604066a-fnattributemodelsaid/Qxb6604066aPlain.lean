/-
  PLAIN LAWS, no Go in sight: the bytes are a function G from places to numbers; behind the text's end it is 0.
  A machine is a step 's : α → Option α'; 'Reach s a b': it comes from a to b.
-/
namespace Go.Proofs.Qxb6604066a.Pl

def runs {α : Type} (s : α → Option α) (b : α) : Nat → α → Prop
  | 0, a => a = b
  | f + 1, a => ∃ c, s a = some c ∧ runs s b f c
def Reach {α : Type} (s : α → Option α) (a b : α) : Prop := ∃ f, runs s b f a
theorem Reach.refl {α : Type} (s : α → Option α) (a : α) : Reach s a a := ⟨0, rfl⟩
theorem Reach.head {α : Type} {s : α → Option α} {a c b : α} (h : s a = some c) (r : Reach s c b) : Reach s a b := by
  obtain ⟨f, hf⟩ := r; exact ⟨f + 1, c, h, hf⟩
theorem Reach.tail {α : Type} {s : α → Option α} {a b c : α} (r : Reach s a b) (h : s b = some c) : Reach s a c := by
  obtain ⟨f, hf⟩ := r
  induction f generalizing a with
  | zero => cases hf; exact Reach.head h (Reach.refl s c)
  | succ f ih => obtain ⟨d, h1, h2⟩ := hf; exact Reach.head h1 (ih h2)
/-- where the machine stands still: whoever comes to b from a stands on the road to it. -/
theorem Reach.stuck {α : Type} {s : α → Option α} {a b c : α} (r : Reach s a b) (q : Reach s a c) (h : s c = none) : Reach s b c := by
  obtain ⟨f, hf⟩ := r
  obtain ⟨g, hg⟩ := q
  induction f generalizing a g with
  | zero => cases hf; exact ⟨g, hg⟩
  | succ f ih =>
    obtain ⟨d, h1, h2⟩ := hf
    cases g with
    | zero => cases hg; rw [h] at h1; cases h1
    | succ g =>
      obtain ⟨d2, h3, h4⟩ := hg
      rw [h1] at h3
      cases h3
      exact ih h2 g h4
theorem Reach.stuck_eq {α : Type} {s : α → Option α} {a b : α} (r : Reach s a b) (h : s a = none) : a = b := by
  obtain ⟨f, hf⟩ := r
  cases f with
  | zero => exact hf
  | succ f => obtain ⟨d, h1, _⟩ := hf; rw [h] at h1; cases h1
theorem Reach.same {α : Type} {s : α → Option α} {a b c : α} (r : Reach s a b) (q : Reach s a c) (h : s b = none) (h2 : s c = none) : b = c := (r.stuck q h2).stuck_eq h
/-- a number that every step raises: two states that are reached and bear one number are one. -/
theorem Reach.pos_le {α : Type} {s : α → Option α} (μ : α → Nat) (hμ : ∀ a c, s a = some c → μ a < μ c) {a b : α} (r : Reach s a b) : μ a ≤ μ b := by
  obtain ⟨f, hf⟩ := r
  induction f generalizing a with
  | zero => cases hf; exact Nat.le_refl _
  | succ f ih =>
    obtain ⟨d, h1, h2⟩ := hf
    have := hμ _ _ h1
    have := ih h2
    omega
theorem Reach.pos_eq {α : Type} {s : α → Option α} (μ : α → Nat) (hμ : ∀ a c, s a = some c → μ a < μ c) {a b c : α} (r : Reach s a b) (q : Reach s a c) (h : μ b = μ c) : b = c := by
  obtain ⟨f, hf⟩ := r
  obtain ⟨g, hg⟩ := q
  induction f generalizing a g with
  | zero =>
    cases hf
    cases g with
    | zero => exact hg
    | succ g =>
      obtain ⟨d, h1, h2⟩ := hg
      have := hμ _ _ h1
      have := Reach.pos_le μ hμ ⟨g, h2⟩
      omega
  | succ f ih =>
    obtain ⟨d, h1, h2⟩ := hf
    cases g with
    | zero =>
      cases hg
      have := hμ _ _ h1
      have := Reach.pos_le μ hμ ⟨f, h2⟩
      omega
    | succ g =>
      obtain ⟨d2, h3, h4⟩ := hg
      rw [h1] at h3
      cases h3
      exact ih h2 g h4
/-- between two states of one road the second comes behind the first or ahead of it. -/
theorem Reach.later {α : Type} {s : α → Option α} (μ : α → Nat) (hμ : ∀ a c, s a = some c → μ a < μ c) {a b c : α} (r : Reach s a b) (q : Reach s a c) (h : μ b ≤ μ c) : Reach s b c := by
  obtain ⟨f, hf⟩ := r
  obtain ⟨g, hg⟩ := q
  induction f generalizing a g with
  | zero => cases hf; exact ⟨g, hg⟩
  | succ f ih =>
    obtain ⟨d, h1, h2⟩ := hf
    cases g with
    | zero =>
      cases hg
      have := hμ _ _ h1
      have := Reach.pos_le μ hμ ⟨f, h2⟩
      omega
    | succ g =>
      obtain ⟨d2, h3, h4⟩ := hg
      rw [h1] at h3
      cases h3
      exact ih h2 g h4

/-- ASCII punctuation -/
def punB (c : Int) : Bool := (decide (33 ≤ c) && decide (c ≤ 47)) || (decide (58 ≤ c) && decide (c ≤ 64)) || (decide (91 ≤ c) && decide (c ≤ 96)) || (decide (123 ≤ c) && decide (c ≤ 126))
theorem pun_iff (c : Int) : punB c = true ↔ (33 ≤ c ∧ c ≤ 47) ∨ (58 ≤ c ∧ c ≤ 64) ∨ (91 ≤ c ∧ c ≤ 96) ∨ (123 ≤ c ∧ c ≤ 126) := by simp [punB, or_assoc]
theorem pun_zero : punB 0 = false := by decide

/-! ### between '<' and '>' -/
def badA (c : Int) : Prop := c = 13 ∨ c = 10 ∨ c = 60 ∨ c = 62
/-- one token on, within a text that ends at n -/
def stA (G : Nat → Int) (n : Nat) (k : Nat) : Option Nat :=
  if G k = 92 ∧ punB (G (k + 1)) = true then some (k + 2) else if k < n ∧ G k ≠ 13 ∧ G k ≠ 10 ∧ G k ≠ 60 ∧ G k ≠ 62 then some (k + 1) else none
theorem stA_esc {G : Nat → Int} {n k : Nat} (h : G k = 92) (h2 : punB (G (k + 1)) = true) : stA G n k = some (k + 2) := by simp [stA, h, h2]
theorem stA_one {G : Nat → Int} {n k : Nat} (h : ¬ (G k = 92 ∧ punB (G (k + 1)) = true)) (hn : k < n) (h2 : G k ≠ 13) (h3 : G k ≠ 10) (h4 : G k ≠ 60) (h5 : G k ≠ 62) : stA G n k = some (k + 1) := by
  rw [stA, if_neg h, if_pos ⟨hn, h2, h3, h4, h5⟩]
theorem stA_bad {G : Nat → Int} {n k : Nat} (h : G k = 13 ∨ G k = 10 ∨ G k = 60 ∨ G k = 62) : stA G n k = none := by
  rw [stA, if_neg (by omega), if_neg (by omega)]
theorem stA_end {G : Nat → Int} {n k : Nat} (h : n ≤ k) (hz : G k = 0) : stA G n k = none := by
  rw [stA, if_neg (by omega), if_neg (by omega)]
theorem stA_up (G : Nat → Int) (n : Nat) (a c : Nat) (h : stA G n a = some c) : a < c := by
  unfold stA at h
  split at h
  · cases h; omega
  · split at h
    · cases h; omega
    · cases h

/-- 'the angle destination that opens at i ends ahead of r', of which there is one at most -/
def Ang (G : Nat → Int) (n i r : Nat) : Prop := r ≤ n ∧ i + 2 ≤ r ∧ G (r - 1) = 62 ∧ Reach (stA G n) (i + 1) (r - 1)
theorem Ang.uniq {G : Nat → Int} {n i r q : Nat} (h : Ang G n i r) (h2 : Ang G n i q) : r = q := by
  obtain ⟨_, a1, a2, a3⟩ := h
  obtain ⟨_, b1, b2, b3⟩ := h2
  have := a3.same b3 (stA_bad (by omega)) (stA_bad (by omega))
  omega
/-- WHAT BOTH ANSWER at '<' -/
def AngAns (G : Nat → Int) (n i : Nat) (r : Nat) : Prop := Ang G n i r ∨ (r = i ∧ ∀ q, ¬ Ang G n i q)
theorem AngAns.uniq {G : Nat → Int} {n i r q : Nat} (h : AngAns G n i r) (h2 : AngAns G n i q) : r = q := by
  rcases h with h | ⟨h, h0⟩
  · rcases h2 with h2 | ⟨_, h3⟩
    · exact h.uniq h2
    · exact (h3 r h).elim
  · rcases h2 with h2 | ⟨h2, _⟩
    · exact (h0 q h2).elim
    · omega

/-! ### bare -/
/-- one token on: the place, the depth, the deepest -/
def stB (H : Nat → Int) : Nat × Nat × Nat → Option (Nat × Nat × Nat)
  | (k, d, m) =>
    if H k = 92 ∧ punB (H (k + 1)) = true then some (k + 2, d, m)
    else if 32 < H k ∧ H k ≠ 127 then
      if H k = 40 then some (k + 1, d + 1, max m (d + 1))
      else if H k = 41 then (if d = 0 then none else some (k + 1, d - 1, m))
      else some (k + 1, d, m)
    else none
theorem stB_esc {H : Nat → Int} {k d m : Nat} (h : H k = 92) (h2 : punB (H (k + 1)) = true) : stB H (k, d, m) = some (k + 2, d, m) := by simp [stB, h, h2]
theorem stB_open {H : Nat → Int} {k d m : Nat} (h : H k = 40) : stB H (k, d, m) = some (k + 1, d + 1, max m (d + 1)) := by simp [stB, h]
theorem stB_close {H : Nat → Int} {k d m : Nat} (h : H k = 41) (hd : d ≠ 0) : stB H (k, d, m) = some (k + 1, d - 1, m) := by simp [stB, h, hd]
theorem stB_close0 {H : Nat → Int} {k m : Nat} (h : H k = 41) : stB H (k, 0, m) = none := by simp [stB, h]
theorem stB_low {H : Nat → Int} {k d m : Nat} (h : H k ≤ 32 ∨ H k = 127) : stB H (k, d, m) = none := by
  have h1 : ¬ (H k = 92 ∧ punB (H (k + 1)) = true) := by omega
  have h2 : ¬ (32 < H k ∧ H k ≠ 127) := by omega
  simp [stB, h1, h2]
theorem stB_one {H : Nat → Int} {k d m : Nat} (h : ¬ (H k = 92 ∧ punB (H (k + 1)) = true)) (h1 : 32 < H k) (h2 : H k ≠ 127) (h3 : H k ≠ 40) (h4 : H k ≠ 41) : stB H (k, d, m) = some (k + 1, d, m) := by
  simp [stB, h, h1, h2, h3, h4]
theorem stB_up (H : Nat → Int) (a c : Nat × Nat × Nat) (h : stB H a = some c) : a.1 < c.1 := by
  obtain ⟨k, d, m⟩ := a
  simp only [stB] at h
  split at h
  · cases h; simp
  · split at h
    · split at h
      · cases h; simp
      · split at h
        · split at h
          · cases h
          · cases h; simp
        · cases h; simp
    · cases h
theorem stB_deep (H : Nat → Int) (a c : Nat × Nat × Nat) (h : stB H a = some c) : a.2.2 ≤ c.2.2 := by
  obtain ⟨k, d, m⟩ := a
  simp only [stB] at h
  split at h
  · cases h; simp
  · split at h
    · split at h
      · cases h; simp; omega
      · split at h
        · split at h
          · cases h
          · cases h; simp
        · cases h; simp
    · cases h
theorem reach_deep {H : Nat → Int} {a b : Nat × Nat × Nat} (r : Reach (stB H) a b) : a.2.2 ≤ b.2.2 := by
  obtain ⟨f, hf⟩ := r
  induction f generalizing a with
  | zero => cases hf; exact Nat.le_refl _
  | succ f ih =>
    obtain ⟨c, h1, h2⟩ := hf
    have := stB_deep H _ _ h1
    have := ih h2
    omega
theorem reach_pos {H : Nat → Int} {a b : Nat × Nat × Nat} (r : Reach (stB H) a b) : a.1 ≤ b.1 := Reach.pos_le (fun x => x.1) (stB_up H) r

/-- a step stays within the text -/
theorem stB_in {H : Nat → Int} {n : Nat} (hz : ∀ k, n ≤ k → H k = 0) (a c : Nat × Nat × Nat) (h : stB H a = some c) : c.1 ≤ n := by
  obtain ⟨k, d, m⟩ := a
  have hk : k < n := by
    by_cases hk : k < n
    · exact hk
    · rw [stB_low (.inl (by rw [hz k (by omega)]; omega))] at h; cases h
  simp only [stB] at h
  split at h
  · rename_i he
    have : k + 1 < n := by
      by_cases hk1 : k + 1 < n
      · exact hk1
      · have := he.2; rw [hz (k + 1) (by omega), pun_zero] at this; cases this
    cases h; exact this
  · split at h
    · split at h
      · cases h; exact hk
      · split at h
        · split at h
          · cases h
          · cases h; exact hk
        · cases h; exact hk
    · cases h
/-- the machine comes to stand -/
theorem run_ends {H : Nat → Int} {n : Nat} (hz : ∀ k, n ≤ k → H k = 0) (f : Nat) : ∀ a : Nat × Nat × Nat, a.1 ≤ n → n ≤ a.1 + f → ∃ b, Reach (stB H) a b ∧ stB H b = none ∧ b.1 ≤ n := by
  induction f with
  | zero =>
    intro a h1 h2
    obtain ⟨k, d, m⟩ := a
    exact ⟨(k, d, m), Reach.refl _ _, stB_low (.inl (by rw [hz k (by simpa using h2)]; omega)), h1⟩
  | succ f ih =>
    intro a h1 h2
    cases hs : stB H a with
    | none => exact ⟨a, Reach.refl _ _, hs, h1⟩
    | some c =>
      have hu := stB_up H _ _ hs
      obtain ⟨b, h3, h4, h5⟩ := ih c (stB_in hz _ _ hs) (by omega)
      exact ⟨b, Reach.head hs h3, h4, h5⟩

/-- the text cut at r -/
def cut (G : Nat → Int) (r : Nat) (k : Nat) : Int := if k < r then G k else 0
theorem cut_in {G : Nat → Int} {r k : Nat} (h : k < r) : cut G r k = G k := by simp [cut, h]
theorem cut_out {G : Nat → Int} {r k : Nat} (h : r ≤ k) : cut G r k = 0 := by simp [cut]; omega
theorem stB_cut {G : Nat → Int} {r : Nat} (a c : Nat × Nat × Nat) (h : stB G a = some c) (hr : c.1 ≤ r) : stB (cut G r) a = some c := by
  obtain ⟨k, d, m⟩ := a
  have hu := stB_up G _ _ h
  simp only at hu
  have hk : k < r := by omega
  have e := cut_in (G := G) hk
  by_cases he : G k = 92 ∧ punB (G (k + 1)) = true
  · rw [stB_esc he.1 he.2] at h
    cases h
    simp only at hr
    exact stB_esc (by rw [e]; exact he.1) (by rw [cut_in (by omega)]; exact he.2)
  · have he2 : ¬ (cut G r k = 92 ∧ punB (cut G r (k + 1)) = true) := by
      rw [e]
      rintro ⟨h1, h2⟩
      by_cases hk1 : k + 1 < r
      · rw [cut_in hk1] at h2; exact he ⟨h1, h2⟩
      · rw [cut_out (by omega), pun_zero] at h2; cases h2
    simp only [stB, if_neg he] at h
    simp only [stB]
    rw [if_neg he2, e]
    exact h
theorem reach_cut {G : Nat → Int} {r : Nat} {a b : Nat × Nat × Nat} (q : Reach (stB G) a b) (hr : b.1 ≤ r) : Reach (stB (cut G r)) a b := by
  obtain ⟨f, hf⟩ := q
  induction f generalizing a with
  | zero => cases hf; exact Reach.refl _ _
  | succ f ih =>
    obtain ⟨c, h1, h2⟩ := hf
    have := reach_pos ⟨f, h2⟩
    exact Reach.head (stB_cut _ _ h1 (by omega)) (ih h2)
/-- where the whole text stands still a cut behind it does, too -/
theorem stuck_cut {G : Nat → Int} {r k d m : Nat} (h : stB G (k, d, m) = none) (hr : k < r) : stB (cut G r) (k, d, m) = none := by
  have e := cut_in (G := G) hr
  by_cases hl : G k ≤ 32 ∨ G k = 127
  · exact stB_low (by rw [e]; exact hl)
  · by_cases h92 : G k = 92 ∧ punB (G (k + 1)) = true
    · rw [stB_esc h92.1 h92.2] at h; cases h
    · by_cases h40 : G k = 40
      · rw [stB_open h40] at h; cases h
      · by_cases h41 : G k = 41
        · by_cases hd : d = 0
          · subst hd; exact stB_close0 (by rw [e]; exact h41)
          · rw [stB_close h41 hd] at h; cases h
        · rw [stB_one h92 (by omega) (by omega) h40 h41] at h; cases h

/-- WHAT A SCAN OF THE WHOLE CUT AT r SAYS: yes, with depth and deepest; or no: it stands still ahead of r -/
structure Scan (G : Nat → Int) (i r : Nat) (ok : Bool) (d m : Nat) : Prop where
  yes : ok = true → Reach (stB (cut G r)) (i, 0, 0) (r, d, m)
  no : ok = false → d = 0 ∧ m = 0 ∧ ∃ p e q, p < r ∧ Reach (stB (cut G r)) (i, 0, 0) (p, e, q) ∧ stB (cut G r) (p, e, q) = none
theorem Scan.beyond {G : Nat → Int} {i r : Nat} {ok : Bool} {d m : Nat} (h : Scan G i r ok d m) {p e q : Nat} (hr : Reach (stB G) (i, 0, 0) (p, e, q)) (hs : stB G (p, e, q) = none) (hp : p < r) : ok = false := by
  cases ok with
  | false => rfl
  | true =>
    have h1 := h.yes rfl
    have h2 := reach_cut (r := r) hr (by simp; omega)
    have h3 := stuck_cut hs hp
    have h4 := h1.stuck h2 h3
    have := reach_pos h4
    simp only at this
    omega
theorem Scan.just {G : Nat → Int} {i r : Nat} {ok : Bool} {d m : Nat} (h : Scan G i r ok d m) {e q : Nat} (hr : Reach (stB G) (i, 0, 0) (r, e, q)) : ok = true ∧ d = e ∧ m = q := by
  have h2 := reach_cut (r := r) hr (by simp)
  cases ok with
  | false =>
    obtain ⟨_, _, p, e2, q2, h3, h4, h5⟩ := h.no rfl
    have := reach_pos (h2.stuck h4 h5)
    simp only at this
    omega
  | true =>
    have := Reach.pos_eq (fun x => x.1) (stB_up _) (h.yes rfl) h2 rfl
    cases this
    exact ⟨rfl, rfl, rfl⟩
/-- WHAT BOTH ANSWER where no '<' stands -/
def bareAns (i p d m : Nat) : Nat := if d = 0 ∧ m ≤ 32 then p else i

end Go.Proofs.Qxb6604066a.Pl
