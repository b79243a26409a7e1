/-
  PLAIN LAWS for an HTML attribute, no Go in sight.
-/
namespace Go.Proofs.Qxb6604066a.Pa

def letB (c : Int) : Bool := (decide (97 ≤ c) && decide (c ≤ 122)) || (decide (65 ≤ c) && decide (c ≤ 90))
def digB (c : Int) : Bool := decide (48 ≤ c) && decide (c ≤ 57)
def nameB (c : Int) : Bool := letB c || digB c || c == 95 || c == 46 || c == 58 || c == 45
def startB (c : Int) : Bool := letB c || c == 95 || c == 58
def wsB (c : Int) : Bool := c == 32 || c == 9 || c == 13 || c == 10
def unqB (c : Int) : Bool := !(c == 32 || c == 9 || c == 13 || c == 10 || c == 34 || c == 39 || c == 61 || c == 60 || c == 62 || c == 96)
def notB (q c : Int) : Bool := c != q

/-- the bytes from a up to b are P, and b is the text's end or no P stands there -/
structure Runs (P : Int → Bool) (G : Nat → Int) (n a b : Nat) : Prop where
  le : a ≤ b
  lim : b ≤ n
  all : ∀ k, a ≤ k → k < b → P (G k) = true
  stop : b < n → P (G b) = false
theorem Runs.yes {P : Int → Bool} {G : Nat → Int} {n a b k : Nat} (h : Runs P G n a b) (hk : k < n) (hkb : k ≤ b) (hp : P (G k) = true) : k < b := by
  by_cases e : k = b
  · subst e; rw [h.stop hk] at hp; cases hp
  · omega
theorem Runs.no {P : Int → Bool} {G : Nat → Int} {n a b k : Nat} (h : Runs P G n a b) (ha : a ≤ k) (hkb : k ≤ b) (hp : P (G k) = false) : k = b := by
  by_cases e : k = b
  · exact e
  · rw [h.all k ha (by omega)] at hp; cases hp
theorem Runs.ex (P : Int → Bool) (G : Nat → Int) (n : Nat) (f : Nat) : ∀ a, a ≤ n → n ≤ a + f → ∃ b, Runs P G n a b := by
  induction f with
  | zero => intro a h1 h2; exact ⟨a, Nat.le_refl _, h1, fun k h3 h4 => by omega, fun h => by omega⟩
  | succ f ih =>
    intro a h1 h2
    by_cases hlt : a < n
    · cases hp : P (G a) with
      | false => exact ⟨a, Nat.le_refl _, h1, fun k h3 h4 => by omega, fun _ => hp⟩
      | true =>
        obtain ⟨b, hb⟩ := ih (a + 1) hlt (by omega)
        refine ⟨b, by have := hb.le; omega, hb.lim, fun k h3 h4 => ?_, hb.stop⟩
        by_cases e : k = a
        · subst e; exact hp
        · exact hb.all k (by omega) h4
    · exact ⟨a, Nat.le_refl _, h1, fun k h3 h4 => by omega, fun h => by omega⟩

/-- the marks of the attribute that begins at i: the name's end, the first byte behind the spaces, the value's first byte, the closing quote, the end of an unquoted run -/
structure Marks (G : Nat → Int) (n i E Q V C U : Nat) : Prop where
  hE : Runs nameB G n (i + 1) E
  hQ : Runs wsB G n E Q
  hV : Q < n → Runs wsB G n (Q + 1) V
  hC : Q < n → V < n → Runs (notB (G V)) G n (V + 1) C
  hU : Q < n → V < n → Runs unqB G n V U
theorem Marks.ex (G : Nat → Int) (n i : Nat) (hi : i < n) : ∃ E Q V C U, Marks G n i E Q V C U := by
  obtain ⟨E, hE⟩ := Runs.ex nameB G n n (i + 1) hi (by omega)
  obtain ⟨Q, hQ⟩ := Runs.ex wsB G n n E hE.lim (by omega)
  by_cases h : Q < n
  · obtain ⟨V, hV⟩ := Runs.ex wsB G n n (Q + 1) h (by omega)
    by_cases h2 : V < n
    · obtain ⟨C, hC⟩ := Runs.ex (notB (G V)) G n n (V + 1) h2 (by omega)
      obtain ⟨U, hU⟩ := Runs.ex unqB G n n V hV.lim (by omega)
      exact ⟨E, Q, V, C, U, hE, hQ, fun _ => hV, fun _ _ => hC, fun _ _ => hU⟩
    · exact ⟨E, Q, V, 0, 0, hE, hQ, fun _ => hV, fun _ h3 => (h2 h3).elim, fun _ h3 => (h2 h3).elim⟩
  · exact ⟨E, Q, 0, 0, 0, hE, hQ, fun h2 => (h h2).elim, fun h2 => (h h2).elim, fun h2 => (h h2).elim⟩

/-- WHAT BOTH ANSWER -/
def ans (G : Nat → Int) (n i E Q V C U : Nat) : Nat :=
  if Q < n ∧ G Q = 61 then
    if V < n then
      if G V = 34 ∨ G V = 39 then (if C < n then C + 1 else i) else if U = V then i else U
    else i
  else E
theorem ans_name {G : Nat → Int} {n i E Q V C U : Nat} (h : ¬ (Q < n ∧ G Q = 61)) : ans G n i E Q V C U = E := by rw [ans, if_neg h]
theorem ans_bare {G : Nat → Int} {n i E Q V C U : Nat} (h1 : Q < n) (h2 : G Q = 61) (h : ¬ V < n) : ans G n i E Q V C U = i := by rw [ans, if_pos ⟨h1, h2⟩, if_neg h]
theorem ans_quote {G : Nat → Int} {n i E Q V C U : Nat} (h1 : Q < n) (h2 : G Q = 61) (h3 : V < n) (h4 : G V = 34 ∨ G V = 39) (h5 : C < n) : ans G n i E Q V C U = C + 1 := by rw [ans, if_pos ⟨h1, h2⟩, if_pos h3, if_pos h4, if_pos h5]
theorem ans_open {G : Nat → Int} {n i E Q V C U : Nat} (h1 : Q < n) (h2 : G Q = 61) (h3 : V < n) (h4 : G V = 34 ∨ G V = 39) (h5 : ¬ C < n) : ans G n i E Q V C U = i := by rw [ans, if_pos ⟨h1, h2⟩, if_pos h3, if_pos h4, if_neg h5]
theorem ans_none {G : Nat → Int} {n i E Q V C U : Nat} (h1 : Q < n) (h2 : G Q = 61) (h3 : V < n) (h4 : ¬ (G V = 34 ∨ G V = 39)) (h5 : U = V) : ans G n i E Q V C U = i := by rw [ans, if_pos ⟨h1, h2⟩, if_pos h3, if_neg h4, if_pos h5]
theorem ans_unq {G : Nat → Int} {n i E Q V C U : Nat} (h1 : Q < n) (h2 : G Q = 61) (h3 : V < n) (h4 : ¬ (G V = 34 ∨ G V = 39)) (h5 : U ≠ V) : ans G n i E Q V C U = U := by rw [ans, if_pos ⟨h1, h2⟩, if_pos h3, if_neg h4, if_neg h5]

end Go.Proofs.Qxb6604066a.Pa
