/-
  PLAIN LAWS, no Go in sight: the bytes are a function G from places to numbers.
  'Str G k J': read token by token from k, a string closes just ahead of J. 'Lead G E i d': the bracket scan that stands at i with depth d comes out at E. 'Pass G i j': the scan goes from i to j without a change of depth.
-/
namespace Go.Proofs.Qxb6603065a.Pl

def strf (G : Nat → Int) (J : Nat) : Nat → Nat → Prop
  | 0, _ => False
  | f + 1, k => (G k = 92 ∧ strf G J f (k + 2)) ∨ (G k = 34 ∧ J = k + 1) ∨ (G k ≠ 92 ∧ G k ≠ 34 ∧ strf G J f (k + 1))

def Str (G : Nat → Int) (k J : Nat) : Prop := ∃ f, strf G J f k

theorem Str.esc {G : Nat → Int} {k J : Nat} (h : G k = 92) (s : Str G (k + 2) J) : Str G k J := by
  obtain ⟨f, hf⟩ := s; exact ⟨f + 1, Or.inl ⟨h, hf⟩⟩
theorem Str.close {G : Nat → Int} {k : Nat} (h : G k = 34) : Str G k (k + 1) := ⟨1, Or.inr (Or.inl ⟨h, rfl⟩)⟩
theorem Str.step {G : Nat → Int} {k J : Nat} (h : G k ≠ 92) (h2 : G k ≠ 34) (s : Str G (k + 1) J) : Str G k J := by
  obtain ⟨f, hf⟩ := s; exact ⟨f + 1, Or.inr (Or.inr ⟨h, h2, hf⟩)⟩
theorem Str.esc_inv {G : Nat → Int} {k J : Nat} (h : G k = 92) (s : Str G k J) : Str G (k + 2) J := by
  obtain ⟨f, hf⟩ := s
  cases f with
  | zero => exact hf.elim
  | succ f =>
    rcases hf with ⟨_, hf⟩ | ⟨h2, _⟩ | ⟨h2, _, _⟩
    · exact ⟨f, hf⟩
    · omega
    · omega
theorem Str.close_inv {G : Nat → Int} {k J : Nat} (h : G k = 34) (s : Str G k J) : J = k + 1 := by
  obtain ⟨f, hf⟩ := s
  cases f with
  | zero => exact hf.elim
  | succ f =>
    rcases hf with ⟨h2, _⟩ | ⟨_, h2⟩ | ⟨_, h2, _⟩
    · omega
    · exact h2
    · omega
theorem Str.step_inv {G : Nat → Int} {k J : Nat} (h : G k ≠ 92) (h2 : G k ≠ 34) (s : Str G k J) : Str G (k + 1) J := by
  obtain ⟨f, hf⟩ := s
  cases f with
  | zero => exact hf.elim
  | succ f =>
    rcases hf with ⟨h3, _⟩ | ⟨h3, _⟩ | ⟨_, _, h3⟩
    · omega
    · omega
    · exact ⟨f, h3⟩
theorem Str.lt {G : Nat → Int} {k J : Nat} (s : Str G k J) : k < J ∧ G (J - 1) = 34 := by
  obtain ⟨f, hf⟩ := s
  induction f generalizing k with
  | zero => exact hf.elim
  | succ f ih =>
    rcases hf with ⟨_, h⟩ | ⟨h, h2⟩ | ⟨_, _, h⟩
    · have := ih h; exact ⟨by omega, this.2⟩
    · subst h2; exact ⟨by omega, by simpa using h⟩
    · have := ih h; exact ⟨by omega, this.2⟩

/-- over a stretch without quotes: a place behind a byte that is no backslash is a place where a token begins. -/
theorem Str.along {G : Nat → Int} {j J : Nat} (s : Str G j J) (m : Nat) (hq : ∀ p, j ≤ p → p < j + m → G p ≠ 34) :
    Str G (j + m) J ∨ (G (j + m - 1) = 92 ∧ 1 ≤ m ∧ Str G (j + m + 1) J) := by
  induction m with
  | zero => exact Or.inl s
  | succ m ih =>
    have h1 := hq (j + m) (by omega) (by omega)
    rcases ih (fun p a b => hq p a (by omega)) with h | ⟨_, _, h⟩
    · by_cases h2 : G (j + m) = 92
      · exact Or.inr ⟨by simpa [← Nat.add_assoc] using h2, by omega, Str.esc_inv h2 h⟩
      · exact Or.inl (Str.step_inv h2 h1 h)
    · exact Or.inl h
theorem Str.at_run {G : Nat → Int} {j k J : Nat} (s : Str G j J) (hjk : j ≤ k) (hq : ∀ p, j ≤ p → p < k → G p ≠ 34) (hk : k = j ∨ G (k - 1) ≠ 92) : Str G k J := by
  obtain ⟨m, rfl⟩ : ∃ m, k = j + m := ⟨k - j, by omega⟩
  rcases s.along m hq with h | ⟨h, h1, _⟩
  · exact h
  · rcases hk with hk | hk
    · omega
    · exact (hk h).elim
theorem Str.run {G : Nat → Int} {k J : Nat} (s : Str G k J) (m : Nat) (hb : ∀ p, k ≤ p → p < k + m → G p = 92) :
    (m % 2 = 0 → Str G (k + m) J) ∧ (m % 2 = 1 → Str G (k + m + 1) J) := by
  induction m with
  | zero => exact ⟨fun _ => s, fun h => by omega⟩
  | succ m ih =>
    have h1 := hb (k + m) (by omega) (by omega)
    have ih := ih (fun p a b => hb p a (by omega))
    refine ⟨fun h => ?_, fun h => ?_⟩
    · exact ih.2 (by omega)
    · exact Str.esc_inv h1 (ih.1 (by omega))
/-- the quote at q, the first from j on, with the backslashes [k, q) ahead of it: it closes where they are even in number; else the reading goes on behind it. -/
theorem Str.quote {G : Nat → Int} {j k q J : Nat} (s : Str G j J) (hjk : j ≤ k) (hkq : k ≤ q) (hq : ∀ p, j ≤ p → p < q → G p ≠ 34) (hb : ∀ p, k ≤ p → p < q → G p = 92)
    (hk : k = j ∨ G (k - 1) ≠ 92) (h34 : G q = 34) : ((q - k) % 2 = 0 → J = q + 1) ∧ ((q - k) % 2 = 1 → Str G (q + 1) J) := by
  have s2 := s.at_run hjk (fun p a b => hq p a (by omega)) hk
  have r := s2.run (q - k) (fun p a b => hb p a (by omega))
  rw [show k + (q - k) = q from by omega] at r
  exact ⟨fun h => Str.close_inv h34 (r.1 h), r.2⟩

def lead (G : Nat → Int) (E : Nat) : Nat → Nat → Nat → Prop
  | 0, _, _ => False
  | f + 1, i, d => (G i = 34 ∧ ∃ j, Str G (i + 1) j ∧ lead G E f j d) ∨ ((G i = 123 ∨ G i = 91) ∧ lead G E f (i + 1) (d + 1)) ∨
      ((G i = 125 ∨ G i = 93) ∧ ((d = 1 ∧ E = i + 1) ∨ (2 ≤ d ∧ lead G E f (i + 1) (d - 1)))) ∨
      (G i ≠ 34 ∧ G i ≠ 123 ∧ G i ≠ 91 ∧ G i ≠ 125 ∧ G i ≠ 93 ∧ 1 ≤ d ∧ lead G E f (i + 1) d)

def Lead (G : Nat → Int) (E i d : Nat) : Prop := ∃ f, lead G E f i d

theorem Lead.str {G : Nat → Int} {E i j d : Nat} (h : G i = 34) (s : Str G (i + 1) j) (l : Lead G E j d) : Lead G E i d := by
  obtain ⟨f, hf⟩ := l; exact ⟨f + 1, Or.inl ⟨h, j, s, hf⟩⟩
theorem Lead.into {G : Nat → Int} {E i d : Nat} (h : G i = 123 ∨ G i = 91) (l : Lead G E (i + 1) (d + 1)) : Lead G E i d := by
  obtain ⟨f, hf⟩ := l; exact ⟨f + 1, Or.inr (Or.inl ⟨h, hf⟩)⟩
theorem Lead.done {G : Nat → Int} {i : Nat} (h : G i = 125 ∨ G i = 93) : Lead G (i + 1) i 1 := ⟨1, Or.inr (Or.inr (Or.inl ⟨h, Or.inl ⟨rfl, rfl⟩⟩))⟩
theorem Lead.out {G : Nat → Int} {E i d : Nat} (h : G i = 125 ∨ G i = 93) (hd : 1 ≤ d) (l : Lead G E (i + 1) d) : Lead G E i (d + 1) := by
  obtain ⟨f, hf⟩ := l; exact ⟨f + 1, Or.inr (Or.inr (Or.inl ⟨h, Or.inr ⟨by omega, by simpa using hf⟩⟩))⟩
theorem Lead.plain {G : Nat → Int} {E i d : Nat} (h1 : G i ≠ 34) (h2 : G i ≠ 123) (h3 : G i ≠ 91) (h4 : G i ≠ 125) (h5 : G i ≠ 93) (hd : 1 ≤ d) (l : Lead G E (i + 1) d) : Lead G E i d := by
  obtain ⟨f, hf⟩ := l; exact ⟨f + 1, Or.inr (Or.inr (Or.inr ⟨h1, h2, h3, h4, h5, hd, hf⟩))⟩

theorem Lead.str_inv {G : Nat → Int} {E i d : Nat} (h : G i = 34) (l : Lead G E i d) : ∃ j, Str G (i + 1) j ∧ Lead G E j d := by
  obtain ⟨f, hf⟩ := l
  cases f with
  | zero => exact hf.elim
  | succ f =>
    rcases hf with ⟨_, j, s, hf⟩ | ⟨h2, _⟩ | ⟨h2, _⟩ | ⟨h2, _⟩
    · exact ⟨j, s, f, hf⟩
    · omega
    · omega
    · omega
theorem Lead.into_inv {G : Nat → Int} {E i d : Nat} (h : G i = 123 ∨ G i = 91) (l : Lead G E i d) : Lead G E (i + 1) (d + 1) := by
  obtain ⟨f, hf⟩ := l
  cases f with
  | zero => exact hf.elim
  | succ f =>
    rcases hf with ⟨h2, _⟩ | ⟨_, h2⟩ | ⟨h2, _⟩ | ⟨h1, h2, h3, _⟩
    · omega
    · exact ⟨f, h2⟩
    · omega
    · omega
theorem Lead.out_inv {G : Nat → Int} {E i d : Nat} (h : G i = 125 ∨ G i = 93) (l : Lead G E i d) : (d = 1 ∧ E = i + 1) ∨ (2 ≤ d ∧ Lead G E (i + 1) (d - 1)) := by
  obtain ⟨f, hf⟩ := l
  cases f with
  | zero => exact hf.elim
  | succ f =>
    rcases hf with ⟨h2, _⟩ | ⟨h2, _⟩ | ⟨_, h2⟩ | ⟨h1, h2, h3, h4, h5, _⟩
    · omega
    · omega
    · rcases h2 with h2 | ⟨h2, h3⟩
      · exact Or.inl h2
      · exact Or.inr ⟨h2, f, h3⟩
    · omega
theorem Lead.plain_inv {G : Nat → Int} {E i d : Nat} (h1 : G i ≠ 34) (h2 : G i ≠ 123) (h3 : G i ≠ 91) (h4 : G i ≠ 125) (h5 : G i ≠ 93) (l : Lead G E i d) : 1 ≤ d ∧ Lead G E (i + 1) d := by
  obtain ⟨f, hf⟩ := l
  cases f with
  | zero => exact hf.elim
  | succ f =>
    rcases hf with ⟨h, _⟩ | ⟨h, _⟩ | ⟨h, _⟩ | ⟨_, _, _, _, _, h, h6⟩
    · omega
    · omega
    · omega
    · exact ⟨h, f, h6⟩
theorem Lead.lt {G : Nat → Int} {E i d : Nat} (l : Lead G E i d) : i < E := by
  obtain ⟨f, hf⟩ := l
  induction f generalizing i d with
  | zero => exact hf.elim
  | succ f ih =>
    rcases hf with ⟨_, j, s, h⟩ | ⟨_, h⟩ | ⟨_, h⟩ | ⟨_, _, _, _, _, _, h⟩
    · have := ih h; have := s.lt; omega
    · have := ih h; omega
    · rcases h with ⟨_, h⟩ | ⟨_, h⟩
      · omega
      · have := ih h; omega
    · have := ih h; omega

def Pass (G : Nat → Int) (i j : Nat) : Prop := ∀ E d, 1 ≤ d → Lead G E j d → Lead G E i d

theorem Pass.refl (G : Nat → Int) (i : Nat) : Pass G i i := fun _ _ _ l => l
theorem Pass.trans {G : Nat → Int} {i j k : Nat} (a : Pass G i j) (b : Pass G j k) : Pass G i k := fun E d hd l => a E d hd (b E d hd l)
theorem Pass.one {G : Nat → Int} {i : Nat} (h1 : G i ≠ 34) (h2 : G i ≠ 123) (h3 : G i ≠ 91) (h4 : G i ≠ 125) (h5 : G i ≠ 93) : Pass G i (i + 1) := fun _ _ hd l => Lead.plain h1 h2 h3 h4 h5 hd l
theorem Pass.str {G : Nat → Int} {i j : Nat} (h : G i = 34) (s : Str G (i + 1) j) : Pass G i j := fun _ _ _ l => Lead.str h s l
theorem Pass.brackets {G : Nat → Int} {i k : Nat} (h : G i = 123 ∨ G i = 91) (p : Pass G (i + 1) k) (h2 : G k = 125 ∨ G k = 93) : Pass G i (k + 1) :=
  fun E d hd l => Lead.into h (p E (d + 1) (by omega) (Lead.out h2 hd l))
theorem Lead.top {G : Nat → Int} {i k : Nat} (h : G i = 123 ∨ G i = 91) (p : Pass G (i + 1) k) (h2 : G k = 125 ∨ G k = 93) : Lead G (k + 1) i 0 :=
  Lead.into h (p (k + 1) 1 (by omega) (Lead.done h2))

/-- a byte of a number or of a literal: no quote, no bracket, none of what may stand behind a value. -/
def Nod (c : Int) : Prop := c ≠ 34 ∧ c ≠ 123 ∧ c ≠ 91 ∧ c ≠ 125 ∧ c ≠ 93 ∧ c ≠ 44 ∧ c ≠ 32 ∧ c ≠ 9 ∧ c ≠ 10 ∧ c ≠ 13

def Nods (G : Nat → Int) (i e : Nat) : Prop := ∀ p, i ≤ p → p < e → Nod (G p)
theorem Nods.none (G : Nat → Int) (i : Nat) : Nods G i i := fun p a b => by omega
theorem Nods.snoc {G : Nat → Int} {i e : Nat} (h : Nods G i e) (h2 : Nod (G e)) : Nods G i (e + 1) := fun p a b => by
  by_cases hp : p = e
  · subst hp; exact h2
  · exact h p a (by omega)
theorem Nods.pass {G : Nat → Int} {i e : Nat} (hie : i ≤ e) (h : Nods G i e) : Pass G i e := by
  obtain ⟨m, rfl⟩ : ∃ m, e = i + m := ⟨e - i, by omega⟩
  induction m with
  | zero => exact Pass.refl G i
  | succ m ih =>
    have a := ih (by omega) (fun p a b => h p a (by omega))
    obtain ⟨h1, h2, h3, h4, h5, _⟩ := h (i + m) (by omega) (by omega)
    exact a.trans (Pass.one h1 h2 h3 h4 h5)

/-- WHAT THE RECOGNISER's YES SAYS: the value at i ends at e. -/
structure Val (G : Nat → Int) (i e : Nat) : Prop where
  pos : i < e
  pass : Pass G i e
  str : G i = 34 → Str G (i + 1) e
  deep : G i = 123 ∨ G i = 91 → Lead G e i 0
  flat : G i ≠ 34 → G i ≠ 123 → G i ≠ 91 → Nods G i e

theorem Val.of_str {G : Nat → Int} {i e : Nat} (h : G i = 34) (s : Str G (i + 1) e) : Val G i e :=
  ⟨by have := s.lt; omega, Pass.str h s, fun _ => s, fun h2 => by omega, fun h2 => (h2 h).elim⟩
theorem Val.of_brackets {G : Nat → Int} {i k : Nat} (h : G i = 123 ∨ G i = 91) (hik : i < k) (p : Pass G (i + 1) k) (h2 : G k = 125 ∨ G k = 93) : Val G i (k + 1) :=
  ⟨by omega, Pass.brackets h p h2, fun h3 => by omega, fun _ => Lead.top h p h2, fun _ h4 h5 => by omega⟩
theorem Val.of_nods {G : Nat → Int} {i e : Nat} (hie : i < e) (h : Nods G i e) : Val G i e := by
  obtain ⟨h1, h2, h3, _⟩ := h i (by omega) hie
  exact ⟨hie, h.pass (by omega), fun h4 => (h1 h4).elim, fun h4 => by omega, fun _ _ _ => h⟩

def wsB (c : Int) : Bool := c == 32 || c == 9 || c == 10 || c == 13
def delB (c : Int) : Bool := c == 44 || c == 125 || c == 93 || c == 32 || c == 9 || c == 10 || c == 13
def digB (c : Int) : Bool := decide (48 ≤ c) && decide (c ≤ 57)
theorem ws_iff (c : Int) : wsB c = true ↔ c = 32 ∨ c = 9 ∨ c = 10 ∨ c = 13 := by simp [wsB, or_assoc]
theorem del_iff (c : Int) : delB c = true ↔ c = 44 ∨ c = 125 ∨ c = 93 ∨ c = 32 ∨ c = 9 ∨ c = 10 ∨ c = 13 := by simp [delB, or_assoc]
theorem dig_iff (c : Int) : digB c = true ↔ 48 ≤ c ∧ c ≤ 57 := by simp [digB]
theorem ws_pass {G : Nat → Int} {i : Nat} (h : wsB (G i) = true) : Pass G i (i + 1) := by
  rw [ws_iff] at h
  exact Pass.one (by omega) (by omega) (by omega) (by omega) (by omega)
theorem dig_nod {c : Int} (h : digB c = true) : Nod c := by
  rw [dig_iff] at h
  unfold Nod; omega
theorem nod_del {c : Int} (h : Nod c) : delB c = false := by
  unfold Nod at h
  rw [← Bool.not_eq_true, del_iff]
  omega

/-- WHAT valueEnd NEEDS: the value at i ends at e, in a row that ends at n. -/
structure Ends (G : Nat → Int) (i e n : Nat) : Prop where
  le : e ≤ n
  pos : i < e
  str : G i = 34 → Str G (i + 1) e
  deep : G i = 123 ∨ G i = 91 → Lead G e i 0
  flat : G i ≠ 34 → G i ≠ 123 → G i ≠ 91 → (∀ p, i ≤ p → p < e → delB (G p) = false) ∧ (e < n → delB (G e) = true)
theorem Val.ends {G : Nat → Int} {i e n : Nat} (v : Val G i e) (hn : e ≤ n) (hd : G i ≠ 34 → G i ≠ 123 → G i ≠ 91 → e < n → delB (G e) = true) : Ends G i e n :=
  ⟨hn, v.pos, v.str, v.deep, fun a b c => ⟨fun p h1 h2 => nod_del (v.flat a b c p h1 h2), hd a b c⟩⟩
theorem Val.alone {G : Nat → Int} {i e : Nat} (v : Val G i e) : Ends G i e e := v.ends (Nat.le_refl _) (fun _ _ _ h => by omega)

end Go.Proofs.Qxb6603065a.Pl
