/-
  The plain law behind FnSkipToken68MatchesSegmentModel: no Go in sight. Runs of bytes upward and downward, and why reading a segment from either end comes to the same cut.
-/
namespace Go.Proofs.Qxb6600049a

/-- A blank or a tab. -/
def spB (c : Int) : Bool := decide (c = 32 ∨ c = 9)
/-- A byte of a token68 ahead of its equals signs. -/
def tokB (c : Int) : Bool := decide ((97 ≤ c ∧ c ≤ 122) ∨ (65 ≤ c ∧ c ≤ 90) ∨ (48 ≤ c ∧ c ≤ 57) ∨ c = 45 ∨ c = 46 ∨ c = 95 ∨ c = 126 ∨ c = 43 ∨ c = 47)
/-- An equals sign. -/
def eqB (c : Int) : Bool := decide (c = 61)
/-- No comma. -/
def ncB (c : Int) : Bool := decide (c ≠ 44)

/-- The byte at k. -/
def at_ (s : ByteArray) (k : Nat) : Int := if h : k < s.size then (s[k].toNat : Int) else 0
/-- A step under the right arm of an 'or'. -/
theorem orR {p q r : Prop} (h : p ∨ q) (k : q → r) : p ∨ r := by
  rcases h with h | h
  · exact Or.inl h
  · exact Or.inr (k h)
theorem at_lt {s : ByteArray} {k : Nat} (h : k < s.size) : at_ s k = (s[k].toNat : Int) := dif_pos h

/-- b is where the run of P's upward from a ends. -/
def Up (f : Nat → Int) (P : Int → Bool) (n a b : Nat) : Prop :=
  a ≤ b ∧ b ≤ n ∧ (∀ m, a ≤ m → m < b → P (f m) = true) ∧ (b = n ∨ P (f b) = false)
/-- b is where the run of P's downward from a ends, no further back than i. -/
def Dn (f : Nat → Int) (P : Int → Bool) (i a b : Nat) : Prop :=
  i ≤ b ∧ b ≤ a ∧ (∀ m, b ≤ m → m < a → P (f m) = true) ∧ (b = i ∨ P (f (b - 1)) = false)

theorem up_ex (f : Nat → Int) (P : Int → Bool) (n : Nat) : ∀ (d a : Nat), a + d = n → ∃ b, Up f P n a b := by
  intro d
  induction d with
  | zero => intro a h; exact ⟨a, Nat.le_refl _, by omega, fun m h1 h2 => absurd h2 (by omega), Or.inl (by omega)⟩
  | succ d ih =>
    intro a h
    cases hp : P (f a) with
    | false => exact ⟨a, Nat.le_refl _, by omega, fun m h1 h2 => absurd h2 (by omega), Or.inr hp⟩
    | true =>
      obtain ⟨b, h1, h2, h3, h4⟩ := ih (a + 1) (by omega)
      refine ⟨b, by omega, h2, fun m m1 m2 => ?_, h4⟩
      by_cases e : m = a
      · rw [e]; exact hp
      · exact h3 m (by omega) m2

theorem up_ex' (f : Nat → Int) (P : Int → Bool) {n a : Nat} (h : a ≤ n) : ∃ b, Up f P n a b := up_ex f P n (n - a) a (by omega)

theorem up_uniq {f : Nat → Int} {P : Int → Bool} {n a b c : Nat} (h : Up f P n a b) (k : Up f P n a c) : b = c := by
  obtain ⟨h1, h2, h3, h4⟩ := h
  obtain ⟨k1, k2, k3, k4⟩ := k
  rcases Nat.lt_trichotomy b c with e | e | e
  · have := k3 b h1 e
    rcases h4 with h4 | h4
    · omega
    · rw [h4] at this; cases this
  · exact e
  · have := h3 c k1 e
    rcases k4 with k4 | k4
    · omega
    · rw [k4] at this; cases this

theorem dn_uniq {f : Nat → Int} {P : Int → Bool} {i a b c : Nat} (h : Dn f P i a b) (k : Dn f P i a c) : b = c := by
  obtain ⟨h1, h2, h3, h4⟩ := h
  obtain ⟨k1, k2, k3, k4⟩ := k
  rcases Nat.lt_trichotomy b c with e | e | e
  · have := h3 (c - 1) (by omega) (by omega)
    rcases k4 with k4 | k4
    · omega
    · rw [k4] at this; cases this
  · exact e
  · have := k3 (b - 1) (by omega) (by omega)
    rcases h4 with h4 | h4
    · omega
    · rw [h4] at this; cases this

theorem sp_tok {c : Int} (h : spB c = true) : tokB c = false := by
  simp only [spB, tokB, decide_eq_true_eq, decide_eq_false_iff_not] at *; omega
theorem sp_eq {c : Int} (h : spB c = true) : eqB c = false := by
  simp only [spB, eqB, decide_eq_true_eq, decide_eq_false_iff_not] at *; omega
theorem sp_nc {c : Int} (h : spB c = true) : ncB c = true := by
  simp only [spB, ncB, decide_eq_true_eq] at *; omega
theorem tok_sp {c : Int} (h : tokB c = true) : spB c = false := by
  simp only [spB, tokB, decide_eq_true_eq, decide_eq_false_iff_not] at *; omega
theorem tok_eq {c : Int} (h : tokB c = true) : eqB c = false := by
  simp only [eqB, tokB, decide_eq_true_eq, decide_eq_false_iff_not] at *; omega
theorem tok_nc {c : Int} (h : tokB c = true) : ncB c = true := by
  simp only [ncB, tokB, decide_eq_true_eq] at *; omega
theorem eq_sp {c : Int} (h : eqB c = true) : spB c = false := by
  simp only [spB, eqB, decide_eq_true_eq, decide_eq_false_iff_not] at *; omega
theorem eq_tok {c : Int} (h : eqB c = true) : tokB c = false := by
  simp only [tokB, eqB, decide_eq_true_eq, decide_eq_false_iff_not] at *; omega
theorem eq_nc {c : Int} (h : eqB c = true) : ncB c = true := by
  simp only [ncB, eqB, decide_eq_true_eq] at *; omega
theorem nc_f {c : Int} (h : ncB c = false) : c = 44 := by
  simpa only [ncB, decide_eq_false_iff_not, Decidable.not_not] using h
theorem c44 {c : Int} (h : c = 44) : ncB c = false ∧ spB c = false ∧ tokB c = false ∧ eqB c = false := by subst h; decide

/-- THE PLAIN LAW: forward passes just where backward passes, and stops at the segment's end. -/
theorem plain {f : Nat → Int} {n i e j1 j2 j3 j4 r1 r2 r3 r4 : Nat}
    (he : Up f ncB n i e) (h1 : Dn f spB i e j1) (h2 : Dn f eqB i j1 j2) (h3 : Dn f tokB i j2 j3) (h4 : Dn f spB i j3 j4)
    (k1 : Up f spB n i r1) (k2 : Up f tokB n r1 r2) (k3 : Up f eqB n r2 r3) (k4 : Up f spB n r3 r4) :
    ((j3 < j2 ∧ j4 = i ∧ j4 < j3) ↔ (i < r1 ∧ r1 < r2 ∧ (r4 = n ∨ f r4 = 44))) ∧ ((i < r1 ∧ r1 < r2 ∧ (r4 = n ∨ f r4 = 44)) → r4 = e) := by
  have fwd : (i < r1 ∧ r1 < r2 ∧ (r4 = n ∨ f r4 = 44)) → r4 = e ∧ j3 < j2 ∧ j4 = i ∧ j4 < j3 := by
    rintro ⟨a1, a2, a3⟩
    obtain ⟨b1, b2, b3, b4⟩ := k1
    obtain ⟨c1, c2, c3, c4⟩ := k2
    obtain ⟨d1, d2, d3, d4⟩ := k3
    obtain ⟨e1, e2, e3, e4⟩ := k4
    have hr : r4 = e := by
      refine up_uniq (f := f) (P := ncB) (n := n) (a := i) ⟨by omega, e2, fun m m1 m2 => ?_, orR a3 fun x => (c44 x).1⟩ he
      by_cases x1 : m < r1
      · exact sp_nc (b3 m m1 x1)
      by_cases x2 : m < r2
      · exact tok_nc (c3 m (by omega) x2)
      by_cases x3 : m < r3
      · exact eq_nc (d3 m (by omega) x3)
      · exact sp_nc (e3 m (by omega) m2)
    subst hr
    have g1 : r3 = j1 := by
      refine dn_uniq (f := f) (P := spB) (i := i) (a := r4) ⟨by omega, e1, e3, Or.inr ?_⟩ h1
      by_cases x : r2 < r3
      · exact eq_sp (d3 (r3 - 1) (by omega) (by omega))
      · exact tok_sp (c3 (r3 - 1) (by omega) (by omega))
    subst g1
    have g2 : r2 = j2 := dn_uniq (f := f) (P := eqB) (i := i) (a := r3) ⟨by omega, d1, d3, Or.inr (tok_eq (c3 (r2 - 1) (by omega) (by omega)))⟩ h2
    subst g2
    have g3 : r1 = j3 := dn_uniq (f := f) (P := tokB) (i := i) (a := r2) ⟨by omega, c1, c3, Or.inr (sp_tok (b3 (r1 - 1) (by omega) (by omega)))⟩ h3
    subst g3
    have g4 : i = j4 := dn_uniq (f := f) (P := spB) (i := i) (a := r1) ⟨Nat.le_refl _, b1, b3, Or.inl rfl⟩ h4
    subst g4
    exact ⟨rfl, a2, rfl, a1⟩
  refine ⟨⟨?_, fun h => (fwd h).2⟩, fun h => (fwd h).1⟩
  rintro ⟨a1, a2, a3⟩
  obtain ⟨z1, z2, z3, z4⟩ := he
  obtain ⟨b1, b2, b3, b4⟩ := h1
  obtain ⟨c1, c2, c3, c4⟩ := h2
  obtain ⟨d1, d2, d3, d4⟩ := h3
  obtain ⟨e1, e2, e3, e4⟩ := h4
  subst a2
  have q : e = n ∨ (ncB (f e) = false ∧ spB (f e) = false ∧ tokB (f e) = false ∧ eqB (f e) = false) := orR z4 fun x => c44 (nc_f x)
  have g1 : j3 = r1 := up_uniq (f := f) (P := spB) (n := n) (a := j4) ⟨e2, by omega, e3, Or.inr (tok_sp (d3 j3 (Nat.le_refl _) a1))⟩ k1
  subst g1
  have g2 : j2 = r2 := by
    refine up_uniq (f := f) (P := tokB) (n := n) (a := j3) ⟨d2, by omega, d3, ?_⟩ k2
    by_cases x : j2 < j1
    · exact Or.inr (eq_tok (c3 j2 (Nat.le_refl _) x))
    · have x' : j2 = j1 := by omega
      by_cases y : j1 < e
      · rw [x']; exact Or.inr (sp_tok (b3 j1 (Nat.le_refl _) y))
      · have y' : j2 = e := by omega
        rw [y']; exact orR q fun x => x.2.2.1
  subst g2
  have g3 : j1 = r3 := by
    refine up_uniq (f := f) (P := eqB) (n := n) (a := j2) ⟨c2, by omega, c3, ?_⟩ k3
    by_cases y : j1 < e
    · exact Or.inr (sp_eq (b3 j1 (Nat.le_refl _) y))
    · have y' : j1 = e := by omega
      rw [y']; exact orR q fun x => x.2.2.2
  subst g3
  have g4 : e = r4 := up_uniq (f := f) (P := spB) (n := n) (a := j1) ⟨b2, z2, b3, orR q fun x => x.2.1⟩ k4
  subst g4
  exact ⟨a3, a1, orR z4 nc_f⟩
end Go.Proofs.Qxb6600049a
