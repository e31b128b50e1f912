/-
  The plain notions behind FnPlainEndMatchesModel: no Go in sight.
-/
namespace Go.Proofs.Qxb6601223a

/-- At m stands a '#', a blank ahead of it. -/
def Hs (f : Nat → Int) (m : Nat) : Prop := f m = 35 ∧ 0 < m ∧ f (m - 1) = 32
/-- e is the first such place in [p, n), and b is true; or there is none, e is n and b is false. -/
def Cm (f : Nat → Int) (p n e : Nat) (b : Bool) : Prop :=
  p ≤ e ∧ e ≤ n ∧ (∀ m, p ≤ m → m < e → ¬ Hs f m) ∧ ((b = true ∧ e < n ∧ Hs f e) ∨ (b = false ∧ e = n))
/-- At m stands a ':', behind it a blank or the end n. -/
def Bad (f : Nat → Int) (n m : Nat) : Prop := f m = 58 ∧ (m + 1 = n ∨ f (m + 1) = 32)
/-- q is the first place from i on where c stands; or n. -/
def Fst (f : Nat → Int) (c : Int) (i n q : Nat) : Prop := i ≤ q ∧ q ≤ n ∧ (∀ m, i ≤ m → m < q → ¬ f m = c) ∧ (q = n ∨ f q = c)
/-- t is e less the blanks before it, no further back than p. -/
def Trim (f : Nat → Int) (p e t : Nat) : Prop := p ≤ t ∧ t ≤ e ∧ (∀ m, t ≤ m → m < e → f m = 32) ∧ (t = p ∨ ¬ f (t - 1) = 32)

theorem fst_ex (f : Nat → Int) (c : Int) (n : Nat) : ∀ (d i : Nat), i + d = n → ∃ q, Fst f c i n q := by
  intro d
  induction d with
  | zero => intro i h; exact ⟨i, Nat.le_refl _, by omega, fun m h1 h2 => absurd h2 (by omega), Or.inl (by omega)⟩
  | succ d ih =>
    intro i h
    by_cases hp : f i = c
    · exact ⟨i, Nat.le_refl _, by omega, fun m h1 h2 => absurd h2 (by omega), Or.inr hp⟩
    · obtain ⟨q, h1, h2, h3, h4⟩ := ih (i + 1) (by omega)
      refine ⟨q, by omega, h2, fun m m1 m2 => ?_, h4⟩
      by_cases e : m = i
      · rw [e]; exact hp
      · exact h3 m (by omega) m2
theorem fst_ex' (f : Nat → Int) (c : Int) {i n : Nat} (h : i ≤ n) : ∃ q, Fst f c i n q := fst_ex f c n (n - i) i (by omega)

theorem trim_ex (f : Nat → Int) (p : Nat) : ∀ (d e : Nat), p + d = e → ∃ t, Trim f p e t := by
  intro d
  induction d with
  | zero => intro e h; exact ⟨e, by omega, Nat.le_refl _, fun m h1 h2 => absurd h2 (by omega), Or.inl (by omega)⟩
  | succ d ih =>
    intro e h
    by_cases hp : f (e - 1) = 32
    · obtain ⟨t, h1, h2, h3, h4⟩ := ih (e - 1) (by omega)
      refine ⟨t, h1, by omega, fun m m1 m2 => ?_, h4⟩
      by_cases x : m = e - 1
      · rw [x]; exact hp
      · exact h3 m m1 (by omega)
    · exact ⟨e, by omega, Nat.le_refl _, fun m h1 h2 => absurd h2 (by omega), Or.inr hp⟩
theorem trim_ex' (f : Nat → Int) {p e : Nat} (h : p ≤ e) : ∃ t, Trim f p e t := trim_ex f p (e - p) e (by omega)

theorem cm_end (f : Nat → Int) (n : Nat) : Cm f n n n false := ⟨Nat.le_refl _, Nat.le_refl _, fun m h1 h2 => absurd h2 (by omega), Or.inr ⟨rfl, rfl⟩⟩
theorem cm_hit {f : Nat → Int} {q n : Nat} (h : q < n) (hs : Hs f q) : Cm f q n q true :=
  ⟨Nat.le_refl _, by omega, fun m h1 h2 => absurd h2 (by omega), Or.inl ⟨rfl, h, hs⟩⟩
theorem cm_miss {f : Nat → Int} {q n e : Nat} {b : Bool} (h : Cm f (q + 1) n e b) (hs : ¬ Hs f q) : Cm f q n e b := by
  obtain ⟨h1, h2, h3, h4⟩ := h
  refine ⟨by omega, h2, fun m m1 m2 => ?_, h4⟩
  by_cases x : m = q
  · rw [x]; exact hs
  · exact h3 m (by omega) m2
theorem cm_ex (f : Nat → Int) (n : Nat) : ∀ (d p : Nat), p + d = n → ∃ e b, Cm f p n e b := by
  intro d
  induction d with
  | zero => intro p h; obtain rfl : p = n := by omega
            exact ⟨p, false, cm_end f p⟩
  | succ d ih =>
    intro p h
    by_cases hs : Hs f p
    · exact ⟨p, true, cm_hit (by omega) hs⟩
    · obtain ⟨e, b, h1⟩ := ih (p + 1) (by omega)
      exact ⟨e, b, cm_miss h1 hs⟩
theorem cm_uniq {f : Nat → Int} {p n e e' : Nat} {b b' : Bool} (h : Cm f p n e b) (k : Cm f p n e' b') : e = e' ∧ b = b' := by
  obtain ⟨h1, h2, h3, h4⟩ := h
  obtain ⟨k1, k2, k3, k4⟩ := k
  rcases h4 with ⟨rfl, h5, h6⟩ | ⟨rfl, h5⟩
  · rcases k4 with ⟨rfl, k5, k6⟩ | ⟨rfl, k5⟩
    · refine ⟨?_, rfl⟩
      rcases Nat.lt_trichotomy e e' with x | x | x
      · exact absurd h6 (k3 e h1 x)
      · exact x
      · exact absurd k6 (h3 e' k1 x)
    · exact absurd h6 (k3 e h1 (by omega))
  · rcases k4 with ⟨rfl, k5, k6⟩ | ⟨rfl, k5⟩
    · exact absurd k6 (h3 e' k1 (by omega))
    · exact ⟨by omega, rfl⟩
/-- No '#' with a blank ahead of it in [p, i); none from i to q; none behind: all of [p, n) is free. -/
theorem cm_none {f : Nat → Int} {p n : Nat} (hp : p ≤ n) (h : ∀ m, p ≤ m → m < n → ¬ Hs f m) : Cm f p n n false := ⟨hp, Nat.le_refl _, h, Or.inr ⟨rfl, rfl⟩⟩
theorem cm_first {f : Nat → Int} {p n q : Nat} (hp : p ≤ q) (hq : q < n) (h : ∀ m, p ≤ m → m < q → ¬ Hs f m) (hs : Hs f q) : Cm f p n q true := ⟨hp, by omega, h, Or.inl ⟨rfl, hq, hs⟩⟩
/-- The free stretch grows: up to i, from i to the next '#'. -/
theorem free_to {f : Nat → Int} {p i n q : Nat} (h : ∀ m, p ≤ m → m < i → ¬ Hs f m) (k : Fst f 35 i n q) : ∀ m, p ≤ m → m < q → ¬ Hs f m := by
  intro m m1 m2 hs
  by_cases x : m < i
  · exact h m m1 x hs
  · exact k.2.2.1 m (by omega) m2 hs.1
theorem free_one {f : Nat → Int} {p q : Nat} (h : ∀ m, p ≤ m → m < q → ¬ Hs f m) (hs : ¬ Hs f q) : ∀ m, p ≤ m → m < q + 1 → ¬ Hs f m := by
  intro m m1 m2
  by_cases x : m = q
  · rw [x]; exact hs
  · exact h m m1 (by omega)
theorem good_to {f : Nat → Int} {p i n q N : Nat} (h : ∀ m, p ≤ m → m < i → ¬ Bad f N m) (k : Fst f 58 i n q) : ∀ m, p ≤ m → m < q → ¬ Bad f N m := by
  intro m m1 m2 hs
  by_cases x : m < i
  · exact h m m1 x hs
  · exact k.2.2.1 m (by omega) m2 hs.1
theorem good_one {f : Nat → Int} {p q N : Nat} (h : ∀ m, p ≤ m → m < q → ¬ Bad f N m) (hs : ¬ Bad f N q) : ∀ m, p ≤ m → m < q + 1 → ¬ Bad f N m := by
  intro m m1 m2
  by_cases x : m = q
  · rw [x]; exact hs
  · exact h m m1 (by omega)
end Go.Proofs.Qxb6601223a
