/-
  The plain notions behind FnExpressionTokensSplitAtSeparator: tokens of a list of bytes. No Go in sight.
-/
namespace Go.Proofs.Qxb6608866a
set_option linter.unusedVariables false

/-- White space. -/
def wh (b : UInt8) : Bool := b == 32 || b == 9 || b == 10 || b == 13
/-- A parenthesis. -/
def pr (b : UInt8) : Bool := b == 40 || b == 41
/-- What has been gathered, as a token, if anything has. -/
def flush (cur : List UInt8) : List (List UInt8) := if cur.isEmpty = true then [] else [cur]
/-- The token that a parenthesis is by itself. -/
def mid (b : UInt8) : List (List UInt8) := if pr b = true then [[b]] else []
/-- The tokens, 'cur' gathered so far. -/
def tok : List UInt8 → List UInt8 → List (List UInt8)
  | [], cur => flush cur
  | b :: l, cur => if (wh b || pr b) = true then flush cur ++ (mid b ++ tok l []) else tok l (cur ++ [b])

theorem tok_split (s : UInt8) (hs : (wh s || pr s) = true) (m : List UInt8) : ∀ (a cur : List UInt8), tok (a ++ s :: m) cur = tok a cur ++ (mid s ++ tok m [])
  | [], cur => by
    have e : tok (s :: m) cur = flush cur ++ (mid s ++ tok m []) := by rw [tok, if_pos hs]
    exact e
  | b :: a, cur => by
    rw [List.cons_append, tok, tok]
    by_cases h : (wh b || pr b) = true
    · rw [if_pos h, if_pos h, tok_split s hs m a []]
      simp only [List.append_assoc]
    · rw [if_neg h, if_neg h, tok_split s hs m a (cur ++ [b])]
theorem flush_flat (cur : List UInt8) : (flush cur).flatten = cur := by
  unfold flush
  split
  · rename_i h
    simp at h
    simp [h]
  · simp
theorem pr_wh {b : UInt8} (h : pr b = true) : wh b = false := by
  unfold pr at h
  simp at h
  rcases h with rfl | rfl <;> decide
/-- The tokens laid end to end: the bytes that are no white space. -/
theorem tok_flat : ∀ (a cur : List UInt8), (tok a cur).flatten = cur ++ a.filter (fun b => !wh b)
  | [], cur => by rw [tok, flush_flat]; simp
  | b :: a, cur => by
    rw [tok]
    by_cases h : (wh b || pr b) = true
    · rw [if_pos h, List.flatten_append, List.flatten_append, flush_flat, tok_flat a []]
      unfold mid
      by_cases hp : pr b = true
      · have hw := pr_wh hp
        simp [hp, hw]
      · have hw : wh b = true := by simpa [hp] using h
        simp [hp, hw]
    · rw [if_neg h, tok_flat a (cur ++ [b])]
      have hw : wh b = false := by
        cases hw : wh b with
        | false => rfl
        | true => simp [hw] at h
      simp [hw]
/-- A run of bytes that separate nothing. -/
theorem tok_run : ∀ (l m cur : List UInt8), (∀ b ∈ l, (wh b || pr b) = false) → tok (l ++ m) cur = tok m (cur ++ l)
  | [], m, cur, _ => by simp
  | b :: l, m, cur, h => by
    have hb := h b (by simp)
    rw [List.cons_append, tok, if_neg (by rw [hb]; exact Bool.false_ne_true), tok_run l m (cur ++ [b]) (fun x hx => h x (by simp [hx]))]
    simp
theorem tok_sep {b : UInt8} {l cur : List UInt8} (h : (wh b || pr b) = true) : tok (b :: l) cur = flush cur ++ (mid b ++ tok l []) := by rw [tok, if_pos h]
theorem high_none {b : UInt8} (h : 128 ≤ b.toNat) : (wh b || pr b) = false := by
  cases hh : (wh b || pr b) with
  | false => rfl
  | true =>
    unfold wh pr at hh
    simp at hh
    rcases hh with (((h' | h') | h') | h') | (h' | h') <;> (rw [h'] at h; simp at h)
end Go.Proofs.Qxb6608866a
