import Derived.Test.Qxb6608866aCont
import Derived.Deep.AppendLies
namespace Go.Proofs.Qxb6608866a
open Go.RowKit
set_option linter.unusedVariables false

/-- The strings as cells. -/
def strs (acc : List ByteArray) : List Value := acc.map Value.string
/-- The loop's memory: the iterator over T at block K stands at pos; the slice at ao holds the strings acc; below K all is as in w0. -/
structure TS (w0 w : World) (K : Nat) (T : ByteArray) (pos : Nat) (ao : Option Addr) (c : Nat) (acc : List ByteArray) : Prop where
  iter : w.heap[K]? = some (.stringIter T pos)
  owns : w.ownsRow (K + 1) 9 1 (.slice ao acc.length c) acc.length (strs acc)
  below : Below K w0 w

theorem TS.lt {w0 w : World} {K : Nat} {T : ByteArray} {pos : Nat} {ao : Option Addr} {c : Nat} {acc : List ByteArray} (h : TS w0 w K T pos ao c acc) : K < w.heap.size := (Array.getElem?_eq_some_iff.1 h.iter).1

theorem owns_blocks {w w' : World} {B e size n : Nat} {v : Value} {xs : List Value} (h : w.ownsRow B e size v n xs) (hb : ∀ k, B ≤ k → k < w.heap.size → w'.heap[k]? = w.heap[k]?) : w'.ownsRow B e size v n xs := by
  obtain ⟨h1, h2⟩ := h
  refine ⟨h1, ?_⟩
  rcases h2 with h2 | ⟨g, cap, cur, hv, hg, hh, r⟩
  · exact Or.inl h2
  · have hlt : g < w.heap.size := (Array.getElem?_eq_some_iff.1 hh).1
    exact Or.inr ⟨g, cap, cur, hv, hg, by rw [hb g hg hlt]; exact hh, r⟩

theorem TS.next {w0 w : World} {K : Nat} {T : ByteArray} {pos : Nat} {ao : Option Addr} {c : Nat} {acc : List ByteArray} (h : TS w0 w K T pos ao c acc) (pos' : Nat) : TS w0 (w.iterAt K T pos') K T pos' ao c acc := by
  refine ⟨Lib.iterAt_heap w K T pos pos' h.iter, ?_, Lib.below_iterAt h.below (Nat.le_refl _) _ _⟩
  exact owns_blocks h.owns fun k hk _ => Lib.iterAt_other w K k T pos' (by omega)
theorem TS.after {w0 w w' : World} {K : Nat} {T : ByteArray} {pos : Nat} {ao : Option Addr} {c : Nat} {acc : List ByteArray} (h : TS w0 w K T pos ao c acc) (hb : Below w.heap.size w w') : TS w0 w' K T pos ao c acc := by
  refine ⟨?_, ?_, h.below.trans (hb.mono (Nat.le_of_lt h.lt))⟩
  · rw [hb.block K h.lt]; exact h.iter
  · exact owns_blocks h.owns fun k _ hk => hb.block k hk
theorem TS.app {w0 w w' : World} {K : Nat} {T : ByteArray} {pos : Nat} {ao : Option Addr} {c : Nat} {acc : List ByteArray} {o : Obj} {g cap : Nat} {p : ByteArray} (h : TS w0 w K T pos ao c acc)
    (hg : (w.alloc o).grownBy w' (Value.slice ao acc.length c).ownBlock) (ho : w'.ownsRow (K + 1) 9 1 (.slice (some ⟨g, 0, none⟩) (acc.length + 1) cap) (acc.length + 1) (strs acc ++ [.string p])) :
    TS w0 w' K T pos (some ⟨g, 0, none⟩) cap (acc ++ [p]) := by
  have hlt := h.lt
  have hr : ∀ q, (Value.slice ao acc.length c).ownBlock = some q → K + 1 ≤ q := by
    intro q hq
    rcases h.owns.2 with ⟨h1, _⟩ | ⟨g', cap', cur, h1, h', _⟩
    · rw [h1] at hq; cases hq
    · rw [h1] at hq; simp [Value.ownBlock] at hq; omega
  have hb : Below (K + 1) w w' := by
    refine Below.grown (w := w.alloc o) ((Below.refl _ _).alloc hlt _) hg (by simp; omega) hr
  refine ⟨?_, ?_, h.below.trans (hb.mono (by omega))⟩
  · rw [hb.block K (by omega)]; exact h.iter
  · have e1 : (acc ++ [p]).length = acc.length + 1 := by simp
    have e2 : strs (acc ++ [p]) = strs acc ++ [.string p] := by simp [strs]
    rw [e1, e2]
    exact ho

theorem info9 : (Try.prog.info? 9).map (fun i => (i.zero, i.size, i.bytes)) = some (some (.string ⟨#[]⟩), 1, 16) := by kernel_rfl

/-- The bytes of a string. -/
def by_ (s : ByteArray) : List UInt8 := s.data.toList
theorem by_length (s : ByteArray) : (by_ s).length = s.size := by simp [by_]
theorem by_ext (s : ByteArray) (a b : Nat) (h : b ≤ s.size) : by_ (s.extract a b) = ((by_ s).take b).drop a := by
  unfold by_
  rw [ByteArray.data_extract, Array.toList_extract, List.extract_eq_take_drop]
  rw [List.take_drop]
  by_cases hab : a ≤ b
  · rw [show a + (b - a) = b from by omega]
  · rw [List.drop_of_length_le (by simp; omega), List.drop_of_length_le (by simp; omega)]

/-- Where the loop stands: what has been gathered and what is to come spell the tokens of X. -/
def St (X : ByteArray) (pos : Nat) (acc : List ByteArray) (st : Int) : Prop :=
  (pos ≤ X.size ∧ st = -1 ∧ acc.map by_ ++ tok ((by_ X).drop pos) [] = tok (by_ X) []) ∨
  (∃ s0 : Nat, st = (s0 : Int) ∧ s0 < pos ∧ pos ≤ X.size ∧ acc.map by_ ++ tok ((by_ X).drop pos) (((by_ X).take pos).drop s0) = tok (by_ X) []) ∨
  (pos = X.size + 1 ∧ st = -1 ∧ acc.map by_ = tok (by_ X) [])
theorem st_start (X : ByteArray) : St X 0 [] (-1) := Or.inl ⟨Nat.zero_le _, rfl, by simp⟩

theorem drop_at (X : ByteArray) (pos : Nat) (h : pos < X.size) : (by_ X).drop pos = X[pos] :: (by_ X).drop (pos + 1) := by
  rw [List.drop_eq_getElem_cons (by rw [by_length]; exact h)]
  congr 1
theorem flush_cur (l : List UInt8) (s0 pos : Nat) (h : s0 < pos) (hp : pos ≤ l.length) : flush ((l.take pos).drop s0) = [(l.take pos).drop s0] := by
  unfold flush
  rw [if_neg]
  intro e
  have := congrArg List.length (List.isEmpty_iff.1 e)
  simp at this
  omega

/-- A separator, nothing gathered. -/
theorem st_sep0 {X : ByteArray} {pos : Nat} {acc : List ByteArray} (h : St X pos acc (-1)) (hp : pos < X.size) (hs : (wh X[pos] || pr X[pos]) = true) : 
    acc.map by_ ++ mid X[pos] ++ tok ((by_ X).drop (pos + 1)) [] = tok (by_ X) [] := by
  rcases h with ⟨_, _, h⟩ | ⟨s0, h, _⟩ | ⟨h, _⟩
  · rw [drop_at X pos hp, tok_sep hs] at h
    simpa [flush] using h
  · omega
  · omega
/-- A separator, a token gathered. -/
theorem st_sep1 {X : ByteArray} {pos s0 : Nat} {acc : List ByteArray} (h : St X pos acc (s0 : Int)) (hp : pos < X.size) (hs : (wh X[pos] || pr X[pos]) = true) : 
    s0 < pos ∧ (acc ++ [X.extract s0 pos]).map by_ ++ mid X[pos] ++ tok ((by_ X).drop (pos + 1)) [] = tok (by_ X) [] := by
  rcases h with ⟨_, h, _⟩ | ⟨s1, h1, h2, h3, h⟩ | ⟨h, _⟩
  · omega
  · obtain rfl : s0 = s1 := by omega
    refine ⟨h2, ?_⟩
    rw [drop_at X pos hp, tok_sep hs, flush_cur _ _ _ h2 (by rw [by_length]; omega)] at h
    rw [List.map_append, List.map_cons, List.map_nil, by_ext X s0 pos h3]
    simpa using h
  · omega
/-- A separator at pos behind which the tokens acc stand. -/
theorem st_to {X : ByteArray} {pos : Nat} {acc : List ByteArray} (hp : pos < X.size) (h : acc.map by_ ++ tok ((by_ X).drop (pos + 1)) [] = tok (by_ X) []) : St X (pos + 1) acc (-1) := Or.inl ⟨hp, rfl, h⟩
/-- The end, nothing gathered. -/
theorem st_end0 {X : ByteArray} {acc : List ByteArray} (h : St X X.size acc (-1)) : St X (X.size + 1) acc (-1) := by
  rcases h with ⟨_, _, h⟩ | ⟨s0, h, _⟩ | ⟨h, _⟩
  · rw [List.drop_of_length_le (by rw [by_length]; exact Nat.le_refl _)] at h
    exact Or.inr (Or.inr ⟨rfl, rfl, by simpa [tok, flush] using h⟩)
  · omega
  · omega
/-- The end, a token gathered. -/
theorem st_end1 {X : ByteArray} {s0 : Nat} {acc : List ByteArray} (h : St X X.size acc (s0 : Int)) : s0 < X.size ∧ St X (X.size + 1) (acc ++ [X.extract s0 X.size]) (-1) := by
  rcases h with ⟨_, h, _⟩ | ⟨s1, h1, h2, h3, h⟩ | ⟨h, _⟩
  · omega
  · obtain rfl : s0 = s1 := by omega
    refine ⟨h2, Or.inr (Or.inr ⟨rfl, rfl, ?_⟩)⟩
    rw [List.drop_of_length_le (by rw [by_length]; exact Nat.le_refl _)] at h
    rw [List.map_append, List.map_cons, List.map_nil, by_ext X s0 X.size h3, ← h, tok, flush_cur _ _ _ h2 (by rw [by_length]; exact Nat.le_refl _)]
  · omega
/-- A run of bytes that separate nothing. -/
theorem run_bytes {X : ByteArray} {pos wd : Nat} (hw : pos + wd ≤ X.size) (hb : ∀ k, k < wd → (wh (X.get! (pos + k)) || pr (X.get! (pos + k))) = false) (cur : List UInt8) :
    tok ((by_ X).drop pos) cur = tok ((by_ X).drop (pos + wd)) (cur ++ ((by_ X).take (pos + wd)).drop pos) := by
  have e : (by_ X).drop pos = ((by_ X).take (pos + wd)).drop pos ++ (by_ X).drop (pos + wd) := by
    have h1 : (by_ X).drop (pos + wd) = ((by_ X).drop pos).drop wd := by rw [List.drop_drop]
    have h2 : ((by_ X).take (pos + wd)).drop pos = ((by_ X).drop pos).take wd := by rw [List.drop_take]; congr 1; omega
    rw [h1, h2, List.take_append_drop]
  rw [e]
  refine tok_run _ _ _ fun b hb' => ?_
  obtain ⟨k, hk⟩ := List.mem_iff_getElem?.1 hb'
  rw [List.getElem?_drop, List.getElem?_take] at hk
  split at hk
  · rename_i hlt
    have hk2 : pos + k < X.size := by omega
    have h3 := hb k (by omega)
    rw [get_lt X (pos + k) hk2] at h3
    have h4 : (by_ X)[pos + k]? = some X[pos + k] := by
      rw [List.getElem?_eq_getElem (by rw [by_length]; exact hk2)]
      rfl
    rw [h4] at hk
    cases hk
    exact h3
  · cases hk
theorem st_run0 {X : ByteArray} {pos wd : Nat} {acc : List ByteArray} (h : St X pos acc (-1)) (hp : 0 < wd) (hw : pos + wd ≤ X.size) (hb : ∀ k, k < wd → (wh (X.get! (pos + k)) || pr (X.get! (pos + k))) = false) : St X (pos + wd) acc (pos : Int) := by
  rcases h with ⟨_, _, h⟩ | ⟨s0, h, _⟩ | ⟨h, _⟩
  · rw [run_bytes hw hb, List.nil_append] at h
    exact Or.inr (Or.inl ⟨pos, rfl, by omega, hw, h⟩)
  · omega
  · omega
theorem st_run1 {X : ByteArray} {pos wd s0 : Nat} {acc : List ByteArray} (h : St X pos acc (s0 : Int)) (hp : 0 < wd) (hw : pos + wd ≤ X.size) (hb : ∀ k, k < wd → (wh (X.get! (pos + k)) || pr (X.get! (pos + k))) = false) : St X (pos + wd) acc (s0 : Int) := by
  rcases h with ⟨_, h, _⟩ | ⟨s1, h1, h2, h3, h⟩ | ⟨h, _⟩
  · omega
  · obtain rfl : s0 = s1 := by omega
    rw [run_bytes hw hb] at h
    refine Or.inr (Or.inl ⟨s0, rfl, by omega, hw, ?_⟩)
    have e : ((by_ X).take pos).drop s0 ++ ((by_ X).take (pos + wd)).drop pos = ((by_ X).take (pos + wd)).drop s0 := by
      have e1 : ((by_ X).take (pos + wd)).take pos = (by_ X).take pos := by rw [List.take_take]; congr 1; omega
      rw [← e1]
      have e2 := List.take_append_drop (pos - s0) (((by_ X).take (pos + wd)).drop s0)
      rw [List.drop_drop, show s0 + (pos - s0) = pos from by omega] at e2
      rw [← e2]
      congr 1
      rw [List.drop_take]
    rw [e] at h
    exact h
  · omega
end Go.Proofs.Qxb6608866a
