/-
  The plain notions behind FnAddTextSplitsIntoLines: cuts of a text into lines. No Go in sight.
-/
namespace Go.Proofs.Qxb6602523a
set_option linter.unusedVariables false

/-- The byte at k. -/
def at_ (s : ByteArray) (k : Nat) : Int := if h : k < s.size then (s[k].toNat : Int) else 0
theorem at_lt {s : ByteArray} {k : Nat} (h : k < s.size) : at_ s k = (s[k].toNat : Int) := dif_pos h

/-- Does a line begin at o? -/
def starts (S : ByteArray) (a0 : Bool) (o : Nat) : Bool := if o = 0 then a0 else (at_ S (o - 1) == 10)
/-- [o, e) is one line of S, or what is left of S. -/
def Seg (S : ByteArray) (o e : Nat) : Prop := o < e ∧ e ≤ S.size ∧ (∀ m, o ≤ m → m + 1 < e → ¬ at_ S m = 10) ∧ (e = S.size ∨ at_ S (e - 1) = 10)
/-- From o through the cuts to o'. -/
def Path (S : ByteArray) : Nat → List Nat → Nat → Prop
  | o, [], o' => o = o'
  | o, e :: es, o' => Seg S o e ∧ Path S e es o'
/-- The nodes of one piece. -/
def seg (S : ByteArray) (a0 : Bool) (o e : Nat) : List (Int × ByteArray) := (if starts S a0 o = true then [((1 : Int), (⟨#[]⟩ : ByteArray))] else []) ++ [((0 : Int), S.extract o e)]
/-- The nodes of all pieces. -/
def nodes (S : ByteArray) (a0 : Bool) : Nat → List Nat → List (Int × ByteArray)
  | _, [] => []
  | o, e :: es => seg S a0 o e ++ nodes S a0 e es

theorem path_snoc {S : ByteArray} {o' e : Nat} (hs : Seg S o' e) : ∀ (cuts : List Nat) (o : Nat), Path S o cuts o' → Path S o (cuts ++ [e]) e
  | [], o, h => by
    have h' : o = o' := h
    subst h'
    exact ⟨hs, rfl⟩
  | c :: cs, o, h => ⟨h.1, path_snoc hs cs c h.2⟩
theorem nodes_snoc {S : ByteArray} {a0 : Bool} {o' e : Nat} : ∀ (cuts : List Nat) (o : Nat), Path S o cuts o' → nodes S a0 o (cuts ++ [e]) = nodes S a0 o cuts ++ seg S a0 o' e
  | [], o, h => by
    have h' : o = o' := h
    subst h'
    simp [nodes]
  | c :: cs, o, h => by
    rw [List.cons_append, nodes, nodes_snoc cs c h.2, nodes, List.append_assoc]
theorem path_le {S : ByteArray} {o' : Nat} : ∀ (cuts : List Nat) (o : Nat), Path S o cuts o' → o ≤ o'
  | [], o, h => Nat.le_of_eq h
  | c :: cs, o, h => Nat.le_trans (Nat.le_of_lt h.1.1) (path_le cs c h.2)
theorem seg_length (S : ByteArray) (a0 : Bool) (o e : Nat) : (seg S a0 o e).length ≤ 2 := by
  unfold seg
  split <;> simp

theorem ext_size (S : ByteArray) (o : Nat) (h : o ≤ S.size) : (S.extract o S.size).size = S.size - o := by simp
theorem ext_data (S : ByteArray) (a b : Nat) : (S.extract a b).data = S.data.extract a b := by simp
theorem at_ext (S : ByteArray) (a b k : Nat) (h : b ≤ S.size) (hk : a + k < b) : at_ (S.extract a b) k = at_ S (a + k) := by
  have h1 : k < (S.extract a b).size := by simp; omega
  have h2 : a + k < S.size := by omega
  rw [at_lt h1, at_lt h2]
  congr 2
  simp [ByteArray.getElem_eq_getElem_data]
theorem ext_ext (S : ByteArray) (a b c d : Nat) (h1 : a + d ≤ b) (h2 : b ≤ S.size) : (S.extract a b).extract c d = S.extract (a + c) (a + d) := by
  apply ByteArray.ext
  rw [ext_data, ext_data, ext_data, Array.extract_extract]
  congr 1
  omega
theorem ext_all (S : ByteArray) : S.extract 0 S.size = S := by
  apply ByteArray.ext
  rw [ext_data]
  exact Array.extract_size
end Go.Proofs.Qxb6602523a
