import Derived.Test.Qxb6608866aJoin
namespace Go.Proofs.Qxb6608866a
open Go.RowKit
set_option linter.unusedVariables false

/-- A slice of strings that the call made. -/
def Ow (w : World) (ao : Option Addr) (c : Nat) (acc : List ByteArray) : Prop := ∃ B, w.ownsRow B 9 1 (.slice ao acc.length c) acc.length (strs acc)
theorem Ow.below {w w' : World} {ao : Option Addr} {c : Nat} {acc : List ByteArray} (h : Ow w ao c acc) (hb : Below w.heap.size w w') : Ow w' ao c acc := by
  obtain ⟨B, h⟩ := h
  exact ⟨B, owns_blocks h fun k _ hk => hb.block k hk⟩
theorem Ow.drew {w : World} {ao : Option Addr} {c : Nat} {acc : List ByteArray} (h : Ow w ao c acc) : Ow w.drew ao c acc := h
theorem Ow.alloc {w : World} {ao : Option Addr} {c : Nat} {acc : List ByteArray} (h : Ow w ao c acc) (o : Obj) : Ow (w.alloc o) ao c acc := by
  obtain ⟨B, h⟩ := h
  exact ⟨B, h.alloc o⟩
theorem Ow.cell {w : World} {ao : Option Addr} {c : Nat} {acc : List ByteArray} (h : Ow w ao c acc) {i : Nat} (hi : i < acc.length) :
    ∃ g, ao = some ⟨g, 0, none⟩ ∧ g < w.heap.size ∧ w.cell? ⟨g, i, none⟩ = some (.string acc[i]) := by
  obtain ⟨B, h⟩ := h
  exact owns_some h hi

/-- 9: ZZexpressionTokens. -/
theorem zz9_any (X : ByteArray) (hX : X.size ≤ 1048577) (w : World) :
    Calls Try.prog 9 #[.string X] w fun e w' => ∃ ao c acc, e = .returned (.slice ao acc.length c) ∧ Ow w' ao c acc ∧ acc.map by_ = tok (by_ X) [] ∧ acc.length ≤ 4194304 ∧ Below w.heap.size w w' := by
  go_enter Try.func9, Try.ntmps9
  go_wp2_with fail
  refine (tok_any X hX w).mono ?_
  rintro e w1 ⟨ao, c, acc, rfl, ho, hm, hn, hb⟩
  have HO : Hid (Ow w1 ao c acc) := ⟨_, ho⟩
  have HM : Hid (acc.map by_ = tok (by_ X) []) := hm
  clear ho hm
  go_wp2_with fail
  go_ret
  exact ⟨ao, c, acc, rfl, HO.out, HM.out, hn, hb⟩

/-- 12: the bound. -/
theorem zzb_ok (a b : ByteArray) (s : Int) (w : World) (h : a.size + b.size ≤ 1048576) :
    Calls Try.prog 12 #[.string a, .int .u8 s, .string b] w fun e w' => e = .returned (.bool true) ∧ w = w' := by
  go_enter Try.func12, Try.ntmps12
  go_wp2
  go_ret
  exact ⟨rfl, rfl⟩
set_option maxRecDepth 100000 in
theorem zzb_no (a b : ByteArray) (s : Int) (w : World) (ha : a.size ≤ maxLen) (hb : b.size ≤ maxLen) (h : ¬ a.size + b.size ≤ 1048576) :
    Calls Try.prog 12 #[.string a, .int .u8 s, .string b] w fun e w' => e = .returned (.bool false) ∧ w = w' := by
  unfold maxLen at ha hb
  by_cases h1 : 1048576 < a.size
  · go_enter Try.func12, Try.ntmps12
    go_wp2
    go_ret
    exact ⟨rfl, rfl⟩
  · by_cases h2 : 1048576 < b.size
    · go_enter Try.func12, Try.ntmps12
      go_wp2
      go_ret
      exact ⟨rfl, rfl⟩
    · go_enter Try.func12, Try.ntmps12
      go_wp2
      go_ret
      exact ⟨rfl, rfl⟩
set_option maxRecDepth 100000 in
/-- The law where the texts are too long. -/
theorem law_long (a b : ByteArray) (s : Int) (w : World) (ha : a.size ≤ maxLen) (hb : b.size ≤ maxLen) (h : ¬ a.size + b.size ≤ 1048576) :
    Calls Try.prog 4 #[.string a, .int .u8 s, .string b] w fun e w' => e = .returned (.bool true) ∧ Below w.heap.size w w' := by
  go_enter Try.func4, Try.ntmps4
  go_wp2_with (go_at_call 12; refine (zzb_no _ _ _ _ ha hb h).mono ?_; rintro e' w' ⟨rfl, rfl⟩)
  go_ret
  exact ⟨rfl, Below.refl _ _⟩
set_option maxRecDepth 100000 in
/-- The law where the byte is no separator. -/
theorem law_none (a b : ByteArray) (s : Int) (w : World) (h : a.size + b.size ≤ 1048576) (h1 : whI s = false) (h2 : prI s = false) :
    Calls Try.prog 4 #[.string a, .int .u8 s, .string b] w fun e w' => e = .returned (.bool true) ∧ Below w.heap.size w w' := by
  have d1 : decide (1048576 < (a.size : Int)) = false := decide_eq_false (by omega)
  have d2 : decide ((1048576 : Int) - (a.size : Int) < (b.size : Int)) = false := decide_eq_false (by omega)
  have HW : Hid (Calls Try.prog 13 #[.int .u8 s] w fun e w' => e = .returned (.bool false) ∧ w = w') := by have := white_any s w; rw [h1] at this; exact this
  have HP : Hid (Calls Try.prog 14 #[.int .u8 s] w fun e w' => e = .returned (.bool false) ∧ w = w') := by have := paren_any s w; rw [h2] at this; exact this
  go_enter Try.func4, Try.ntmps4
  go_wp2_with (first
    | (go_at_call 12; refine (zzb_ok _ _ _ _ h).mono ?_; rintro e' w' ⟨rfl, rfl⟩)
    | (go_at_call 13; refine HW.out.mono ?_; rintro e' w' ⟨rfl, rfl⟩)
    | (go_at_call 14; refine HP.out.mono ?_; rintro e' w' ⟨rfl, rfl⟩))
  go_ret
  exact ⟨rfl, Below.refl _ _⟩

theorem by_inj {s t : ByteArray} (h : by_ s = by_ t) : s = t := by
  apply ByteArray.ext
  apply Array.ext'
  exact h
theorem map_inj : ∀ {l m : List ByteArray}, l.map by_ = m.map by_ → l = m
  | [], [], _ => rfl
  | [], y :: m, h => by simp at h
  | x :: l, [], h => by simp at h
  | x :: l, y :: m, h => by
    simp only [List.map_cons, List.cons.injEq] at h
    rw [by_inj h.1, map_inj h.2]
/-- The separator as a string of one byte. -/
def one (s : Int) : ByteArray := ⟨#[UInt8.ofNat s.toNat]⟩
theorem by_whole (a b : ByteArray) (s : Int) : by_ (a ++ one s ++ b) = by_ a ++ UInt8.ofNat s.toNat :: by_ b := by
  unfold by_ one
  rw [ByteArray.data_append, ByteArray.data_append]
  simp
theorem size_whole (a b : ByteArray) (s : Int) : (a ++ one s ++ b).size = a.size + 1 + b.size := by
  have h := congrArg List.length (by_whole a b s)
  rw [by_length] at h
  rw [h]
  simp [by_length]
  omega
theorem bt (s : Int) (h0 : 0 ≤ s) (h1 : s < 256) : ((UInt8.ofNat s.toNat).toNat : Int) = s := by
  rw [UInt8.toNat_ofNat']
  omega
/-- THE PLAIN LAW: the tokens of the whole. -/
theorem whole_acc {a b : ByteArray} {s : Int} (h0 : 0 ≤ s) (h1 : s < 256) (hsep : whI s = true ∨ prI s = true) {accW accL accR : List ByteArray} (hW : accW.map by_ = tok (by_ (a ++ one s ++ b)) [])
    (hL : accL.map by_ = tok (by_ a) []) (hR : accR.map by_ = tok (by_ b) []) : accW = accL ++ ((if prI s = true then [one s] else []) ++ accR) := by
  apply map_inj
  have hs : (wh (UInt8.ofNat s.toNat) || pr (UInt8.ofNat s.toNat)) = true ∧ (pr (UInt8.ofNat s.toNat) = true ↔ prI s = true) := by
    unfold whI prI at *
    simp only [decide_eq_true_eq] at hsep ⊢
    have hc : s = 32 ∨ s = 9 ∨ s = 10 ∨ s = 13 ∨ s = 40 ∨ s = 41 := by omega
    rcases hc with rfl | rfl | rfl | rfl | rfl | rfl <;> decide
  rw [hW, by_whole, tok_split _ hs.1, ← hL, ← hR, List.map_append, List.map_append]
  congr 2
  unfold mid
  by_cases hp : prI s = true
  · rw [if_pos (hs.2.2 hp), if_pos hp]
    rfl
  · rw [if_neg (fun e => hp (hs.2.1 e)), if_neg hp]
    rfl
end Go.Proofs.Qxb6608866a
