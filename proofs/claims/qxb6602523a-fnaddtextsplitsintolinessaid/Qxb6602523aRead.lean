import Derived.Test.Qxb6602523aNew
namespace Go.Proofs.Qxb6602523a
open Go.RowKit
set_option linter.unusedVariables false

theorem flat_at : ∀ (L : List (Int × ByteArray)) (i j : Nat) (k : Int) (t : ByteArray), L[i]? = some (k, t) → j < 7 → (flat L)[i * 7 + j]? = (ncells k t)[j]?
  | [], i, j, k, t, h, hj => by simp at h
  | x :: L, 0, j, k, t, h, hj => by
    simp at h
    subst h
    rw [flat, Nat.zero_mul, Nat.zero_add, List.getElem?_append_left (by simp [ncells]; omega)]
  | x :: L, i + 1, j, k, t, h, hj => by
    simp only [List.getElem?_cons_succ] at h
    have e : (i + 1) * 7 + j = (ncells x.1 x.2).length + (i * 7 + j) := by simp [ncells]; omega
    rw [flat, e, List.getElem?_append_right (by omega), Nat.add_sub_cancel_left]
    exact flat_at L i j k t h hj

theorem node_at {w : World} {B P F d : Nat} {a : Bool} {ao : Option Addr} {c : Nat} {L : List (Int × ByteArray)} (h : PS w B P F d a ao c L) {i : Nat} {k : Int} {t : ByteArray} (hi : L[i]? = some (k, t)) :
    ∃ g, ao = some ⟨g, 0, none⟩ ∧ w.cell? ⟨g, i * 7, none⟩ = some (.int .i64 k) ∧ w.cell? ⟨g, i * 7 + 1, none⟩ = some (.string t) := by
  have hlt : i < L.length := (List.getElem?_eq_some_iff.1 hi).1
  obtain ⟨g, cap, hv, _, _⟩ := h.owns.form (by omega)
  have ho := h.owns
  simp only [Value.slice.injEq] at hv
  obtain ⟨rfl, _, rfl⟩ := hv
  refine ⟨g, rfl, ?_, ?_⟩
  · have := ho.cellAt (i * 7) (by omega)
    rw [this]
    exact flat_at L i 0 k t hi (by omega)
  · have := ho.cellAt (i * 7 + 1) (by omega)
    rw [this]
    exact flat_at L i 1 k t hi (by omega)

theorem kind_ps {w : World} {B P F m : Nat} {a : Bool} {ao : Option Addr} {c : Nat} {L : List (Int × ByteArray)} (h : PS w B P F (m + 1) a ao c L) {i : Nat} {k : Int} {t : ByteArray} (hi : L[i]? = some (k, t)) :
    Calls Try.prog 12 #[.pointer (some ⟨P, 0, none⟩), .int .i64 (m : Int), .int .i64 (i : Int)] w fun e w' => e = .returned (.int .i64 k) ∧ w = w' := by
  obtain ⟨g, rfl, h1, h2⟩ := node_at h hi
  have hlt : i < L.length := (List.getElem?_eq_some_iff.1 hi).1
  have h5 := h.inner
  rw [Nat.add_sub_cancel] at h5
  exact nk_any P F (m + 1) m L.length i g c k w h.frames (by omega) h5 hlt h1
theorem text_ps {w : World} {B P F m : Nat} {a : Bool} {ao : Option Addr} {c : Nat} {L : List (Int × ByteArray)} (h : PS w B P F (m + 1) a ao c L) {i : Nat} {k : Int} {t : ByteArray} (hi : L[i]? = some (k, t)) :
    Calls Try.prog 13 #[.pointer (some ⟨P, 0, none⟩), .int .i64 (m : Int), .int .i64 (i : Int)] w fun e w' => e = .returned (.string t) ∧ w = w' := by
  obtain ⟨g, rfl, h1, h2⟩ := node_at h hi
  have hlt : i < L.length := (List.getElem?_eq_some_iff.1 hi).1
  have h5 := h.inner
  rw [Nat.add_sub_cancel] at h5
  exact nt_any P F (m + 1) m L.length i g c t w h.frames (by omega) h5 hlt h2
theorem len_outer {w : World} {B P F m : Nat} {a : Bool} {ao : Option Addr} {c : Nat} {L : List (Int × ByteArray)} (h : PS w B P F (m + 1) a ao c L) (f : Nat) (hf : f < m) :
    Calls Try.prog 9 #[.pointer (some ⟨P, 0, none⟩), .int .i64 (f : Int)] w fun e w' => e = .returned (.int .i64 0) ∧ w = w' :=
  fl_any P F (m + 1) f 0 none 0 w h.frames (by omega) (h.outer f (by omega))
theorem len_inner {w : World} {B P F m : Nat} {a : Bool} {ao : Option Addr} {c : Nat} {L : List (Int × ByteArray)} (h : PS w B P F (m + 1) a ao c L) :
    Calls Try.prog 9 #[.pointer (some ⟨P, 0, none⟩), .int .i64 (m : Int)] w fun e w' => e = .returned (.int .i64 (L.length : Int)) ∧ w = w' := by
  have h5 := h.inner
  rw [Nat.add_sub_cancel] at h5
  exact fl_any P F (m + 1) m L.length ao c w h.frames (by omega) h5

set_option maxRecDepth 100000 in
theorem law_long (a0 : Bool) (d : Int) (S : ByteArray) (w : World) (h : S.size ≤ maxLen) (hs : 1048576 < S.size) :
    Calls Try.prog 3 #[.bool a0, .int .i64 d, .string S] w fun e w' => e = .returned (.bool true) ∧ Below w.heap.size w w' := by
  have h0 := h
  unfold maxLen at h0
  go_enter Try.func3, Try.ntmps3
  go_wp2_with (go_at_call 6; refine (zzb_no _ _ _ _ h hs).mono ?_; rintro e' w' ⟨rfl, rfl⟩)
  go_ret
  exact ⟨rfl, Below.refl _ _⟩
set_option maxRecDepth 100000 in
theorem law_low (a0 : Bool) (d : Int) (S : ByteArray) (w : World) (hs : S.size ≤ 1048576) (hd : d < 1) :
    Calls Try.prog 3 #[.bool a0, .int .i64 d, .string S] w fun e w' => e = .returned (.bool true) ∧ Below w.heap.size w w' := by
  go_enter Try.func3, Try.ntmps3
  go_wp2_with (go_at_call 6; refine (zzb_ok _ _ _ _ hs).mono ?_; rintro e' w' ⟨rfl, rfl⟩)
  go_ret
  exact ⟨rfl, Below.refl _ _⟩
set_option maxRecDepth 100000 in
theorem law_high (a0 : Bool) (d : Int) (S : ByteArray) (w : World) (hs : S.size ≤ 1048576) (hd : 64 < d) :
    Calls Try.prog 3 #[.bool a0, .int .i64 d, .string S] w fun e w' => e = .returned (.bool true) ∧ Below w.heap.size w w' := by
  have h1 : ¬ d < 1 := by omega
  go_enter Try.func3, Try.ntmps3
  go_wp2_with (go_at_call 6; refine (zzb_ok _ _ _ _ hs).mono ?_; rintro e' w' ⟨rfl, rfl⟩)
  go_ret
  exact ⟨rfl, Below.refl _ _⟩
end Go.Proofs.Qxb6602523a
