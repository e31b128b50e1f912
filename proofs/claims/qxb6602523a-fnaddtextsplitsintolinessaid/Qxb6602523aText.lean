import Derived.Test.Qxb6602523aAdd
namespace Go.Proofs.Qxb6602523a
open Go.RowKit
set_option linter.unusedVariables false

/-- 21: markLineStart, the flag not set. -/
theorem mark_no (B P F d : Nat) (ao : Option Addr) (c : Nat) (L : List (Int × ByteArray)) (w : World) (hp : PS w B P F d false ao c L) :
    Calls Try.prog 21 #[.pointer (some ⟨P, 0, none⟩)] w fun e w' => e = .returned (.tuple #[]) ∧ w = w' := by
  have p1 := hp.flag
  go_enter Try.func21, Try.ntmps21
  go_wp2_with fail
  go_end0
  exact ⟨rfl, rfl⟩

theorem PS.setFlag {w : World} {B P F d : Nat} {a : Bool} {ao : Option Addr} {c : Nat} {L : List (Int × ByteArray)} (h : PS w B P F d a ao c L) (b : Bool) : PS (w.setCell ⟨P, 7, none⟩ (.bool b)) B P F d b ao c L := by
  obtain ⟨p1, p2, p3, p4, p5, p6, p7, p8, p9, p10, p11⟩ := h
  have hPF : ¬ P = F := by omega
  constructor
  · rw [World.cell?_setCell_same (u := .bool a) (h := p1)]
  · rw [World.frozen?_setCell]; exact p2
  · rw [World.cell?_setCell_other (h := by simp)]; exact p3
  · intro f hf
    rw [World.cell?_setCell_far _ _ _ _ hPF]; exact p4 f hf
  · rw [World.cell?_setCell_far _ _ _ _ hPF]; exact p5
  · rw [World.frozen?_setCell]; exact p6
  · exact ownsRow_setCell_below p7 p10 _
  · exact p8
  · exact p9
  · exact p10
  · have : (w.setCell ⟨P, 7, none⟩ (.bool b)).heap.size = w.heap.size := by simp [World.setCell]
    rw [this]; exact p11

/-- 21: markLineStart, the flag set. -/
theorem mark_yes (B P F d : Nat) (ao : Option Addr) (c : Nat) (L : List (Int × ByteArray)) (w : World) (hp : PS w B P F d true ao c L) (hL : L.length ≤ 4194304) (hd : d ≤ 64) :
    Calls Try.prog 21 #[.pointer (some ⟨P, 0, none⟩)] w fun e w' => e = .returned (.tuple #[]) ∧ Below F w w' ∧ ∃ ao' c', PS w' B P F d false ao' c' (L ++ [(1, ⟨#[]⟩)]) := by
  have p1 := hp.flag
  have hFP := hp.hFP
  go_enter Try.func21, Try.ntmps21
  go_wp2_with fail
  refine (add_any B P F d true ao c L 1 ⟨#[]⟩ w hp hL hd).mono ?_
  rintro e w1 ⟨rfl, hb, ao', c', hp1⟩
  have q1 := hp1.flag
  have q2 := hp1.ffree
  have HP1 : Hid (PS w1 B P F d true ao' c' (L ++ [(1, ⟨#[]⟩)])) := hp1
  have HB : Hid (Below F w w1) := hb
  clear hp1 hb hp
  go_wp2_with fail
  go_end0
  exact ⟨rfl, HB.out.setCell (Nat.le_of_lt hFP) _, ao', c', HP1.out.setFlag false⟩
end Go.Proofs.Qxb6602523a
