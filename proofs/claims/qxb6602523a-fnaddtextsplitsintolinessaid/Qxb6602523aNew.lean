import Derived.Test.Qxb6602523aLoop
namespace Go.Proofs.Qxb6602523a
open Go.RowKit
set_option linter.unusedVariables false

/-- A frame's eight cells, all zero. -/
def fcells : Array Value := #[.int .i64 0, .string ⟨#[]⟩, .slice none 0 0, .int .i64 0, .slice none 0 0, .bool false, .string ⟨#[]⟩, .slice none 0 0]
theorem info50 : (Try.prog.info? 50).map (fun i => (i.zero, i.size, i.bytes)) = some (some (.agg fcells), 8, 128) := by kernel_rfl

theorem made_at (d f : Nat) (hf : f < d) : (madeCells (Value.agg fcells).cells (d * 8)).toList[f * 8 + 7]? = some (.slice none 0 0) := by
  have h1 : (Value.agg fcells).cells = fcells := rfl
  rw [h1]
  unfold madeCells
  have h2 : fcells.size = 8 := rfl
  rw [h2]
  simp only [Array.toList_map, Array.toList_range, List.getElem?_map]
  rw [List.getElem?_range (by omega)]
  simp only [Option.map_some]
  have h3 : (f * 8 + 7) % 8 = 7 := by omega
  rw [h3]
  rfl

set_option maxHeartbeats 1000000 in
/-- 7: ZZNewParser. -/
theorem new_any (a0 : Bool) (d : Nat) (w : World) (h1 : 0 < d) (h2 : d ≤ 64) :
    Calls Try.prog 7 #[.bool a0, .int .i64 (d : Int)] w fun e w' => ∃ P F B, e = .returned (.pointer (some ⟨P, 0, none⟩)) ∧ Below w.heap.size w w' ∧ w.heap.size ≤ F ∧ PS w' B P F d a0 none 0 [] := by
  obtain ⟨i0, hi, hz0, hz1, hz2⟩ := info_parts info50
  go_enter Try.func7, Try.ntmps7
  go_wp2_with (first
    | (at_make; refine wpList_make_full _ rfl _ _ 39 rfl w.heap.size 50 i0 (.agg fcells) 8 Try.underlying39 hi hz0 hz1 .i64 .i64 _ _ d rfl rfl rfl rfl (by rw [hz2]; omega) (by unfold maxLen; omega) (Nat.le_refl _) ?_; intro w1 hown hgrow))
  go_ret
  refine ⟨w1.heap.size, w.heap.size, w1.heap.size + 1, rfl, ?_, Nat.le_refl _, ?_⟩
  · exact ((Below.refl _ _).grown hgrow (Nat.le_refl _) (fun k hk => by cases hk)).alloc hgrow.size _
  · have hlt : w.heap.size < w1.heap.size := by
      rcases hown.2 with ⟨h, _⟩ | ⟨g, cap, cur, h, hb, hg, _⟩
      · cases h
      · cases h
        exact (Array.getElem?_eq_some_iff.1 hg).1
    have hne : ¬ w.heap.size = w1.heap.size := by omega
    constructor
    · simp [go_sem]
    · simp [go_sem]
    · simp [go_sem]
    · intro f hf
      rw [World.cell?_alloc_old _ _ _ hne, hown.cellAt _ (by omega)]
      exact made_at d f (by omega)
    · rw [World.cell?_alloc_old _ _ _ hne, hown.cellAt _ (by omega)]
      exact made_at d (d - 1) (by omega)
    · rw [World.frozen?_alloc_old _ _ _ hne]
      exact hown.frozenAt _
    · exact World.ownsRow_nil _ _ _ _
    · exact h1
    · exact hlt
    · omega
    · simp

/-- 8: ZZAddText. -/
theorem zzadd_any (S : ByteArray) (B P F d : Nat) (a0 : Bool) (w : World) (hp : PS w B P F d a0 none 0 []) (hS : S.size ≤ 1048576) (hd : d ≤ 64) :
    Calls Try.prog 8 #[.pointer (some ⟨P, 0, none⟩), .string S] w fun e w' => e = .returned (.tuple #[]) ∧ Below F w w' ∧ ∃ cuts ao c, Path S 0 cuts S.size ∧ PS w' B P F d (starts S a0 S.size) ao c (nodes S a0 0 cuts) ∧ (nodes S a0 0 cuts).length ≤ 2097152 := by
  go_enter Try.func8, Try.ntmps8
  go_wp2_with fail
  refine (addText_any S B P F d a0 w hp hS hd).mono ?_
  rintro e w1 ⟨rfl, hb, hx⟩
  have HX : Hid (∃ cuts ao c, Path S 0 cuts S.size ∧ PS w1 B P F d (starts S a0 S.size) ao c (nodes S a0 0 cuts) ∧ (nodes S a0 0 cuts).length ≤ 2097152) := hx
  clear hx
  go_wp2_with fail
  go_end0
  exact ⟨rfl, hb, HX.out⟩
end Go.Proofs.Qxb6602523a
