import Derived.Test.Qxb6608866aRows
import Derived.Test.Qxb6608866aPlain
import Derived.WalkKit
import Derived.WalkSpells
import Derived.WalkLawsBesides
import Derived.Outline
import Derived.OwnWalk
import Derived.BigQuiet
import Derived.Lib.Bytealg
import Derived.Lib.IndexLaws
import Derived.Lib.OthersKept
import Derived.Laws.RangeAny
import Derived.Deep.CutBlock
import Derived.Deep.LoopGhost
namespace Go.Proofs.Qxb6608866a
open Go.RowKit
set_option linter.unusedVariables false

/-- A rune that separates. -/
def sepR (r : Int) : Bool := decide (r = 32 ∨ r = 9 ∨ r = 10 ∨ r = 13 ∨ r = 40 ∨ r = 41)
theorem ret_bool {a b : Bool} (h : a = b) : Ending.returned (.bool a) = .returned (.bool b) := by rw [h]

/-- 37, 33: strings.IndexByte. -/
theorem slite_any (s : ByteArray) (c : Int) (w : World) :
    Calls Try.prog 37 #[.string s, .int .u8 c] w fun e w' => e = .returned (.int .i64 (Lib.indexByte s.data.toList (UInt8.ofNat c.toNat))) ∧ w' = w := by
  go_enter Try.func37, Try.ntmps37
  go_wp2
  rw [run_callFunc_extern Try.func38 (by kernel_rfl) (by kernel_rfl) (by kernel_rfl) (e := Extern.BytealgIndexByte.indexByte) (by kernel_rfl), Lib.run_indexByteString]
  simp only [Result.andThen]
  rw [Oper.upon_value]
  go_wp2
  go_ret
  exact ⟨rfl, rfl⟩
theorem indexByte_any (s : ByteArray) (c : Int) (w : World) :
    Calls Try.prog 33 #[.string s, .int .u8 c] w fun e w' => e = .returned (.int .i64 (Lib.indexByte s.data.toList (UInt8.ofNat c.toNat))) ∧ w' = w := by
  go_enter Try.func33, Try.ntmps33
  go_wp2_with (go_at_call 37; refine (slite_any _ _ _).mono ?_; rintro e w' ⟨rfl, rfl⟩)
  go_ret
  exact ⟨rfl, rfl⟩

theorem idxF : ∀ n : Fin 256, (0 ≤ Lib.indexByte [32, 9, 10, 13, 40, 41] (UInt8.ofNat n.val)) ↔ (n.val = 32 ∨ n.val = 9 ∨ n.val = 10 ∨ n.val = 13 ∨ n.val = 40 ∨ n.val = 41) := by decide +kernel
theorem idxS {r : Int} (h0 : 0 ≤ r) (h1 : r < 128) : decide (0 ≤ Lib.indexByte [32, 9, 10, 13, 40, 41] (UInt8.ofNat r.toNat)) = sepR r := by
  have := idxF ⟨r.toNat, by omega⟩
  simp only at this
  unfold sepR
  rw [Bool.eq_iff_iff, decide_eq_true_eq, decide_eq_true_eq, this]
  omega

set_option maxRecDepth 100000 in
set_option maxHeartbeats 1000000 in
/-- 32: strings.IndexRune at an ASCII rune. -/
theorem idxRune_ascii (r : Int) (h0 : 0 ≤ r) (h1 : r < 128) (w : World) :
    Calls Try.prog 32 #[.string ⟨#[32, 9, 10, 13, 40, 41]⟩, .int .i32 r] w fun e w' => e = .returned (.int .i64 (Lib.indexByte [32, 9, 10, 13, 40, 41] (UInt8.ofNat r.toNat))) ∧ w' = w := by
  go_enter Try.func32, Try.ntmps32
  go_wp2_with (go_at_call 33; refine (indexByte_any _ _ _).mono ?_; rintro e w' ⟨rfl, rfl⟩)
  go_ret
  exact ⟨rfl, rfl⟩

/-- The six separators. -/
def S6 : ByteArray := ⟨#[32, 9, 10, 13, 40, 41]⟩
theorem S6_size : S6.size = 6 := rfl
theorem S6_lo : ∀ n : Fin 6, (S6[n.val]'(by have := n.isLt; show n.val < 6; exact this)).toNat < 128 := by decide

theorem iter_heap_new (w : World) (s : ByteArray) : (w.alloc (.stringIter s 0)).heap[w.heap.size]? = some (.stringIter s 0) := by
  show (w.heap.push _)[w.heap.size]? = _
  simp

set_option maxRecDepth 100000 in
set_option maxHeartbeats 1000000 in
/-- 32: strings.IndexRune at U+FFFD. -/
theorem idxRune_err (w : World) :
    Calls Try.prog 32 #[.string ⟨#[32, 9, 10, 13, 40, 41]⟩, .int .i32 65533] w fun e w' => e = .returned (.int .i64 (-1)) ∧ Below w.heap.size w w' := by
  go_enter Try.func32, Try.ntmps32
  go_wp2_with fail
  go_loopg [] 6 (fun g wr => ∃ pos : Nat, pos + g = 6 ∧ Hid (wr.heap[w.heap.size]? = some (.stringIter S6 pos)) ∧ Hid (Below w.heap.size w wr))
  case atStart => exact ⟨0, rfl, iter_heap_new w S6, (Below.refl _ _).alloc (Nat.le_refl _) _⟩
  case round =>
    obtain ⟨pos, hp, HI, HB⟩ := hrel
    have HP : Hid (pos + gk = 6) := hp
    clear hp
    by_cases hlt : pos < 6
    · have hlo := S6_lo ⟨pos, hlt⟩
      have hnx : ∀ ty, (Instr.next (.pointer (some ⟨w.heap.size, 0, none⟩)) true ty).run Try.prog wr = _ := fun ty => Lib.run_next_ascii_at wr w.heap.size S6 pos ty HI.out hlt hlo
      obtain ⟨v, hv⟩ : ∃ v : Int, v = ((S6[pos]'hlt).toNat : Int) := ⟨_, rfl⟩
      simp only [← hv] at hnx
      have e1 : (v == 65533) = false := by simp only [beq_eq_false_iff_ne]; simp only at hlo; omega
      clear hv hlo
      go_wp2_with fail
      go_roundg (gk - 1)
      case measure => have := HP.out; omega
      case rel => exact ⟨pos + 1, by have := HP.out; omega, Lib.iterAt_heap wr _ S6 pos _ HI.out, Lib.below_iterAt HB.out (Nat.le_refl _) _ _⟩
    · have hnx : ∀ ty, (Instr.next (.pointer (some ⟨w.heap.size, 0, none⟩)) true ty).run Try.prog wr = _ := fun ty => Lib.run_next_end_at wr w.heap.size S6 pos ty HI.out hlt
      go_wp2_with fail
      go_ret
      exact ⟨rfl, HB.out⟩
end Go.Proofs.Qxb6608866a
