import Derived.Test.Qxb6600049aRows
import Derived.Test.Qxb6600049aPlain
import Derived.WalkKit
import Derived.WalkSpells
import Derived.Outline
import Derived.BigQuiet
import Derived.Lib.Bytealg
import Derived.RowKit3
namespace Go.Proofs.Qxb6600049a
open Go.RowKit
set_option linter.unusedVariables false

theorem spB_t {c : Int} (h : c = 32 ∨ c = 9) : spB c = true := by simp [spB, h]
theorem spB_f {c : Int} (h : ¬ (c = 32 ∨ c = 9)) : spB c = false := by simp only [spB, decide_eq_false_iff_not]; exact h
theorem ret_bool {a b : Bool} (h : a = b) : Ending.returned (.bool a) = .returned (.bool b) := by rw [h]

/-- 6: isSpaceOrTab. -/
theorem isSp_any (c : Int) (w : World) :
    Calls Try.prog 6 #[.int .u8 c] w fun e w' => e = .returned (.bool (spB c)) ∧ w' = w := by
  by_cases h1 : c = 32
  · have e1 : (c == 32) = true := by simp [h1]
    clear h1
    go_enter Try.func6, Try.ntmps6
    go_wp2
    go_ret
    exact ⟨ret_bool (spB_t (by simp at e1; omega)).symm, rfl⟩
  · have e1 : (c == 32) = false := by simp [h1]
    go_enter Try.func6, Try.ntmps6
    go_wp2
    go_ret
    exact ⟨ret_bool (by rw [Bool.eq_iff_iff]; simp [spB]; omega), rfl⟩

/-- 15, 14: strings.IndexByte. -/
theorem slite_any (s : ByteArray) (c : Int) (w : World) :
    Calls Try.prog 15 #[.string s, .int .u8 c] w fun e w' => e = .returned (.int .i64 (Lib.indexByte s.data.toList c.toNat.toUInt8)) ∧ w' = w := by
  go_enter Try.func15, Try.ntmps15
  go_wp2
  rw [run_callFunc_extern Try.func16 (by kernel_rfl) (by kernel_rfl) (by kernel_rfl) (e := Extern.BytealgIndexByte.indexByte) (by kernel_rfl), Lib.run_indexByteString]
  simp only [Result.andThen]
  rw [Oper.upon_value]
  go_wp2
  go_ret
  exact ⟨rfl, rfl⟩
theorem indexByte_any (s : ByteArray) (c : Int) (w : World) :
    Calls Try.prog 14 #[.string s, .int .u8 c] w fun e w' => e = .returned (.int .i64 (Lib.indexByte s.data.toList c.toNat.toUInt8)) ∧ w' = w := by
  go_enter Try.func14, Try.ntmps14
  go_wp2_with (go_at_call 15; refine (slite_any _ _ _).mono ?_; rintro e w' ⟨rfl, rfl⟩)
  go_ret
  exact ⟨rfl, rfl⟩
end Go.Proofs.Qxb6600049a
