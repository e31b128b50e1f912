import Derived.Test.Qxb6601223aOuts
namespace Go.Proofs.Qxb6601223a
open Go.RowKit
set_option linter.unusedVariables false

theorem trim_nil (w : World) : Calls Try.prog 25 #[.slice none 0 0, .int .i64 0, .int .i64 0] w fun x w' => x = .returned (.int .i64 0) ∧ w' = w := by
  go_enter Try.func25, Try.ntmps25
  go_wp2_with fail
  go_loopg [2] 0 (fun g v wr => v = .int .i64 0 ∧ wr = w)
  case atStart => exact ⟨rfl, rfl⟩
  case round =>
    obtain ⟨rfl, rfl⟩ := hrel
    go_wp2_with fail
    go_ret
    exact ⟨rfl, rfl⟩
theorem plain_nil (w : World) : Calls Try.prog 23 #[.slice none 0 0, .int .i64 0, .int .i64 0] w fun x w' => x = .returned (.tuple #[.int .i64 0, .bool false, .bool true]) ∧ w' = w := by
  go_enter Try.func23, Try.ntmps23
  go_wp2_with fail
  go_loopg [6, 7, 9] 0 (fun g v6 v7 v9 wr => v6 = .int .i64 0 ∧ v7 = .bool false ∧ v9 = .int .i64 0 ∧ wr = w)
  case atStart => exact ⟨rfl, rfl, rfl, rfl⟩
  case round =>
    obtain ⟨rfl, rfl, rfl, rfl⟩ := hrel
    go_wp2_with fail
    go_loopg [6, 7, 11] 0 (fun g v6 v7 v11 wr' => v6 = .int .i64 0 ∧ v7 = .bool false ∧ v11 = .int .i64 0 ∧ wr' = wr)
    case atStart => exact ⟨rfl, rfl, rfl, rfl⟩
    case round =>
      obtain ⟨rfl, rfl, rfl, rfl⟩ := hrel
      go_wp2_with (go_at_call 25; refine (trim_nil _).mono ?_; rintro e' w' ⟨rfl, rfl⟩)
      go_ret3
      exact ⟨rfl, rfl⟩
theorem model_nil (w : World) : Calls Try.prog 18 #[.slice none 0 0, .int .i64 0, .int .i64 0] w fun x w' => x = .returned (.tuple #[.int .i64 0, .bool false, .bool true]) ∧ w' = w := by
  go_enter Try.func18, Try.ntmps18
  go_wp2_with fail
  go_loopg [9, 10, 11] 0 (fun g v6 v7 v9 wr => v6 = .int .i64 0 ∧ v7 = .bool false ∧ v9 = .int .i64 (-1) ∧ wr = w)
  case atStart => exact ⟨rfl, rfl, rfl, rfl⟩
  case round =>
    obtain ⟨rfl, rfl, rfl, rfl⟩ := hrel
    go_wp2_with fail
    go_loopg [12] 0 (fun g v12 wr' => v12 = .int .i64 0 ∧ wr' = wr)
    case atStart => exact ⟨rfl, rfl⟩
    case round =>
      obtain ⟨rfl, rfl⟩ := hrel
      go_wp2_with fail
      go_loopg [13] 0 (fun g v13 wr'' => v13 = .int .i64 0 ∧ wr'' = wr)
      case atStart => exact ⟨rfl, rfl⟩
      case round =>
        obtain ⟨rfl, rfl⟩ := hrel
        go_wp2_with fail
        go_ret3
        exact ⟨rfl, rfl⟩
theorem law_nil (w : World) :
    Calls Try.prog 6 #[.slice none 0 0, .int .i64 0, .int .i64 0] w fun e w' => e = .returned (.bool true) ∧ Below w.heap.size w w' := by
  have hnn := fun (W : World) => run_neq_slice_nil_any (P := Try.prog) W 27 5 none 0 0 0 0 Try.underlying27
  go_enter Try.func6, Try.ntmps6
  go_wp2_with (first
    | (go_at_call 16; refine (zzb_ok _ _ _ _ _ _ (by omega)).mono ?_; rintro e' w' ⟨rfl, rfl⟩)
    | (go_at_call 17; refine (zzp_any _ _ _ _ _ _ _ _ _ (plain_nil _)).mono ?_; rintro e' w' ⟨rfl, rfl⟩)
    | (go_at_call 18; refine (model_nil _).mono ?_; rintro e' w' ⟨rfl, rfl⟩))
  go_ret
  exact ⟨rfl, Below.refl _ _⟩
end Go.Proofs.Qxb6601223a
