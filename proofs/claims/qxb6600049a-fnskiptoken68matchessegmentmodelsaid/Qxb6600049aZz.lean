import Derived.Test.Qxb6600049aSkip
namespace Go.Proofs.Qxb6600049a
open Go.RowKit
set_option linter.unusedVariables false

theorem rd_new (w : World) (s : ByteArray) (k : Nat) : Rd (w.alloc (.cells #[.string s, .int .i64 (k : Int)] 30)) w.heap.size s k :=
  ⟨by simp [go_sem], by simp [go_sem], by simp [go_sem]⟩

/-- 8: ZZSkipToken68. -/
theorem zz_any (s : ByteArray) (k r1 r2 r3 r4 : Nat) (w : World) (hs : s.size ≤ maxLen)
    (k1 : Up (at_ s) spB s.size k r1) (k2 : Up (at_ s) tokB s.size r1 r2) (k3 : Up (at_ s) eqB s.size r2 r3) (k4 : Up (at_ s) spB s.size r3 r4)
    (pb : Bool) (q : Nat) (hq : (pb = true ∧ q = r4 ∧ k < r1 ∧ r1 < r2 ∧ (r4 = s.size ∨ at_ s r4 = 44)) ∨ (pb = false ∧ q = k ∧ ¬ (k < r1 ∧ r1 < r2 ∧ (r4 = s.size ∨ at_ s r4 = 44)))) :
    Calls Try.prog 8 #[.string s, .int .i64 (k : Int)] w fun e w' => e = .returned (.tuple #[.bool pb, .int .i64 (q : Int)]) ∧ Grown w w' := by
  have HC : ∀ w', Rd w' w.heap.size s k → Hid (Calls Try.prog 10 #[.pointer (some ⟨w.heap.size, 0, none⟩)] w' fun e w'' => e = .returned (.bool pb) ∧ Rd w'' w.heap.size s q ∧ Kp w.heap.size w' w'') :=
    fun w' h => skip_any w.heap.size s k r1 r2 r3 r4 w' hs h k1 k2 k3 k4 pb q hq
  clear hq k1 k2 k3 k4
  go_enter Try.func8, Try.ntmps8
  go_wp2_with fail
  refine (HC _ (rd_new w s k)).out.mono ?_
  rintro e w1 ⟨rfl, hr, hk⟩
  have hg : Grown w w1 := hk w (Grown.alloc (Grown.refl _) _ _) (Nat.le_refl _)
  obtain ⟨g0, g1, gf⟩ := hr
  go_wp2
  go_quiet (fail)
  go_wp2
  go_ret2
  exact ⟨rfl, hg⟩
end Go.Proofs.Qxb6600049a
