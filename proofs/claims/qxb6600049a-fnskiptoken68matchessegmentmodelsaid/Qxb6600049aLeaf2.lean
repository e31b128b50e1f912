import Derived.Test.Qxb6600049aLeaf
namespace Go.Proofs.Qxb6600049a
open Go.RowKit
set_option linter.unusedVariables false

theorem gaps (c : Int) : (97 ≤ c ∧ c ≤ 122) ∨ (65 ≤ c ∧ c ≤ 90) ∨ (48 ≤ c ∧ c ≤ 57) ∨ c = 45 ∨ c = 46 ∨ c = 95 ∨ c = 126 ∨ c = 43 ∨ c = 47 ∨
    (c < 48 ∧ ¬ c = 45 ∧ ¬ c = 46 ∧ ¬ c = 43 ∧ ¬ c = 47) ∨ (58 ≤ c ∧ c ≤ 64) ∨ (91 ≤ c ∧ c ≤ 96 ∧ ¬ c = 95) ∨ (123 ≤ c ∧ ¬ c = 126) := by omega
set_option maxHeartbeats 1000000 in
/-- 7: isToken68Byte. -/
theorem isTok_any (c : Int) (w : World) :
    Calls Try.prog 7 #[.int .u8 c] w fun e w' => e = .returned (.bool (tokB c)) ∧ w' = w := by
  rcases gaps c with ⟨h1, h2⟩ | ⟨h1, h2⟩ | ⟨h1, h2⟩ | rfl | rfl | rfl | rfl | rfl | rfl | ⟨h1, h2, h3, h4, h5⟩ | ⟨h1, h2⟩ | ⟨h1, h2, h3⟩ | ⟨h1, h2⟩
  all_goals
    go_enter Try.func7, Try.ntmps7
    go_wp2
    go_ret
    exact ⟨ret_bool (by rw [Bool.eq_iff_iff]; simp [tokB]; try omega), rfl⟩
theorem idxF : ∀ n : Fin 256, (0 ≤ Lib.indexByte [45, 46, 95, 126, 43, 47] (UInt8.ofNat n.val)) ↔ (n.val = 45 ∨ n.val = 46 ∨ n.val = 95 ∨ n.val = 126 ∨ n.val = 43 ∨ n.val = 47) := by decide +kernel
theorem idx {c : Int} (h0 : 0 ≤ c) (h1 : c < 256) : 0 ≤ Lib.indexByte [45, 46, 95, 126, 43, 47] (UInt8.ofNat c.toNat) ↔ (c = 45 ∨ c = 46 ∨ c = 95 ∨ c = 126 ∨ c = 43 ∨ c = 47) := by
  have := idxF ⟨c.toNat, by omega⟩
  simp only at this
  rw [this]; omega
set_option maxHeartbeats 1000000 in
/-- 13: isToken68Char. -/
theorem isTokC_any (c : Int) (h0 : 0 ≤ c) (h1 : c < 256) (w : World) :
    Calls Try.prog 13 #[.int .u8 c] w fun e w' => e = .returned (.bool (tokB c)) ∧ w' = w := by
  have hi := idx h0 h1
  have hg : (97 ≤ c ∧ c ≤ 122) ∨ (65 ≤ c ∧ c ≤ 90) ∨ (48 ≤ c ∧ c ≤ 57) ∨ (c < 48) ∨ (58 ≤ c ∧ c ≤ 64) ∨ (91 ≤ c ∧ c ≤ 96) ∨ (123 ≤ c) := by omega
  have HI : Hid (0 ≤ Lib.indexByte [45, 46, 95, 126, 43, 47] (UInt8.ofNat c.toNat) ↔ (c = 45 ∨ c = 46 ∨ c = 95 ∨ c = 126 ∨ c = 43 ∨ c = 47)) := hi
  clear hi
  rcases hg with ⟨h2, h3⟩ | ⟨h2, h3⟩ | ⟨h2, h3⟩ | h2 | ⟨h2, h3⟩ | ⟨h2, h3⟩ | h2
  · go_enter Try.func13, Try.ntmps13
    go_wp2
    go_ret
    exact ⟨ret_bool (by rw [Bool.eq_iff_iff]; simp [tokB]; try omega), rfl⟩
  · go_enter Try.func13, Try.ntmps13
    go_wp2
    go_ret
    exact ⟨ret_bool (by rw [Bool.eq_iff_iff]; simp [tokB]; try omega), rfl⟩
  · go_enter Try.func13, Try.ntmps13
    go_wp2
    go_ret
    exact ⟨ret_bool (by rw [Bool.eq_iff_iff]; simp [tokB]; try omega), rfl⟩
  all_goals
    go_enter Try.func13, Try.ntmps13
    go_wp2_with (go_at_call 14; refine (indexByte_any _ _ _).mono ?_; rintro e w' ⟨rfl, rfl⟩)
    go_ret
    refine ⟨ret_bool ?_, rfl⟩
    rw [Bool.eq_iff_iff]; simp only [Bool.or_eq_true, decide_eq_true_eq, HI.out, tokB]; omega
/-- 12: done. -/
theorem done_any (b : Nat) (s : ByteArray) (k : Nat) (w : World) (h0 : w.cell? ⟨b, 0, none⟩ = some (.string s)) (h1 : w.cell? ⟨b, 1, none⟩ = some (.int .i64 k)) :
    Calls Try.prog 12 #[.pointer (some ⟨b, 0, none⟩)] w fun e w' => e = .returned (.bool ((k : Int) == (s.size : Int))) ∧ ∃ n, w' = w.drewN n := by
  go_enter Try.func12, Try.ntmps12
  go_wp2
  go_quiet (fail)
  go_wp2
  go_ret
  exact ⟨rfl, _, rfl⟩
end Go.Proofs.Qxb6600049a
