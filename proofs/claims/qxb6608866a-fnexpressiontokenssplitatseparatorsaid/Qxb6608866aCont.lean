import Derived.Test.Qxb6608866aHigh
namespace Go.Proofs.Qxb6608866a
open Go.RowKit
set_option linter.unusedVariables false

theorem below_new_drewN (w : World) (n : Nat) : Below w.heap.size w (w.drewN n) := ⟨rfl, rfl, rfl, Nat.le_refl _, fun _ _ => rfl⟩
/-- 32 at any rune. -/
theorem idxRune_any (r : Int) (h0 : 0 ≤ r) (hr : r ≤ 2147483647) (w : World) :
    Calls Try.prog 32 #[.string ⟨#[32, 9, 10, 13, 40, 41]⟩, .int .i32 r] w fun e w' => (∃ x : Int, e = .returned (.int .i64 x) ∧ decide (0 ≤ x) = sepR r) ∧ Below w.heap.size w w' := by
  by_cases h1 : r < 128
  · exact (idxRune_ascii r h0 h1 w).mono fun e w' ⟨he, hw⟩ => ⟨⟨_, he, idxS h0 h1⟩, by rw [hw]; exact Below.refl _ _⟩
  · have hs : sepR r = false := by unfold sepR; simp; omega
    by_cases h2 : r = 65533
    · subst h2
      exact (idxRune_err w).mono fun e w' ⟨he, hb⟩ => ⟨⟨_, he, by rw [hs]; rfl⟩, hb⟩
    · exact (idxRune_high r (by omega) hr h2 w).mono fun e w' ⟨he, n, hw⟩ => ⟨⟨_, he, by rw [hs]; rfl⟩, by rw [hw]; exact below_new_drewN w n⟩
/-- 31: strings.ContainsRune. -/
theorem cont_any (r : Int) (h0 : 0 ≤ r) (hr : r ≤ 2147483647) (w : World) :
    Calls Try.prog 31 #[.string ⟨#[32, 9, 10, 13, 40, 41]⟩, .int .i32 r] w fun e w' => e = .returned (.bool (sepR r)) ∧ Below w.heap.size w w' := by
  go_enter Try.func31, Try.ntmps31
  go_wp2_with fail
  refine (idxRune_any r h0 hr w).mono ?_
  rintro e w1 ⟨⟨x, rfl, hx⟩, hb⟩
  have HX : Hid (decide (0 ≤ x) = sepR r) := hx
  clear hx
  go_wp2_with fail
  go_ret
  exact ⟨ret_bool HX.out, hb⟩

/-- The byte at k, as a byte. -/
theorem get_lt (s : ByteArray) (k : Nat) (h : k < s.size) : s.get! k = s[k] := get_at s k h
/-- What 'range' steps over beyond ASCII: bytes of 128 and more, within the text. -/
theorem decode_bytes (s : ByteArray) (pos : Nat) (h : pos < s.size) (ha : 128 ≤ (s[pos]'h).toNat) :
    pos + (Utf8.decode s pos).2 ≤ s.size ∧ ∀ k, k < (Utf8.decode s pos).2 → 128 ≤ (s.get! (pos + k)).toNat := by
  have h0 : 128 ≤ (s.get! (pos + 0)).toNat := by rw [get_at s pos h]; exact ha
  have one : pos + 1 ≤ s.size ∧ ∀ k, k < 1 → 128 ≤ (s.get! (pos + k)).toNat := by
    refine ⟨by omega, fun k hk => ?_⟩
    obtain rfl : k = 0 := by omega
    exact h0
  unfold Utf8.decode
  simp only
  rw [if_neg (by omega)]
  split
  · rename_i hc
    simp at hc
    split
    · refine ⟨by simp only; omega, fun k hk => ?_⟩
      simp only at hk
      rcases (by omega : k = 0 ∨ k = 1) with rfl | rfl
      · exact h0
      · omega
    · exact one
  · split
    · rename_i hc
      simp at hc
      split
      · refine ⟨by simp only; omega, fun k hk => ?_⟩
        simp only at hk
        rcases (by omega : k = 0 ∨ k = 1 ∨ k = 2) with rfl | rfl | rfl
        · exact h0
        · omega
        · omega
      · exact one
    · split
      · rename_i hc
        simp at hc
        split
        · refine ⟨by simp only; omega, fun k hk => ?_⟩
          simp only at hk
          rcases (by omega : k = 0 ∨ k = 1 ∨ k = 2 ∨ k = 3) with rfl | rfl | rfl | rfl
          · exact h0
          · omega
          · omega
          · omega
        · exact one
      · exact one
end Go.Proofs.Qxb6608866a
