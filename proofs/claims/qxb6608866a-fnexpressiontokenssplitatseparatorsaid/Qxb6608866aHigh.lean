import Derived.Test.Qxb6608866aRune
namespace Go.Proofs.Qxb6608866a
open Go.RowKit
set_option linter.unusedVariables false

theorem idx_rest (l : List UInt8) (hl : ∀ b ∈ l, b.toNat < 128) (c : Nat) (h : 128 ≤ c) (h2 : c < 256) : Lib.indexByte l (UInt8.ofNat c) = -1 := by
  have h1 := Lib.indexByte_ge l (UInt8.ofNat c)
  by_cases e : Lib.indexByte l (UInt8.ofNat c) = -1
  · exact e
  · obtain ⟨o, ho⟩ := Int.eq_ofNat_of_zero_le (a := Lib.indexByte l (UInt8.ofNat c)) (by omega)
    have := hl _ (List.mem_of_getElem? (Lib.indexByte_some ho).1)
    rw [UInt8.toNat_ofNat'] at this
    omega

/-- 34: utf8.ValidRune. -/
theorem valid_any (r : Int) (h : 128 ≤ r) (w : World) : Calls Try.prog 34 #[.int .i32 r] w fun e w' => (e = .returned (.bool true) ∧ Utf8.valid r = true ∨ e = .returned (.bool false)) ∧ w = w' := by
  by_cases h1 : r < 55296
  · have HV : Hid (Utf8.valid r = true) := by show Utf8.valid r = true; unfold Utf8.valid; simp; omega
    go_enter Try.func34, Try.ntmps34
    go_wp2
    go_ret
    exact ⟨Or.inl ⟨rfl, HV.out⟩, rfl⟩
  · by_cases h2 : 57343 < r
    · by_cases h3 : r ≤ 1114111
      · have HV : Hid (Utf8.valid r = true) := by show Utf8.valid r = true; unfold Utf8.valid; simp; omega
        go_enter Try.func34, Try.ntmps34
        go_wp2
        go_ret
        exact ⟨Or.inl ⟨rfl, HV.out⟩, rfl⟩
      · go_enter Try.func34, Try.ntmps34
        go_wp2
        go_ret
        exact ⟨Or.inr rfl, rfl⟩
    · go_enter Try.func34, Try.ntmps34
      go_wp2
      go_ret
      exact ⟨Or.inr rfl, rfl⟩

theorem byte_lt (b : UInt8) : b.toNat < 256 := b.toNat_lt
set_option maxRecDepth 100000 in
set_option maxHeartbeats 2000000 in
/-- 32: strings.IndexRune at another rune. -/
theorem idxRune_high (r : Int) (h : 128 ≤ r) (hr : r ≤ 2147483647) (hne : ¬ r = 65533) (w : World) :
    Calls Try.prog 32 #[.string ⟨#[32, 9, 10, 13, 40, 41]⟩, .int .i32 r] w fun e w' => e = .returned (.int .i64 (-1)) ∧ ∃ n, w' = w.drewN n := by
  have e0 : (r == 65533) = false := by simp only [beq_eq_false_iff_ne]; exact hne
  go_enter Try.func32, Try.ntmps32
  go_wp2_with fail
  refine (valid_any r h w).mono ?_
  rintro e w' ⟨he, rfl⟩
  rcases he with ⟨rfl, hv⟩ | rfl
  · obtain ⟨hs2, hs4, hlast⟩ := encode_facts r hv h
    generalize hrs : Utf8.encode r = rs at hs2 hs4 hlast
    have HRS : Hid (Utf8.encode r = rs) := hrs
    have hsz : rs.size = 2 ∨ rs.size = 3 ∨ rs.size = 4 := by omega
    have hl := hlast (by omega)
    clear hlast hv
    rcases hsz with hsz | hsz | hsz
    · have hb : 1 < rs.size := by omega
      have hl1 : 128 ≤ (rs[1]'hb).toNat := by
        have e : rs.size - 1 = 1 := by omega
        simp only [e] at hl
        exact hl
      have hl2 := byte_lt (rs[1]'hb)
      have f1 : ((((⟨#[32, 9, 10, 13, 40, 41]⟩ : ByteArray)[1]'(by decide)).toNat : Int) != ((rs[1]'hb).toNat : Int)) = true := by
        have e : (((⟨#[32, 9, 10, 13, 40, 41]⟩ : ByteArray)[1]'(by decide)).toNat : Int) = 9 := rfl
        rw [e]
        simp only [bne_iff_ne]; omega
      have HIX : Hid (Lib.indexByte [10, 13, 40, 41] (UInt8.ofNat (((rs[1]'hb).toNat : Int)).toNat) = -1) := idx_rest _ (by decide) _ (by omega) (by omega)
      have HC : ∀ W : World, Hid (Calls Try.prog 33 #[.string ((⟨#[32, 9, 10, 13, 40, 41]⟩ : ByteArray).extract 2 6), .int .u8 ((rs[1]'hb).toNat : Int)] W fun e w' => e = .returned (.int .i64 (-1)) ∧ w' = W) := by
        intro W
        have h1 := indexByte_any ((⟨#[32, 9, 10, 13, 40, 41]⟩ : ByteArray).extract 2 6) ((rs[1]'hb).toNat : Int) W
        have e : ((⟨#[32, 9, 10, 13, 40, 41]⟩ : ByteArray).extract 2 6).data.toList = [10, 13, 40, 41] := by decide +kernel
        rw [e, HIX.out] at h1
        exact h1
      clear hl
      go_wp2_with fail
      go_step3
      go_wp2_with fail
      clear hrs
      go_loopg [9, 10] 1 (fun g v9 v10 wr => v9 = .int .i64 1 ∧ v10 = .int .i64 0 ∧ wr = w)
      case atStart => exact ⟨rfl, rfl, rfl⟩
      case round =>
        obtain ⟨rfl, rfl, rfl⟩ := hrel
        go_wp2_with fail
        go_step3
        go_wp2_with fail
        go_region
        go_wp2_with fail
        go_quiet ((go_at_call 33; refine ((HC _).out).mono ?_; rintro e w1 ⟨rfl, rfl⟩; exact ⟨rfl, _, rfl⟩))
        go_wp2_with fail
        simp only [Exit.noGoto_ret, Exit.inBlock, Exit.then]
        go_ret
        exact ⟨rfl, _, rfl⟩
    · have hb : 2 < rs.size := by omega
      have hl1 : 128 ≤ (rs[2]'hb).toNat := by
        have e : rs.size - 1 = 2 := by omega
        simp only [e] at hl
        exact hl
      have hl2 := byte_lt (rs[2]'hb)
      have f1 : ((((⟨#[32, 9, 10, 13, 40, 41]⟩ : ByteArray)[2]'(by decide)).toNat : Int) != ((rs[2]'hb).toNat : Int)) = true := by
        have e : (((⟨#[32, 9, 10, 13, 40, 41]⟩ : ByteArray)[2]'(by decide)).toNat : Int) = 10 := rfl
        rw [e]
        simp only [bne_iff_ne]; omega
      have HIX : Hid (Lib.indexByte [13, 40, 41] (UInt8.ofNat (((rs[2]'hb).toNat : Int)).toNat) = -1) := idx_rest _ (by decide) _ (by omega) (by omega)
      have HC : ∀ W : World, Hid (Calls Try.prog 33 #[.string ((⟨#[32, 9, 10, 13, 40, 41]⟩ : ByteArray).extract 3 6), .int .u8 ((rs[2]'hb).toNat : Int)] W fun e w' => e = .returned (.int .i64 (-1)) ∧ w' = W) := by
        intro W
        have h1 := indexByte_any ((⟨#[32, 9, 10, 13, 40, 41]⟩ : ByteArray).extract 3 6) ((rs[2]'hb).toNat : Int) W
        have e : ((⟨#[32, 9, 10, 13, 40, 41]⟩ : ByteArray).extract 3 6).data.toList = [13, 40, 41] := by decide +kernel
        rw [e, HIX.out] at h1
        exact h1
      clear hl
      go_wp2_with fail
      go_step3
      go_wp2_with fail
      clear hrs
      go_loopg [9, 10] 1 (fun g v9 v10 wr => v9 = .int .i64 2 ∧ v10 = .int .i64 0 ∧ wr = w)
      case atStart => exact ⟨rfl, rfl, rfl⟩
      case round =>
        obtain ⟨rfl, rfl, rfl⟩ := hrel
        go_wp2_with fail
        go_step3
        go_wp2_with fail
        go_region
        go_wp2_with fail
        go_quiet ((go_at_call 33; refine ((HC _).out).mono ?_; rintro e w1 ⟨rfl, rfl⟩; exact ⟨rfl, _, rfl⟩))
        go_wp2_with fail
        simp only [Exit.noGoto_ret, Exit.inBlock, Exit.then]
        go_ret
        exact ⟨rfl, _, rfl⟩
    · have hb : 3 < rs.size := by omega
      have hl1 : 128 ≤ (rs[3]'hb).toNat := by
        have e : rs.size - 1 = 3 := by omega
        simp only [e] at hl
        exact hl
      have hl2 := byte_lt (rs[3]'hb)
      have f1 : ((((⟨#[32, 9, 10, 13, 40, 41]⟩ : ByteArray)[3]'(by decide)).toNat : Int) != ((rs[3]'hb).toNat : Int)) = true := by
        have e : (((⟨#[32, 9, 10, 13, 40, 41]⟩ : ByteArray)[3]'(by decide)).toNat : Int) = 13 := rfl
        rw [e]
        simp only [bne_iff_ne]; omega
      have HIX : Hid (Lib.indexByte [40, 41] (UInt8.ofNat (((rs[3]'hb).toNat : Int)).toNat) = -1) := idx_rest _ (by decide) _ (by omega) (by omega)
      have HC : ∀ W : World, Hid (Calls Try.prog 33 #[.string ((⟨#[32, 9, 10, 13, 40, 41]⟩ : ByteArray).extract 4 6), .int .u8 ((rs[3]'hb).toNat : Int)] W fun e w' => e = .returned (.int .i64 (-1)) ∧ w' = W) := by
        intro W
        have h1 := indexByte_any ((⟨#[32, 9, 10, 13, 40, 41]⟩ : ByteArray).extract 4 6) ((rs[3]'hb).toNat : Int) W
        have e : ((⟨#[32, 9, 10, 13, 40, 41]⟩ : ByteArray).extract 4 6).data.toList = [40, 41] := by decide +kernel
        rw [e, HIX.out] at h1
        exact h1
      clear hl
      go_wp2_with fail
      go_step3
      go_wp2_with fail
      clear hrs
      go_loopg [9, 10] 1 (fun g v9 v10 wr => v9 = .int .i64 3 ∧ v10 = .int .i64 0 ∧ wr = w)
      case atStart => exact ⟨rfl, rfl, rfl⟩
      case round =>
        obtain ⟨rfl, rfl, rfl⟩ := hrel
        go_wp2_with fail
        go_step3
        go_wp2_with fail
        go_region
        go_wp2_with fail
        go_quiet ((go_at_call 33; refine ((HC _).out).mono ?_; rintro e w1 ⟨rfl, rfl⟩; exact ⟨rfl, _, rfl⟩))
        go_wp2_with fail
        simp only [Exit.noGoto_ret, Exit.inBlock, Exit.then]
        go_ret
        exact ⟨rfl, _, rfl⟩
  · go_wp2_with fail
    go_ret
    exact ⟨rfl, 0, rfl⟩
end Go.Proofs.Qxb6608866a
