import Derived.Test.Qxb6602523aRows
import Derived.WalkKit
import Derived.WalkSpells
import Derived.WalkLawsBesides
import Derived.Outline
import Derived.OwnWalk
import Derived.BigQuiet
import Derived.Lib.Bytealg
import Derived.RowKit3
import Derived.Deep.CutBlock
import Derived.Deep.LoopGhost
namespace Go.Proofs.Qxb6602523a
open Go.RowKit
set_option linter.unusedVariables false

/-- 25, 22: strings.IndexByte. -/
theorem slite_any (s : ByteArray) (c : Int) (w : World) :
    Calls Try.prog 25 #[.string s, .int .u8 c] w fun e w' => e = .returned (.int .i64 (Lib.indexByte s.data.toList c.toNat.toUInt8)) ∧ w' = w := by
  go_enter Try.func25, Try.ntmps25
  go_wp2
  rw [run_callFunc_extern Try.func27 (by kernel_rfl) (by kernel_rfl) (by kernel_rfl) (e := Extern.BytealgIndexByte.indexByte) (by kernel_rfl), Lib.run_indexByteString]
  simp only [Result.andThen]
  rw [Oper.upon_value]
  go_wp2
  go_ret
  exact ⟨rfl, rfl⟩
theorem indexByte_any (s : ByteArray) (c : Int) (w : World) :
    Calls Try.prog 22 #[.string s, .int .u8 c] w fun e w' => e = .returned (.int .i64 (Lib.indexByte s.data.toList c.toNat.toUInt8)) ∧ w' = w := by
  go_enter Try.func22, Try.ntmps22
  go_wp2_with (go_at_call 25; refine (slite_any _ _ _).mono ?_; rintro e w' ⟨rfl, rfl⟩)
  go_ret
  exact ⟨rfl, rfl⟩
theorem kt_any (w : World) : Calls Try.prog 10 #[] w fun e w' => e = .returned (.int .i64 0) ∧ w' = w := by
  go_enter Try.func10, Try.ntmps10
  go_wp2
  go_ret
  exact ⟨rfl, rfl⟩
theorem kl_any (w : World) : Calls Try.prog 11 #[] w fun e w' => e = .returned (.int .i64 1) ∧ w' = w := by
  go_enter Try.func11, Try.ntmps11
  go_wp2
  go_ret
  exact ⟨rfl, rfl⟩
theorem zzb_ok (a0 : Bool) (a1 : Int) (s : ByteArray) (w : World) (hs : s.size ≤ 1048576) :
    Calls Try.prog 6 #[.bool a0, .int .i64 a1, .string s] w fun e w' => e = .returned (.bool true) ∧ w = w' := by
  go_enter Try.func6, Try.ntmps6
  go_wp2
  go_ret
  exact ⟨rfl, rfl⟩
theorem zzb_no (a0 : Bool) (a1 : Int) (s : ByteArray) (w : World) (h : s.size ≤ maxLen) (hs : 1048576 < s.size) :
    Calls Try.prog 6 #[.bool a0, .int .i64 a1, .string s] w fun e w' => e = .returned (.bool false) ∧ w = w' := by
  unfold maxLen at h
  go_enter Try.func6, Try.ntmps6
  go_wp2
  go_ret
  exact ⟨rfl, rfl⟩
/-- 14: ZZAtLineStart. -/
theorem als_any (P : Nat) (b : Bool) (w : World) (h : w.cell? ⟨P, 7, none⟩ = some (.bool b)) :
    Calls Try.prog 14 #[.pointer (some ⟨P, 0, none⟩)] w fun e w' => e = .returned (.bool b) ∧ w = w' := by
  go_enter Try.func14, Try.ntmps14
  go_wp2
  go_ret
  exact ⟨rfl, rfl⟩
/-- 9: ZZFrameLen. -/
theorem fl_any (P F d f n : Nat) (v : Option Addr) (c : Nat) (w : World) (h8 : w.cell? ⟨P, 8, none⟩ = some (.slice (some ⟨F, 0, none⟩) d d)) (hf : f < d)
    (h : w.cell? ⟨F, f * 8 + 7, none⟩ = some (.slice v n c)) :
    Calls Try.prog 9 #[.pointer (some ⟨P, 0, none⟩), .int .i64 (f : Int)] w fun e w' => e = .returned (.int .i64 (n : Int)) ∧ w = w' := by
  have h1 : (f : Int) < (d : Int) := by omega
  go_enter Try.func9, Try.ntmps9
  go_wp2
  go_ret
  exact ⟨rfl, rfl⟩
/-- 12: ZZNodeKind. -/
theorem nk_any (P F d f n i : Nat) (g c : Nat) (k : Int) (w : World) (h8 : w.cell? ⟨P, 8, none⟩ = some (.slice (some ⟨F, 0, none⟩) d d)) (hf : f < d)
    (h : w.cell? ⟨F, f * 8 + 7, none⟩ = some (.slice (some ⟨g, 0, none⟩) n c)) (hi : i < n) (hk : w.cell? ⟨g, i * 7, none⟩ = some (.int .i64 k)) :
    Calls Try.prog 12 #[.pointer (some ⟨P, 0, none⟩), .int .i64 (f : Int), .int .i64 (i : Int)] w fun e w' => e = .returned (.int .i64 k) ∧ w = w' := by
  have h1 : (f : Int) < (d : Int) := by omega
  have h2 : (i : Int) < (n : Int) := by omega
  go_enter Try.func12, Try.ntmps12
  go_wp2
  go_ret
  exact ⟨rfl, rfl⟩
/-- 13: ZZNodeText. -/
theorem nt_any (P F d f n i : Nat) (g c : Nat) (t : ByteArray) (w : World) (h8 : w.cell? ⟨P, 8, none⟩ = some (.slice (some ⟨F, 0, none⟩) d d)) (hf : f < d)
    (h : w.cell? ⟨F, f * 8 + 7, none⟩ = some (.slice (some ⟨g, 0, none⟩) n c)) (hi : i < n) (hk : w.cell? ⟨g, i * 7 + 1, none⟩ = some (.string t)) :
    Calls Try.prog 13 #[.pointer (some ⟨P, 0, none⟩), .int .i64 (f : Int), .int .i64 (i : Int)] w fun e w' => e = .returned (.string t) ∧ w = w' := by
  have h1 : (f : Int) < (d : Int) := by omega
  have h2 : (i : Int) < (n : Int) := by omega
  go_enter Try.func13, Try.ntmps13
  go_wp2
  go_ret
  exact ⟨rfl, rfl⟩
end Go.Proofs.Qxb6602523a
