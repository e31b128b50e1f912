import Derived.Test.Qxb6601223aRows
import Derived.Test.Qxb6601223aPlain
import Derived.WalkKit
import Derived.WalkSpells
import Derived.Outline
import Derived.Lib.BytesEntry
import Derived.Lib.IndexLaws
import Derived.Deep.CutBlock
import Derived.Deep.LoopGhost
namespace Go.Proofs.Qxb6601223a
open Go.RowKit
set_option linter.unusedVariables false

/-- The text: 'len' bytes from cell o of block N on: f. -/
def Tx (w : World) (N o len : Nat) (f : Nat → Int) : Prop :=
  (∀ i, i < len → w.cell? ⟨N, o + i, none⟩ = some (.int .u8 (f i))) ∧ ∀ i, i < len → 0 ≤ f i ∧ f i < 256

theorem ib_none {l : List UInt8} {c : UInt8} (h : ∀ k : Nat, ¬ l[k]? = some c) : Lib.indexByte l c = -1 := by
  have h1 := Lib.indexByte_ge l c
  by_cases e : Lib.indexByte l c = -1
  · exact e
  · obtain ⟨o, ho⟩ := Int.eq_ofNat_of_zero_le (a := Lib.indexByte l c) (by omega)
    exact absurd (Lib.indexByte_some ho).1 (h o)
theorem ib_some {l : List UInt8} {c : UInt8} {j : Nat} (h : l[j]? = some c) (k : ∀ m : Nat, m < j → ¬ l[m]? = some c) : Lib.indexByte l c = j := by
  have h1 := Lib.indexByte_ge l c
  by_cases e : Lib.indexByte l c = -1
  · exact absurd h (Lib.indexByte_none e j)
  · obtain ⟨o, ho⟩ := Int.eq_ofNat_of_zero_le (a := Lib.indexByte l c) (by omega)
    obtain ⟨h2, h3⟩ := Lib.indexByte_some ho
    rcases Nat.lt_trichotomy o j with x | x | x
    · exact absurd h2 (k o x)
    · rw [ho, x]
    · exact absurd h (h3 j x)

theorem bytes_at (g : Nat → Int) (n m : Nat) (c : Int) (hb : ∀ i, i < n → 0 ≤ g i ∧ g i < 256) (h0 : 0 ≤ c) (h1 : c < 256) :
    (Lib.bytesOf ((List.range n).map g))[m]? = some c.toNat.toUInt8 ↔ (m < n ∧ g m = c) := by
  unfold Lib.bytesOf
  rw [List.map_map, List.getElem?_map]
  by_cases hm : m < n
  · have := hb m hm
    rw [List.getElem?_range hm]
    simp only [Option.map_some, Function.comp, Option.some.injEq]
    refine ⟨fun h => ⟨hm, ?_⟩, fun h => by rw [h.2]⟩
    have h2 := congrArg UInt8.toNat h
    simp [UInt8.toNat_ofNat'] at h2
    omega
  · rw [List.getElem?_eq_none (by simp; omega)]
    simp [hm]

set_option maxHeartbeats 1000000 in
set_option maxRecDepth 100000 in
/-- 24: bytes.IndexByte. -/
theorem idx_any (N o n c : Nat) (g : Nat → Int) (cv : Int) (w : World) (hc : ∀ i, i < n → w.cell? ⟨N, o + i, none⟩ = some (.int .u8 (g i))) :
    Calls Try.prog 24 #[.slice (some ⟨N, o, none⟩) n c, .int .u8 cv] w fun e w' => e = .returned (.int .i64 (Lib.indexByte (Lib.bytesOf ((List.range n).map g)) cv.toNat.toUInt8)) ∧ w' = w := by
  have hc' : ∀ i, i < n → w.cell? ⟨N, o + i, none⟩ = some (.int .u8 (((List.range n).map g).getD i 0)) := by
    intro i hi
    rw [hc i hi]
    simp [List.getD_eq_getElem?_getD, hi]
  clear hc
  go_enter Try.func24, Try.ntmps24
  go_wp2
  rw [run_callFunc_extern Try.func26 (by kernel_rfl) (by kernel_rfl) (by kernel_rfl) (e := Extern.BytealgIndexByte.indexByte) (by kernel_rfl), Lib.run_indexByteSlice w N o n c ((List.range n).map g) (by simp) hc' cv]
  simp only [Result.andThen]
  rw [Oper.upon_value]
  go_wp2
  go_ret
  exact ⟨rfl, rfl⟩
/-- 24, where the byte stands: from place i of the text up to place n. -/
theorem idx_hit (N o len c i n q : Nat) (f : Nat → Int) (cv : Int) (w : World) (ht : Tx w N o len f) (hn : n ≤ len) (h0 : 0 ≤ cv) (h1 : cv < 256) (hq : Fst f cv i n q) (hlt : q < n) (m : Nat) (hm : m = n - i) (d : Nat) (hd : q = i + d) :
    Calls Try.prog 24 #[.slice (some ⟨N, o + i, none⟩) m c, .int .u8 cv] w fun e w' => e = .returned (.int .i64 (d : Int)) ∧ w' = w := by
  subst hm
  obtain rfl : d = q - i := by omega
  obtain ⟨q1, q2, q3, q4⟩ := hq
  have := idx_any N (o + i) (n - i) c (fun k => f (i + k)) cv w (fun k hk => by rw [Nat.add_assoc]; exact ht.1 (i + k) (by omega))
  have e : Lib.indexByte (Lib.bytesOf ((List.range (n - i)).map (fun k => f (i + k)))) cv.toNat.toUInt8 = ((q - i : Nat) : Int) := by
    have hb : ∀ k, k < n - i → 0 ≤ f (i + k) ∧ f (i + k) < 256 := fun k hk => ht.2 _ (by omega)
    apply ib_some
    · refine (bytes_at (fun k => f (i + k)) (n - i) (q - i) cv hb h0 h1).2 ⟨by omega, ?_⟩
      have : i + (q - i) = q := by omega
      rcases q4 with q4 | q4
      · omega
      · simp only [this]; exact q4
    · intro m hm h
      obtain ⟨h2, h3⟩ := (bytes_at (fun k => f (i + k)) (n - i) m cv hb h0 h1).1 h
      exact q3 (i + m) (by omega) (by omega) h3
  rw [e] at this
  exact this
/-- 24, where it does not stand. -/
theorem idx_miss (N o len c i n : Nat) (f : Nat → Int) (cv : Int) (w : World) (ht : Tx w N o len f) (hn : n ≤ len) (h0 : 0 ≤ cv) (h1 : cv < 256) (hq : Fst f cv i n n) (m : Nat) (hm : m = n - i) :
    Calls Try.prog 24 #[.slice (some ⟨N, o + i, none⟩) m c, .int .u8 cv] w fun e w' => e = .returned (.int .i64 (-1)) ∧ w' = w := by
  subst hm
  obtain ⟨q1, q2, q3, q4⟩ := hq
  have := idx_any N (o + i) (n - i) c (fun k => f (i + k)) cv w (fun k hk => by rw [Nat.add_assoc]; exact ht.1 (i + k) (by omega))
  have e : Lib.indexByte (Lib.bytesOf ((List.range (n - i)).map (fun k => f (i + k)))) cv.toNat.toUInt8 = -1 := by
    have hb : ∀ k, k < n - i → 0 ≤ f (i + k) ∧ f (i + k) < 256 := fun k hk => ht.2 _ (by omega)
    apply ib_none
    intro m h
    obtain ⟨h2, h3⟩ := (bytes_at (fun k => f (i + k)) (n - i) m cv hb h0 h1).1 h
    exact q3 (i + m) (by omega) (by omega) h3
  rw [e] at this
  exact this

set_option maxHeartbeats 1000000 in
/-- 25: trimSpaces. -/
theorem trim_any (N o len cap p e t : Nat) (f : Nat → Int) (w : World) (ht : Tx w N o len f) (hl : len ≤ 1048576) (he : e ≤ len) (htr : Trim f p e t) :
    Calls Try.prog 25 #[.slice (some ⟨N, o, none⟩) len cap, .int .i64 (p : Int), .int .i64 (e : Int)] w fun x w' => x = .returned (.int .i64 (t : Int)) ∧ w' = w := by
  have HT : Hid (Trim f p e t) := htr
  obtain ⟨a1, a2, -, -⟩ := htr
  have HX : Hid (Tx w N o len f) := ht
  clear ht
  go_enter Try.func25, Try.ntmps25
  go_wp2_with fail
  go_loopg [2] (e - t) (fun g v wr => ∃ q : Nat, q = t + g ∧ q ≤ e ∧ v = .int .i64 (q : Int) ∧ wr = w)
  case atStart => exact ⟨e, by omega, Nat.le_refl _, rfl, rfl⟩
  case round =>
    obtain ⟨q, hq, hqe, rfl, rfl⟩ := hrel
    have HP : Hid (q = t + gk) := hq
    clear hq
    by_cases hlt : t < q
    · obtain ⟨m, rfl⟩ : ∃ m, q = m + 1 := ⟨q - 1, by omega⟩
      have hpi : (p : Int) < (m : Int) + 1 := by omega
      have hml : (m : Int) < (len : Int) := by omega
      have hc := HX.out.1 m (by omega)
      have e1 : (f m == 32) = true := by simp only [beq_iff_eq]; exact HT.out.2.2.1 m (by omega) (by omega)
      go_wp2_with fail
      go_roundg (gk - 1)
      case measure => have := HP.out; omega
      case rel => exact ⟨m, by have := HP.out; omega, by omega, by go_num, rfl⟩
    · obtain rfl : q = t := by have := HP.out; omega
      by_cases hsz : q = p
      · have hn : decide (p < q) = false := by simp; omega
        go_wp2_with fail
        go_ret
        exact ⟨rfl, rfl⟩
      · obtain ⟨m, rfl⟩ : ∃ m, q = m + 1 := ⟨q - 1, by omega⟩
        have hpi : (p : Int) < (m : Int) + 1 := by omega
        have hml : (m : Int) < (len : Int) := by omega
        have hc := HX.out.1 m (by omega)
        have e1 : (f m == 32) = false := by
          rcases HT.out.2.2.2 with h | h
          · omega
          · simp only [beq_eq_false_iff_ne]; exact h
        go_wp2_with fail
        go_ret
        exact ⟨rfl, rfl⟩
end Go.Proofs.Qxb6601223a
