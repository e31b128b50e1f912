import Derived.Test.Qxb6601223aReal
import Derived.Test.Qxb6601223aModel
import Derived.Laws.CopyOwn
import Derived.OwnWalk
namespace Go.Proofs.Qxb6601223a
open Go.RowKit
set_option linter.unusedVariables false

/-- 16: the bound. -/
theorem zzb_ok (a : Option Addr) (len cap : Nat) (p n : Int) (w : World) (h : len ≤ 1048576) :
    Calls Try.prog 16 #[.slice a len cap, .int .i64 p, .int .i64 n] w fun e w' => e = .returned (.bool true) ∧ w = w' := by
  go_enter Try.func16, Try.ntmps16
  go_wp2
  go_ret
  exact ⟨rfl, rfl⟩
theorem zzb_no (a : Option Addr) (len cap : Nat) (p n : Int) (w : World) (h : 1048576 < len) :
    Calls Try.prog 16 #[.slice a len cap, .int .i64 p, .int .i64 n] w fun e w' => e = .returned (.bool false) ∧ w = w' := by
  go_enter Try.func16, Try.ntmps16
  go_wp2
  go_ret
  exact ⟨rfl, rfl⟩
/-- The law where the text is too long. -/
theorem law_long (a : Option Addr) (len cap : Nat) (p n : Int) (w : World) (h : 1048576 < len) :
    Calls Try.prog 6 #[.slice a len cap, .int .i64 p, .int .i64 n] w fun e w' => e = .returned (.bool true) ∧ Below w.heap.size w w' := by
  go_enter Try.func6, Try.ntmps6
  go_wp2_with (go_at_call 16; refine (zzb_no _ _ _ _ _ _ h).mono ?_; rintro e' w' ⟨rfl, rfl⟩)
  go_ret
  exact ⟨rfl, Below.refl _ _⟩
theorem law_out1 (a : Option Addr) (len cap : Nat) (p n : Int) (w : World) (h : len ≤ 1048576) (h1 : p < 0) :
    Calls Try.prog 6 #[.slice a len cap, .int .i64 p, .int .i64 n] w fun e w' => e = .returned (.bool true) ∧ Below w.heap.size w w' := by
  have hl : (len : Int) ≤ 1048576 := by omega
  go_enter Try.func6, Try.ntmps6
  go_wp2_with (go_at_call 16; refine (zzb_ok _ _ _ _ _ _ h).mono ?_; rintro e' w' ⟨rfl, rfl⟩)
  go_ret
  exact ⟨rfl, Below.refl _ _⟩
theorem law_out2 (a : Option Addr) (len cap : Nat) (p n : Int) (w : World) (h : len ≤ 1048576) (h1 : 0 ≤ p) (h2 : n < p) :
    Calls Try.prog 6 #[.slice a len cap, .int .i64 p, .int .i64 n] w fun e w' => e = .returned (.bool true) ∧ Below w.heap.size w w' := by
  have hl : (len : Int) ≤ 1048576 := by omega
  go_enter Try.func6, Try.ntmps6
  go_wp2_with (go_at_call 16; refine (zzb_ok _ _ _ _ _ _ h).mono ?_; rintro e' w' ⟨rfl, rfl⟩)
  go_ret
  exact ⟨rfl, Below.refl _ _⟩
theorem law_out3 (a : Option Addr) (len cap : Nat) (p n : Int) (w : World) (h : len ≤ 1048576) (h1 : 0 ≤ p) (h2 : p ≤ n) (h3 : (len : Int) < n) :
    Calls Try.prog 6 #[.slice a len cap, .int .i64 p, .int .i64 n] w fun e w' => e = .returned (.bool true) ∧ Below w.heap.size w w' := by
  have hl : (len : Int) ≤ 1048576 := by omega
  go_enter Try.func6, Try.ntmps6
  go_wp2_with (go_at_call 16; refine (zzb_ok _ _ _ _ _ _ h).mono ?_; rintro e' w' ⟨rfl, rfl⟩)
  go_ret
  exact ⟨rfl, Below.refl _ _⟩
/-- A '#' at place 0. -/
theorem law_hash (b off len cap : Nat) (n : Int) (c : Int) (w : World) (h : len ≤ 1048576) (h2 : 0 < n) (h3 : n ≤ (len : Int)) (hc : w.cell? ⟨b, off, none⟩ = some (.int .u8 c)) (e1 : (c == 35) = true) :
    Calls Try.prog 6 #[.slice (some ⟨b, off, none⟩) len cap, .int .i64 0, .int .i64 n] w fun e w' => e = .returned (.bool true) ∧ Below w.heap.size w w' := by
  have hl : (len : Int) ≤ 1048576 := by omega
  have hl0 : (0 : Int) < (len : Int) := by omega
  go_enter Try.func6, Try.ntmps6
  go_wp2_with (go_at_call 16; refine (zzb_ok _ _ _ _ _ _ h).mono ?_; rintro e' w' ⟨rfl, rfl⟩)
  go_ret
  exact ⟨rfl, Below.refl _ _⟩
/-- 17: ZZplainEnd. -/
theorem zzp_any (a : Option Addr) (len cap : Nat) (p n : Int) (T : Int) (B R : Bool) (w : World)
    (h : Calls Try.prog 23 #[.slice a len cap, .int .i64 p, .int .i64 n] w fun x w' => x = .returned (.tuple #[.int .i64 T, .bool B, .bool R]) ∧ w' = w) :
    Calls Try.prog 17 #[.slice a len cap, .int .i64 p, .int .i64 n] w fun x w' => x = .returned (.tuple #[.int .i64 T, .bool B, .bool R]) ∧ w' = w := by
  have H : Hid (Calls Try.prog 23 #[.slice a len cap, .int .i64 p, .int .i64 n] w fun x w' => x = .returned (.tuple #[.int .i64 T, .bool B, .bool R]) ∧ w' = w) := h
  clear h
  go_enter Try.func17, Try.ntmps17
  go_wp2_with fail
  refine H.out.mono ?_
  rintro x w' ⟨rfl, rfl⟩
  go_wp2_with fail
  go_ret3
  exact ⟨rfl, rfl⟩

/-- The two answers are one. -/
theorem both (N o len cap p n : Nat) (f : Nat → Int) (w : World) (ht : Tx w N o len f) (hl : len ≤ 1048576) (hlc : len ≤ cap) (hpn : p ≤ n) (hn : n ≤ len) (h0 : p = 0 → 0 < n → ¬ f 0 = 35) :
    ∃ (T : Int) (B R : Bool),
      Hid (Calls Try.prog 17 #[.slice (some ⟨N, o, none⟩) len cap, .int .i64 (p : Int), .int .i64 (n : Int)] w fun x w' => x = .returned (.tuple #[.int .i64 T, .bool B, .bool R]) ∧ w' = w) ∧
      Hid (Calls Try.prog 18 #[.slice (some ⟨N, o, none⟩) len cap, .int .i64 (p : Int), .int .i64 (n : Int)] w fun x w' => x = .returned (.tuple #[.int .i64 T, .bool B, .bool R]) ∧ w' = w) := by
  obtain ⟨e, b, hcm⟩ := cm_ex f n (n - p) p (by omega)
  obtain ⟨t, htr⟩ := trim_ex' f hcm.1
  by_cases hbad : ∃ m, p ≤ m ∧ m < e ∧ Bad f n m
  · exact ⟨0, false, false, zzp_any _ _ _ _ _ _ _ _ _ (plain_no N o len cap p n e b f w ht hl hlc hpn hn h0 hcm hbad), model_no N o len cap p n e b f w ht hl hpn hn hcm hbad⟩
  · have hgood : ∀ m, p ≤ m → m < e → ¬ Bad f n m := fun m h1 h2 h3 => hbad ⟨m, h1, h2, h3⟩
    exact ⟨t, b, true, zzp_any _ _ _ _ _ _ _ _ _ (plain_ok N o len cap p n e t b f w ht hl hlc hpn hn h0 hcm htr hgood), model_ok N o len cap p n e t b f w ht hl hpn hn hcm htr hgood⟩

/-- A block that holds the bytes f. -/
theorem tx_cells {w : World} {N len : Nat} {f : Nat → Int} (hby : ∀ i, i < len → 0 ≤ f i ∧ f i < 256)
    (h : w.heap[N]? = some (.cells ((List.range len).map (fun i => Value.int .u8 (f i))).toArray 5 (0, 0))) : Tx w N 0 len f := by
  refine ⟨fun i hi => ?_, hby⟩
  simp [World.cell?, h, hi]

theorem own_cur {w : World} {B N len : Nat} {v : Value} {xs : List Value} (hv : v = .slice (some ⟨N, 0, none⟩) len len) (h : w.ownsRow B 5 1 v len xs) : ∃ cur : List Value, cur.length = len ∧ w.heap[N]? = some (.cells cur.toArray 5 (0, 0)) := by
  subst hv
  obtain ⟨h1, h2⟩ := h
  rcases h2 with ⟨h3, _⟩ | ⟨g, cap, cur, h3, h4, h5, h6, h7, h8, h9⟩
  · cases h3
  · cases h3
    exact ⟨cur.toList, by simp; omega, by simpa using h5⟩

theorem info5 : (Try.prog.info? 5).map (fun i => (i.zero, i.size, i.bytes)) = some (some (.int .u8 0), 1, 1) := by kernel_rfl
theorem size5 : (Try.prog.info? 5).map (·.size) = some 1 := by kernel_rfl

/-- The builtin copy into the row that make has just laid. -/
theorem copy_run {w w1 : World} {N len cap : Nat} {x : Addr} {f : Nat → Int} {cur : List Value} (hcur : cur.length = len) (hg : w1.heap[N]? = some (.cells cur.toArray 5 (0, 0)))
    (hby : ∀ i, i < len → 0 ≤ f i ∧ f i < 256) (hsrc : ∀ i, i < len → w1.cell? (x.add i) = some (.int .u8 (f i))) (hb : Below N w w1) :
    ∃ w2, (Builtin.copy_ #[27, 27] 3 #[.slice (some ⟨N, 0, none⟩) len len, .slice (some x) len cap]).run Try.prog w1 = .ok (goInt len) w2 ∧ Tx w2 N 0 len f ∧ Below N w w2 := by
  by_cases h0 : len = 0
  · subst h0
    refine ⟨w1, run_copy_none (P := Try.prog) w1 27 27 3 5 _ _ 0 0 0 cap Try.underlying27 size5 rfl, ⟨fun i hi => absurd hi (by omega), hby⟩, hb⟩
  · have hrun := run_copy_row (P := Try.prog) w1 27 27 3 5 N 0 len len x len cap cur.toArray 5 ((List.range len).map (fun i => Value.int .u8 (f i))) Try.underlying27 size5 hg (by simp) ?_ (by simp; omega) ?_
    · have e : cur.toArray.toList.take 0 ++ (List.range len).map (fun i => Value.int .u8 (f i)) ++ cur.toArray.toList.drop (0 + ((List.range len).map (fun i => Value.int .u8 (f i))).length) = (List.range len).map (fun i => Value.int .u8 (f i)) := by
        rw [List.take_zero, List.nil_append, List.drop_of_length_le (by simp; omega), List.append_nil]
      have e2 : ((List.range len).map (fun i => Value.int .u8 (f i))).length = len := by simp
      rw [e, e2] at hrun
      exact ⟨_, hrun, tx_cells hby (setRow_heap w1 N _ _ 5 _ hg), below_setRow hb (Nat.le_refl _) _⟩
    · intro j v hj
      obtain ⟨hj1, hj2⟩ := List.getElem?_eq_some_iff.1 hj
      rw [List.getElem_map, List.getElem_range] at hj2
      subst hj2
      exact hsrc j (by simpa using hj1)
    · intro v hv
      obtain ⟨i, _, rfl⟩ := List.mem_map.1 hv
      rfl
end Go.Proofs.Qxb6601223a
