import Derived.Test.Qxb6608866aTok
import Derived.Lib.AppendStr
import Derived.Laws.BytesArg
namespace Go.Proofs.Qxb6608866a
open Go.RowKit
set_option linter.unusedVariables false

/-- Bytes as cells. -/
def bc (l : List UInt8) : List Value := l.map fun b => Value.int .u8 b.toNat
theorem bc_append (l m : List UInt8) : bc (l ++ m) = bc l ++ bc m := by simp [bc]
theorem bc_str (s : ByteArray) : Lib.strCells s = bc (by_ s) := rfl
theorem info5 : (Try.prog.info? 5).map (fun i => (i.zero, i.size, i.bytes)) = some (some (.int .u8 0), 1, 1) := by kernel_rfl

theorem nums_str (l : List UInt8) : strOfNums (l.map fun b => ((b.toNat : Nat) : Int)) = ⟨l.toArray⟩ := by
  unfold strOfNums
  congr 2
  rw [List.map_map]
  refine (List.map_congr_left (g := id) fun b _ => ?_).trans (List.map_id l)
  simp
/-- string(b), b a slice of bytes that the call owns. -/
theorem own_conv {w : World} {B n : Nat} {v : Value} {l : List UInt8} (h : w.ownsRow B 5 1 v n (bc l)) : (convert 28 9 v).run Try.prog w = .ok (.string ⟨l.toArray⟩) w := by
  have hl : l.length = n := by have := h.1; simpa [bc] using this
  rcases h.2 with ⟨rfl, h0⟩ | ⟨g, cap, cur, rfl, hg, hh, hr⟩
  · have : l = [] := by
      apply List.eq_nil_of_length_eq_zero
      omega
    rw [this]
    exact run_convert_bytes_nil w 28 5 Try.underlying28 Try.underlying5 0 0 9 Try.underlying9
  · rw [← nums_str l]
    refine run_convert_bytes_arg w 28 5 Try.underlying28 Try.underlying5 g 0 n cap (l.map fun b => ((b.toNat : Nat) : Int)) (by simpa using hl) ?_ 9 Try.underlying9
    intro i hi
    rw [Nat.zero_add]
    have hc := h.cells (g := g) rfl i (.int .u8 ((l.map fun b => ((b.toNat : Nat) : Int)).getD i 0)) ?_
    · rw [Addr.add_lit, Nat.zero_add] at hc
      exact hc
    · simp [bc, List.getD_eq_getElem?_getD, show i < l.length by omega]

/-- 13: zzIsWhite. -/
def whI (c : Int) : Bool := decide (c = 32 ∨ c = 9 ∨ c = 10 ∨ c = 13)
theorem white_any (c : Int) (w : World) : Calls Try.prog 13 #[.int .u8 c] w fun e w' => e = .returned (.bool (whI c)) ∧ w = w' := by
  have hg : c = 32 ∨ c = 9 ∨ c = 10 ∨ c = 13 ∨ (¬ c = 32 ∧ ¬ c = 9 ∧ ¬ c = 10 ∧ ¬ c = 13) := by omega
  rcases hg with rfl | rfl | rfl | rfl | ⟨h1, h2, h3, h4⟩
  all_goals
    go_enter Try.func13, Try.ntmps13
    go_wp2
    go_ret
    exact ⟨ret_bool (by rw [Bool.eq_iff_iff]; simp [whI]; try omega), rfl⟩
def prI (c : Int) : Bool := decide (c = 40 ∨ c = 41)
theorem paren_any (c : Int) (w : World) : Calls Try.prog 14 #[.int .u8 c] w fun e w' => e = .returned (.bool (prI c)) ∧ w = w' := by
  have hg : c = 40 ∨ c = 41 ∨ (¬ c = 40 ∧ ¬ c = 41) := by omega
  rcases hg with rfl | rfl | ⟨h1, h2⟩
  all_goals
    go_enter Try.func14, Try.ntmps14
    go_wp2
    go_ret
    exact ⟨ret_bool (by rw [Bool.eq_iff_iff]; simp [prI]; try omega), rfl⟩
theorem wh_I (b : UInt8) : whI (b.toNat : Int) = wh b := by
  have key : ∀ n : Nat, n < 256 → (((b.toNat : Int) = (n : Int)) ↔ b = UInt8.ofNat n) := by
    intro n hn
    constructor
    · intro h
      apply UInt8.toNat.inj
      rw [UInt8.toNat_ofNat']
      omega
    · intro h
      rw [h, UInt8.toNat_ofNat']
      omega
  have k1 := key 32 (by omega); have k2 := key 9 (by omega); have k3 := key 10 (by omega); have k4 := key 13 (by omega)
  unfold whI wh
  rw [Bool.eq_iff_iff]
  simp only [decide_eq_true_eq, Bool.or_eq_true, beq_iff_eq]
  have h1 : ((b.toNat : Int) = 32) ↔ b = 32 := k1
  have h2 : ((b.toNat : Int) = 9) ↔ b = 9 := k2
  have h3 : ((b.toNat : Int) = 10) ↔ b = 10 := k3
  have h4 : ((b.toNat : Int) = 13) ↔ b = 13 := k4
  rw [h1, h2, h3, h4]
  simp only [or_assoc]

theorem owns_some {w : World} {B : Nat} {ao : Option Addr} {c : Nat} {acc : List ByteArray} (h : w.ownsRow B 9 1 (.slice ao acc.length c) acc.length (strs acc)) {i : Nat} (hi : i < acc.length) :
    ∃ g, ao = some ⟨g, 0, none⟩ ∧ g < w.heap.size ∧ w.cell? ⟨g, i, none⟩ = some (.string acc[i]) := by
  obtain ⟨g, cap, hv, _, hlt⟩ := h.form (by omega)
  simp only [Value.slice.injEq] at hv
  obtain ⟨rfl, _, rfl⟩ := hv
  refine ⟨g, rfl, hlt, ?_⟩
  have := h.cellAt i (by omega)
  rw [this]
  simp [strs, hi]

/-- The bytes of the first i strings. -/
def cat (acc : List ByteArray) (i : Nat) : List UInt8 := ((acc.take i).map by_).flatten
theorem cat_succ (acc : List ByteArray) (i : Nat) (h : i < acc.length) : cat acc (i + 1) = cat acc i ++ by_ acc[i] := by
  unfold cat
  rw [List.take_succ_eq_append_getElem h, List.map_append, List.flatten_append]
  simp only [List.map_cons, List.map_nil, List.flatten_cons, List.flatten_nil, List.append_nil]
theorem cat_le (acc : List ByteArray) : ∀ i j, i ≤ j → j ≤ acc.length → (cat acc i).length ≤ (cat acc j).length := by
  intro i j hij
  induction j with
  | zero => intro _; obtain rfl : i = 0 := by omega
            exact Nat.le_refl _
  | succ j ih =>
    intro hj
    by_cases h : i = j + 1
    · rw [h]; exact Nat.le_refl _
    · rw [cat_succ acc j (by omega), List.length_append]
      have := ih (by omega) (by omega)
      omega
theorem cat_all (acc : List ByteArray) : cat acc acc.length = (acc.map by_).flatten := by unfold cat; rw [List.take_length]

set_option maxRecDepth 100000 in
set_option maxHeartbeats 2000000 in
/-- 15: zzJoinStrings. -/
theorem join_any (ao : Option Addr) (c B : Nat) (acc : List ByteArray) (w : World) (ho : w.ownsRow B 9 1 (.slice ao acc.length c) acc.length (strs acc)) (hn : acc.length ≤ 4194304) (ht : ((acc.map by_).flatten).length ≤ 1048577) :
    Calls Try.prog 15 #[.slice ao acc.length c] w fun e w' => e = .returned (.string ⟨((acc.map by_).flatten).toArray⟩) ∧ Below w.heap.size w w' := by
  obtain ⟨i0, hi0, hz0, hz1, hz2⟩ := info_parts info5
  have HO : Hid (w.ownsRow B 9 1 (.slice ao acc.length c) acc.length (strs acc)) := ho
  have HT : Hid (((acc.map by_).flatten).length ≤ 1048577) := ht
  clear ho ht
  go_enter Try.func15, Try.ntmps15
  go_wp2_with fail
  go_loopg [3, 4] acc.length (fun g v3 v4 wr => ∃ i : Nat, i + g = acc.length ∧ v4 = .int .i64 (i : Int) ∧ Hid (wr.ownsRow w.heap.size 5 1 v3 (cat acc i).length (bc (cat acc i))) ∧ Hid (Below w.heap.size w wr))
  case atStart => exact ⟨0, by omega, rfl, World.ownsRow_nil _ _ _ _, Below.refl _ _⟩
  case round =>
    obtain ⟨i, hi, rfl, HV, HB⟩ := hrel
    have HI : Hid (i + gk = acc.length) := hi
    clear hi
    by_cases hlt : i < acc.length
    · obtain ⟨g, hao, hg, hc⟩ := owns_some HO.out hlt
      subst hao
      have hc' : wr.cell? ⟨g, i, none⟩ = some (.string acc[i]) := by rw [HB.out.cell (p := ⟨g, i, none⟩) hg]; exact hc
      have hlti : (i : Int) < (acc.length : Int) := by omega
      have hb1 := cat_le acc (i + 1) acc.length (by omega) (Nat.le_refl _)
      rw [cat_all, cat_succ acc i hlt, List.length_append, by_length] at hb1
      have hb2 : (cat acc i).length + acc[i].size ≤ 1048577 := Nat.le_trans hb1 HT.out
      clear hb1 hc
      go_wp2_with (first
        | (
           at_builtin
           refine Lib.wpList_append_own_string _ (by rfl) _ _ 28 9 (by rfl) w.heap.size 5 i0 Try.underlying28 Try.underlying9 hi0 hz0 hz1 hz2 u3 (cat acc i).length (bc (cat acc i)) (by rfl) HV.out acc[i] (by rfl) (by unfold maxLen; omega) (by omega) HB.out.size ?_
           intro v' w' hown hgrow hnil
           have HV' : Hid (w'.ownsRow w.heap.size 5 1 v' (cat acc (i + 1)).length (bc (cat acc (i + 1)))) := by
             rw [cat_succ acc i hlt, bc_append, ← bc_str, List.length_append, by_length]; exact hown
           have HB' : Hid (Below w.heap.size w w') := HB.out.grown hgrow HB.out.size (fun k hk => by
             rcases HV.out.2 with ⟨h1, _⟩ | ⟨g', cap', cur, h1, h2, _⟩
             · rw [h1] at hk; cases hk
             · rw [h1] at hk; simp [Value.ownBlock] at hk; omega)
           clear hown hgrow hnil))
      go_roundg (gk - 1)
      case measure => have := HI.out; omega
      case rel => exact ⟨i + 1, by have := HI.out; omega, by go_num, HV'.out, HB'.out⟩
    · obtain rfl : i = acc.length := by have := HI.out; omega
      have hn' : decide (acc.length < acc.length) = false := by simp
      have hcv := own_conv HV.out
      rw [cat_all] at hcv
      go_wp2_with fail
      go_ret
      exact ⟨rfl, HB.out⟩

/-- The first i bytes less their white space. -/
def strip (s : ByteArray) (i : Nat) : List UInt8 := ((by_ s).take i).filter (fun b => !wh b)
theorem strip_le (s : ByteArray) (i : Nat) : (strip s i).length ≤ i := Nat.le_trans (List.length_filter_le _ _) (List.length_take_le _ _)
theorem strip_succ (s : ByteArray) (i : Nat) (h : i < s.size) : strip s (i + 1) = strip s i ++ (if wh s[i] = true then [] else [s[i]]) := by
  unfold strip
  have h' : i < (by_ s).length := by rw [by_length]; exact h
  rw [List.take_succ_eq_append_getElem h', List.filter_append]
  congr 1
  have e : (by_ s)[i] = s[i] := rfl
  rw [e]
  cases hw : wh s[i] with
  | true => simp [hw]
  | false =>
    simp [hw]
    rfl
theorem strip_all (s : ByteArray) : strip s s.size = (by_ s).filter (fun b => !wh b) := by
  unfold strip
  rw [List.take_of_length_le (by rw [by_length]; exact Nat.le_refl _)]

set_option maxRecDepth 100000 in
set_option maxHeartbeats 2000000 in
/-- 16: zzStripWhite. -/
theorem strip_any (s : ByteArray) (w : World) (hs : s.size ≤ 1048576) :
    Calls Try.prog 16 #[.string s] w fun e w' => e = .returned (.string ⟨((by_ s).filter (fun b => !wh b)).toArray⟩) ∧ Below w.heap.size w w' := by
  obtain ⟨i0, hi0, hz0, hz1, hz2⟩ := info_parts info5
  go_enter Try.func16, Try.ntmps16
  go_wp2_with fail
  go_loopg [3, 4] s.size (fun g v3 v4 wr => ∃ i : Nat, i + g = s.size ∧ v4 = .int .i64 (i : Int) ∧ Hid (wr.ownsRow w.heap.size 5 1 v3 (strip s i).length (bc (strip s i))) ∧ Hid (Below w.heap.size w wr))
  case atStart => exact ⟨0, by omega, rfl, World.ownsRow_nil _ _ _ _, Below.refl _ _⟩
  case round =>
    obtain ⟨i, hi, rfl, HV, HB⟩ := hrel
    have HI : Hid (i + gk = s.size) := hi
    clear hi
    by_cases hlt : i < s.size
    · have hlti : (i : Int) < (s.size : Int) := by omega
      have hle := strip_le s i
      cases hw : wh s[i] with
      | true =>
        have HW : ∀ W : World, Hid (Calls Try.prog 13 #[.int .u8 (s[i].toNat : Int)] W fun e w' => e = .returned (.bool true) ∧ W = w') := by
          intro W
          have := white_any (s[i].toNat : Int) W
          rw [wh_I, hw] at this
          exact this
        have HV' : Hid (wr.ownsRow w.heap.size 5 1 u3 (strip s (i + 1)).length (bc (strip s (i + 1)))) := by
          rw [strip_succ s i hlt, if_pos hw, List.append_nil]; exact HV.out
        clear hw
        go_wp2_with (go_at_call 13; refine ((HW _).out).mono ?_; rintro e' w' ⟨rfl, rfl⟩)
        go_roundg (gk - 1)
        case measure => have := HI.out; omega
        case rel => exact ⟨i + 1, by have := HI.out; omega, by go_num, HV'.out, HB.out⟩
      | false =>
        have HW : ∀ W : World, Hid (Calls Try.prog 13 #[.int .u8 (s[i].toNat : Int)] W fun e w' => e = .returned (.bool false) ∧ W = w') := by
          intro W
          have := white_any (s[i].toNat : Int) W
          rw [wh_I, hw] at this
          exact this
        have HSS : Hid (strip s (i + 1) = strip s i ++ [s[i]]) := by
          show strip s (i + 1) = strip s i ++ [s[i]]
          rw [strip_succ s i hlt, if_neg (by rw [hw]; exact Bool.false_ne_true)]
        clear hw
        go_wp2_with (first
          | (go_at_call 13; refine ((HW _).out).mono ?_; rintro e' w' ⟨rfl, rfl⟩)
          | (
             at_builtin
             refine wpList_append_lies _ (by rfl) _ _ _ (by rfl) w.heap.size 5 i0 _ 1 1 Try.underlying28 hi0 hz0 hz1 hz2 rfl (by omega) u3 (strip s i).length (bc (strip s i)) (by rfl) (HV.out.alloc _) ⟨wr.heap.size, 0, none⟩ 1 1 [.int .u8 (s[i].toNat : Int)] (by rfl) (by rfl) (World.news_of_block (cs := #[.int .u8 (s[i].toNat : Int)]) (t := 5) (fr := (0, 0)) (heap_alloc_new wr _)) (by simp [Value.oneCell']) (by omega) (by unfold maxLen; omega) (by omega) (by have := HB.out.size; simp; omega) (wr.heap.size + 1) (by simp) ?_
             intro g cap w' hown hgrow hat hlt3
             have HV' : Hid (w'.ownsRow w.heap.size 5 1 (.slice (some ⟨g, 0, none⟩) ((strip s i).length + 1) cap) (strip s (i + 1)).length (bc (strip s (i + 1)))) := by
               rw [HSS.out, bc_append, List.length_append]; exact hown
             have HB' : Hid (Below w.heap.size w w') := (HB.out.alloc HB.out.size _).grown hgrow (by have := HB.out.size; simp; omega) (fun k hk => by
               rcases HV.out.2 with ⟨h1, _⟩ | ⟨g', cap', cur, h1, h2, _⟩
               · rw [h1] at hk; cases hk
               · rw [h1] at hk; simp [Value.ownBlock] at hk; omega)
             clear hown hgrow hat hlt3))
        go_roundg (gk - 1)
        case measure => have := HI.out; omega
        case rel => exact ⟨i + 1, by have := HI.out; omega, by go_num, HV'.out, HB'.out⟩
    · obtain rfl : i = s.size := by have := HI.out; omega
      have hn' : decide (s.size < s.size) = false := by simp
      have hcv := own_conv HV.out
      rw [strip_all] at hcv
      go_wp2_with fail
      go_ret
      exact ⟨rfl, HB.out⟩
end Go.Proofs.Qxb6608866a
