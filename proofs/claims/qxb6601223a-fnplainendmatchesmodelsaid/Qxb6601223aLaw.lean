import Derived.Test.Qxb6601223aOuts
namespace Go.Proofs.Qxb6601223a
open Go.RowKit
set_option linter.unusedVariables false

set_option maxHeartbeats 1000000 in
/-- The law behind its early returns: place 0 is not read: p is not 0. -/
theorem law_main1 (x : Addr) (len cap p n : Nat) (f : Nat → Int) (w : World) (h : len ≤ 1048576) (hn : n ≤ len) (hpn : p ≤ n) (hp0 : 0 < p)
    (hsrc : ∀ i, i < len → w.cell? (x.add i) = some (.int .u8 (f i))) (hby : ∀ i, i < len → 0 ≤ f i ∧ f i < 256) :
    Calls Try.prog 6 #[.slice (some x) len cap, .int .i64 (p : Int), .int .i64 (n : Int)] w fun e w' => e = .returned (.bool true) ∧ Below w.heap.size w w' := by
  have hl : (len : Int) ≤ 1048576 := by omega
  have HSRC : Hid (∀ i, i < len → w.cell? (Addr.add x i) = some (.int .u8 (f i))) := hsrc
  have HBY : Hid (∀ i, i < len → 0 ≤ f i ∧ f i < 256) := hby
  have hnn := fun (W : World) => run_neq_slice_nil_any (P := Try.prog) W 27 5 (some x) len cap 0 0 Try.underlying27
  obtain ⟨i0, hi, hz0, hz1, hz2⟩ := info_parts info5
  have d0 : ((p : Int) == 0) = false := by simp only [beq_eq_false_iff_ne]; omega
  clear hsrc hby
  go_enter Try.func6, Try.ntmps6
  go_wp2_with (first
    | (go_at_call 16; refine (zzb_ok _ _ _ _ _ _ h).mono ?_; rintro e' w' ⟨rfl, rfl⟩)
    | (at_make; refine wpList_make_full _ rfl _ _ 27 rfl w.heap.size 5 i0 (.int .u8 0) 1 Try.underlying27 hi hz0 hz1 .i64 .i64 _ _ len rfl rfl rfl rfl (by rw [hz2]; omega) (by unfold maxLen; omega) (Nat.le_refl _) ?_; intro w1 hown hgrow))
  obtain ⟨cur, hcur, hg1⟩ := own_cur rfl hown
  have hb1 : Below w.heap.size w w1 := (Below.refl _ _).grown hgrow (Nat.le_refl _) (fun k hk => by cases hk)
  obtain ⟨w2, hrun, ht2, hb2⟩ := copy_run (cap := cap) (x := x) (f := f) hcur hg1 HBY.out (fun i hi => by
    have h1 := HSRC.out i hi
    have hbk : (Addr.add x i).block < w.heap.size := by
      apply Decidable.byContradiction
      intro hge
      have : w.heap[(Addr.add x i).block]? = none := Array.getElem?_eq_none (by omega)
      simp [World.cell?, this] at h1
    rw [hb1.cell hbk]
    exact h1) hb1
  obtain ⟨T, B, R, HA, HB⟩ := both w.heap.size 0 len len p n f w2 ht2 h (Nat.le_refl _) hpn hn (fun e _ => by omega)
  have HB2 : Hid (Below w.heap.size w w2) := hb2
  rw [hrun]
  clear hrun hown hgrow hcur hg1 hb1 ht2 hb2
  simp only [Result.andThen]
  rw [Oper.upon_value]
  go_wp2_with fail
  refine HA.out.mono ?_
  rintro e' w3 ⟨rfl, rfl⟩
  go_wp2_with fail
  refine HB.out.mono ?_
  rintro e' w4 ⟨rfl, rfl⟩
  go_wp2_with fail
  go_ret
  exact ⟨rfl, HB2.out⟩

set_option maxHeartbeats 1000000 in
/-- The law behind its early returns: place 0 is not read: p and n are 0. -/
theorem law_main2 (x : Addr) (len cap n : Nat) (f : Nat → Int) (w : World) (h : len ≤ 1048576) (hn : n ≤ len) (hn0 : n ≤ 0)
    (hsrc : ∀ i, i < len → w.cell? (x.add i) = some (.int .u8 (f i))) (hby : ∀ i, i < len → 0 ≤ f i ∧ f i < 256) :
    Calls Try.prog 6 #[.slice (some x) len cap, .int .i64 0, .int .i64 (n : Int)] w fun e w' => e = .returned (.bool true) ∧ Below w.heap.size w w' := by
  have hl : (len : Int) ≤ 1048576 := by omega
  have HSRC : Hid (∀ i, i < len → w.cell? (Addr.add x i) = some (.int .u8 (f i))) := hsrc
  have HBY : Hid (∀ i, i < len → 0 ≤ f i ∧ f i < 256) := hby
  have hnn := fun (W : World) => run_neq_slice_nil_any (P := Try.prog) W 27 5 (some x) len cap 0 0 Try.underlying27
  obtain ⟨i0, hi, hz0, hz1, hz2⟩ := info_parts info5
  have d0 : decide ((0 : Int) < (n : Int)) = false := decide_eq_false (by omega)
  clear hsrc hby
  go_enter Try.func6, Try.ntmps6
  go_wp2_with (first
    | (go_at_call 16; refine (zzb_ok _ _ _ _ _ _ h).mono ?_; rintro e' w' ⟨rfl, rfl⟩)
    | (at_make; refine wpList_make_full _ rfl _ _ 27 rfl w.heap.size 5 i0 (.int .u8 0) 1 Try.underlying27 hi hz0 hz1 .i64 .i64 _ _ len rfl rfl rfl rfl (by rw [hz2]; omega) (by unfold maxLen; omega) (Nat.le_refl _) ?_; intro w1 hown hgrow))
  obtain ⟨cur, hcur, hg1⟩ := own_cur rfl hown
  have hb1 : Below w.heap.size w w1 := (Below.refl _ _).grown hgrow (Nat.le_refl _) (fun k hk => by cases hk)
  obtain ⟨w2, hrun, ht2, hb2⟩ := copy_run (cap := cap) (x := x) (f := f) hcur hg1 HBY.out (fun i hi => by
    have h1 := HSRC.out i hi
    have hbk : (Addr.add x i).block < w.heap.size := by
      apply Decidable.byContradiction
      intro hge
      have : w.heap[(Addr.add x i).block]? = none := Array.getElem?_eq_none (by omega)
      simp [World.cell?, this] at h1
    rw [hb1.cell hbk]
    exact h1) hb1
  obtain ⟨T, B, R, HA, HB⟩ := both w.heap.size 0 len len 0 n f w2 ht2 h (Nat.le_refl _) (Nat.zero_le _) hn (fun _ e => by omega)
  have HB2 : Hid (Below w.heap.size w w2) := hb2
  rw [hrun]
  clear hrun hown hgrow hcur hg1 hb1 ht2 hb2
  simp only [Result.andThen]
  rw [Oper.upon_value]
  go_wp2_with fail
  refine HA.out.mono ?_
  rintro e' w3 ⟨rfl, rfl⟩
  go_wp2_with fail
  refine HB.out.mono ?_
  rintro e' w4 ⟨rfl, rfl⟩
  go_wp2_with fail
  go_ret
  exact ⟨rfl, HB2.out⟩

set_option maxHeartbeats 1000000 in
/-- The law behind its early returns: place 0 is read. -/
theorem law_main3 (b off len cap n : Nat) (f : Nat → Int) (w : World) (h : len ≤ 1048576) (hn : n ≤ len) (hn0 : 0 < n) (hf0 : ¬ f 0 = 35)
    (hsrc : ∀ i, i < len → w.cell? ⟨b, off + i, none⟩ = some (.int .u8 (f i))) (hby : ∀ i, i < len → 0 ≤ f i ∧ f i < 256) :
    Calls Try.prog 6 #[.slice (some ⟨b, off, none⟩) len cap, .int .i64 0, .int .i64 (n : Int)] w fun e w' => e = .returned (.bool true) ∧ Below w.heap.size w w' := by
  have hl : (len : Int) ≤ 1048576 := by omega
  have HSRC : Hid (∀ i, i < len → w.cell? (Addr.add ⟨b, off, none⟩ i) = some (.int .u8 (f i))) := fun i hi => by rw [Addr.add_lit]; exact hsrc i hi
  have HBY : Hid (∀ i, i < len → 0 ≤ f i ∧ f i < 256) := hby
  have hnn := fun (W : World) => run_neq_slice_nil_any (P := Try.prog) W 27 5 (some ⟨b, off, none⟩) len cap 0 0 Try.underlying27
  obtain ⟨i0, hi, hz0, hz1, hz2⟩ := info_parts info5
  have d0 : (0 : Int) < (n : Int) := by omega
  have hl0 : (0 : Int) < (len : Int) := by omega
  have hc0 : w.cell? ⟨b, off, none⟩ = some (.int .u8 (f 0)) := hsrc 0 (by omega)
  have e0 : (f 0 == 35) = false := by simp only [beq_eq_false_iff_ne]; exact hf0
  clear hsrc hby
  go_enter Try.func6, Try.ntmps6
  go_wp2_with (first
    | (go_at_call 16; refine (zzb_ok _ _ _ _ _ _ h).mono ?_; rintro e' w' ⟨rfl, rfl⟩)
    | (at_make; refine wpList_make_full _ rfl _ _ 27 rfl w.heap.size 5 i0 (.int .u8 0) 1 Try.underlying27 hi hz0 hz1 .i64 .i64 _ _ len rfl rfl rfl rfl (by rw [hz2]; omega) (by unfold maxLen; omega) (Nat.le_refl _) ?_; intro w1 hown hgrow))
  obtain ⟨cur, hcur, hg1⟩ := own_cur rfl hown
  have hb1 : Below w.heap.size w w1 := (Below.refl _ _).grown hgrow (Nat.le_refl _) (fun k hk => by cases hk)
  obtain ⟨w2, hrun, ht2, hb2⟩ := copy_run (cap := cap) (x := ⟨b, off, none⟩) (f := f) hcur hg1 HBY.out (fun i hi => by
    have h1 := HSRC.out i hi
    have hbk : (Addr.add ⟨b, off, none⟩ i).block < w.heap.size := by
      apply Decidable.byContradiction
      intro hge
      have : w.heap[(Addr.add ⟨b, off, none⟩ i).block]? = none := Array.getElem?_eq_none (by omega)
      simp [World.cell?, this] at h1
    rw [hb1.cell hbk]
    exact h1) hb1
  obtain ⟨T, B, R, HA, HB⟩ := both w.heap.size 0 len len 0 n f w2 ht2 h (Nat.le_refl _) (Nat.zero_le _) hn (fun _ _ => hf0)
  have HB2 : Hid (Below w.heap.size w w2) := hb2
  rw [hrun]
  clear hrun hown hgrow hcur hg1 hb1 ht2 hb2
  simp only [Result.andThen]
  rw [Oper.upon_value]
  go_wp2_with fail
  refine HA.out.mono ?_
  rintro e' w3 ⟨rfl, rfl⟩
  go_wp2_with fail
  refine HB.out.mono ?_
  rintro e' w4 ⟨rfl, rfl⟩
  go_wp2_with fail
  go_ret
  exact ⟨rfl, HB2.out⟩

end Go.Proofs.Qxb6601223a
