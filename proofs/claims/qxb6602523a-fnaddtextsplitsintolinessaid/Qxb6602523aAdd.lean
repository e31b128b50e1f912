import Derived.Test.Qxb6602523aLeaf
import Derived.Deep.RegionHeld3
import Derived.Deep.AppendLies
import Derived.Deep.RegionLaw
import Derived.Laws.Pointers
import Derived.StillTactics
namespace Go.Proofs.Qxb6602523a
open Go.RowKit
set_option linter.unusedVariables false

/-- A node's seven cells. -/
def ncells (k : Int) (t : ByteArray) : List Value := [.int .i64 k, .string t, .slice none 0 0, .int .i64 0, .slice none 0 0, .bool false, .string ⟨#[]⟩]
/-- The cells of a list of nodes. -/
def flat : List (Int × ByteArray) → List Value
  | [] => []
  | x :: l => ncells x.1 x.2 ++ flat l
theorem flat_length : ∀ l : List (Int × ByteArray), (flat l).length = l.length * 7
  | [] => rfl
  | x :: l => by rw [flat, List.length_append, flat_length l, List.length_cons]; simp [ncells]; omega
theorem flat_append : ∀ l m : List (Int × ByteArray), flat (l ++ m) = flat l ++ flat m
  | [], m => rfl
  | x :: l, m => by rw [List.cons_append, flat, flat, flat_append l m, List.append_assoc]

/-- The parser at block P, its frames at block F, d of them, all but the last empty; the last holds the nodes L in a slice at ao, its capacity c; the flag is a. -/
structure PS (w : World) (B P F d : Nat) (a : Bool) (ao : Option Addr) (c : Nat) (L : List (Int × ByteArray)) : Prop where
  flag : w.cell? ⟨P, 7, none⟩ = some (.bool a)
  ffree : w.frozen? ⟨P, 7, none⟩ = false
  frames : w.cell? ⟨P, 8, none⟩ = some (.slice (some ⟨F, 0, none⟩) d d)
  outer : ∀ f, f + 1 < d → w.cell? ⟨F, f * 8 + 7, none⟩ = some (.slice none 0 0)
  inner : w.cell? ⟨F, (d - 1) * 8 + 7, none⟩ = some (.slice ao L.length c)
  ifree : w.frozen? ⟨F, (d - 1) * 8 + 7, none⟩ = false
  owns : w.ownsRow B 48 7 (.slice ao L.length c) L.length (flat L)
  pos : 0 < d
  hFP : F < P
  hPB : P < B
  hB : B ≤ w.heap.size

theorem info48 : (Try.prog.info? 48).map (fun i => (i.zero, i.size, i.bytes)) = some (some (.agg (ncells 0 ⟨#[]⟩).toArray), 7, 104) := by kernel_rfl

/-- The world behind a node's store at cell o of block g. -/
def st (w : World) (g o : Nat) (k : Int) (t : ByteArray) : World :=
  ((((((w.setCell ⟨g, o, none⟩ (.int .i64 k)).setCell ⟨g, o + 1, none⟩ (.string t)).setCell ⟨g, o + 2, none⟩ (.slice none 0 0)).setCell ⟨g, o + 3, none⟩ (.int .i64 0)).setCell ⟨g, o + 4, none⟩ (.slice none 0 0)).setCell ⟨g, o + 5, none⟩ (.bool false)).setCell ⟨g, o + 6, none⟩ (.string ⟨#[]⟩)
theorem st_cell (w : World) (g o b p : Nat) (k : Int) (t : ByteArray) (h : b ≠ g) : (st w g o k t).cell? ⟨b, p, none⟩ = w.cell? ⟨b, p, none⟩ := by
  unfold st
  simp only [World.cell?_setCell_far _ _ _ _ (show (⟨g, _, none⟩ : Addr).block ≠ (⟨b, p, none⟩ : Addr).block from fun e => h e.symm)]
theorem st_frozen (w : World) (g o : Nat) (x : Addr) (k : Int) (t : ByteArray) : (st w g o k t).frozen? x = w.frozen? x := by
  unfold st
  simp only [World.frozen?_setCell]
theorem st_size (w : World) (g o : Nat) (k : Int) (t : ByteArray) : (st w g o k t).heap.size = w.heap.size := by
  unfold st
  simp [World.setCell]
theorem st_below {F : Nat} {u w : World} (h : Below F u w) (g o : Nat) (hg : F ≤ g) (k : Int) (t : ByteArray) : Below F u (st w g o k t) := by
  unfold st
  exact ((((((h.setCell hg _).setCell hg _).setCell hg _).setCell hg _).setCell hg _).setCell hg _).setCell hg _
theorem set_tail (xs : List Value) (n : Nat) (hx : xs.length = n * 7) (k : Int) (t : ByteArray) :
    ((((((((xs ++ ncells 0 ⟨#[]⟩).set (n * 7) (.int .i64 k)).set (n * 7 + 1) (.string t)).set (n * 7 + 2) (.slice none 0 0)).set (n * 7 + 3) (.int .i64 0)).set (n * 7 + 4) (.slice none 0 0)).set (n * 7 + 5) (.bool false)).set (n * 7 + 6) (.string ⟨#[]⟩)) = xs ++ ncells k t := by
  rw [← hx]
  simp [ncells]
theorem st_owns {w : World} {B g cap n : Nat} {xs : List Value} (h : w.ownsRow B 48 7 (.slice (some ⟨g, 0, none⟩) (n + 1) cap) (n + 1) (xs ++ ncells 0 ⟨#[]⟩)) (hx : xs.length = n * 7) (k : Int) (t : ByteArray) :
    (st w g (n * 7) k t).ownsRow B 48 7 (.slice (some ⟨g, 0, none⟩) (n + 1) cap) (n + 1) (xs ++ ncells k t) := by
  rw [← set_tail xs n hx k t]
  unfold st
  exact (((((((h.stored _ _).1.stored _ _).1.stored _ _).1.stored _ _).1.stored _ _).1.stored _ _).1.stored _ _).1
theorem zcell {w : World} {B g cap n : Nat} {xs : List Value} (h : w.ownsRow B 48 7 (.slice (some ⟨g, 0, none⟩) (n + 1) cap) (n + 1) (xs ++ ncells 0 ⟨#[]⟩)) (hx : xs.length = n * 7) (j : Nat) (hj : j < 7) :
    w.cell? ⟨g, n * 7 + j, none⟩ = (ncells 0 ⟨#[]⟩)[j]? := by
  rw [h.cellAt _ (by omega), List.getElem?_append_right (by omega), hx, Nat.add_sub_cancel_left]

/-- The node block and the frame's field written, in either order. -/
theorem ps_fin {w w1 : World} {B P F m : Nat} {a : Bool} {ao : Option Addr} {c : Nat} {L : List (Int × ByteArray)} {g cap : Nat} (k : Int) (t : ByteArray)
    (hp : PS w B P F (m + 1) a ao c L) (hb : Below F w w1) (hP : ∀ o, w1.cell? ⟨P, o, none⟩ = w.cell? ⟨P, o, none⟩ ∧ w1.frozen? ⟨P, o, none⟩ = w.frozen? ⟨P, o, none⟩)
    (hF : ∀ o, w1.cell? ⟨F, o, none⟩ = w.cell? ⟨F, o, none⟩ ∧ w1.frozen? ⟨F, o, none⟩ = w.frozen? ⟨F, o, none⟩)
    (hN : w1.ownsRow B 48 7 (.slice (some ⟨g, 0, none⟩) (L.length + 1) cap) (L.length + 1) (flat L ++ ncells 0 ⟨#[]⟩)) (W2 : World)
    (h2 : W2 = (st w1 g (L.length * 7) k t).setCell ⟨F, m * 8 + 7, none⟩ (.slice (some ⟨g, 0, none⟩) (L.length + 1) cap) ∨
      W2 = st (w1.setCell ⟨F, m * 8 + 7, none⟩ (.slice (some ⟨g, 0, none⟩) (L.length + 1) cap)) g (L.length * 7) k t) :
    Below F w W2 ∧ ∃ ao' c', PS W2 B P F (m + 1) a ao' c' (L ++ [(k, t)]) := by
  obtain ⟨p1, p2, p3, p4, p5, p6, p7, p8, p9, p10, p11⟩ := hp
  rw [Nat.add_sub_cancel] at p5 p6
  have hgB : B ≤ g := by
    rcases hN.2 with ⟨h, _⟩ | ⟨g', cap', cur, h, h', _⟩
    · cases h
    · cases h; exact h'
  have hlen : (L ++ [(k, t)]).length = L.length + 1 := by simp
  have hflat : flat (L ++ [(k, t)]) = flat L ++ ncells k t := by rw [flat_append]; simp [flat]
  have hsz : B ≤ w1.heap.size := Nat.le_trans p11 hb.size
  have hFcell : w1.cell? ⟨F, m * 8 + 7, none⟩ = some (.slice ao L.length c) := by rw [(hF _).1]; exact p5
  rcases h2 with rfl | rfl
  · refine ⟨(st_below hb g _ (by omega) k t).setCell (Nat.le_refl _) _, some ⟨g, 0, none⟩, cap, ?_⟩
    constructor
    · rw [World.cell?_setCell_far _ _ _ _ (by first | (simp; done) | (simp; omega)), st_cell _ _ _ _ _ _ _ (by omega), (hP _).1]; exact p1
    · rw [World.frozen?_setCell, st_frozen, (hP _).2]; exact p2
    · rw [World.cell?_setCell_far _ _ _ _ (by first | (simp; done) | (simp; omega)), st_cell _ _ _ _ _ _ _ (by omega), (hP _).1]; exact p3
    · intro f hf
      rw [World.cell?_setCell_other (h := by intro e; have := congrArg Addr.off e; simp at this; omega), st_cell _ _ _ _ _ _ _ (by omega), (hF _).1]; exact p4 f hf
    · rw [Nat.add_sub_cancel, World.cell?_setCell_same (u := .slice ao L.length c) (h := by rw [st_cell _ _ _ _ _ _ _ (by omega)]; exact hFcell), hlen]
    · rw [Nat.add_sub_cancel, World.frozen?_setCell, st_frozen, (hF _).2]; exact p6
    · rw [hlen, hflat]
      exact ownsRow_setCell_below (st_owns hN (flat_length L) k t) (show F < B by omega) _
    · exact p8
    · exact p9
    · exact p10
    · have : ((st w1 g (L.length * 7) k t).setCell ⟨F, m * 8 + 7, none⟩ (.slice (some ⟨g, 0, none⟩) (L.length + 1) cap)).heap.size = w1.heap.size := by simp [World.setCell, st_size]
      rw [this]; exact hsz
  · refine ⟨st_below (hb.setCell (Nat.le_refl _) _) g _ (by omega) k t, some ⟨g, 0, none⟩, cap, ?_⟩
    have hN' := ownsRow_setCell_below hN (a := ⟨F, m * 8 + 7, none⟩) (show F < B by omega) (.slice (some ⟨g, 0, none⟩) (L.length + 1) cap)
    constructor
    · rw [st_cell _ _ _ _ _ _ _ (by omega), World.cell?_setCell_far _ _ _ _ (by first | (simp; done) | (simp; omega)), (hP _).1]; exact p1
    · rw [st_frozen, World.frozen?_setCell, (hP _).2]; exact p2
    · rw [st_cell _ _ _ _ _ _ _ (by omega), World.cell?_setCell_far _ _ _ _ (by first | (simp; done) | (simp; omega)), (hP _).1]; exact p3
    · intro f hf
      rw [st_cell _ _ _ _ _ _ _ (by omega), World.cell?_setCell_other (h := by intro e; have := congrArg Addr.off e; simp at this; omega), (hF _).1]; exact p4 f hf
    · rw [Nat.add_sub_cancel, st_cell _ _ _ _ _ _ _ (by omega), World.cell?_setCell_same (u := .slice ao L.length c) (h := hFcell), hlen]
    · rw [Nat.add_sub_cancel, st_frozen, World.frozen?_setCell, (hF _).2]; exact p6
    · rw [hlen, hflat]
      exact st_owns hN' (flat_length L) k t
    · exact p8
    · exact p9
    · exact p10
    · rw [st_size]
      have : (w1.setCell ⟨F, m * 8 + 7, none⟩ (.slice (some ⟨g, 0, none⟩) (L.length + 1) cap)).heap.size = w1.heap.size := by simp [World.setCell]
      rw [this]; exact hsz

/-- What stays between the call's start and the append's end. -/
theorem ps_mid {w W0 w1 : World} {B P F m : Nat} {a : Bool} {ao : Option Addr} {c : Nat} {L : List (Int × ByteArray)} {o1 o2 : Obj} {nq : Nat}
    (hp : PS w B P F (m + 1) a ao c L) (hW0 : W0 = (w.alloc o1).drewN nq) (hg : (W0.alloc o2).drew.grownBy w1 (Value.slice ao L.length c).ownBlock) :
    Below F w w1 ∧ (∀ b o, b < B → w1.cell? ⟨b, o, none⟩ = w.cell? ⟨b, o, none⟩ ∧ w1.frozen? ⟨b, o, none⟩ = w.frozen? ⟨b, o, none⟩) := by
  have hr : ∀ q, (Value.slice ao L.length c).ownBlock = some q → B ≤ q := by
    intro q hq
    rcases hp.owns.2 with ⟨h, _⟩ | ⟨g', cap', cur, h, h', _⟩
    · rw [h] at hq; cases hq
    · rw [h] at hq; simp [Value.ownBlock] at hq; omega
  have hs := hp.hB
  have hFP := hp.hFP
  have hPB := hp.hPB
  have hb : Below B w w1 := by
    refine Below.grown (w := (W0.alloc o2).drew) ?_ hg ?_ hr
    · rw [hW0]
      exact ((below_drewN ((Below.refl B w).alloc hs _) nq).alloc (by simp; omega) _).drew
    · rw [hW0]; simp; omega
  exact ⟨hb.mono (by omega), fun b o h => ⟨hb.cell h, hb.frozen h⟩⟩

set_option maxRecDepth 100000 in
set_option maxHeartbeats 3200000 in
/-- 23: add. -/
theorem add_any (B P F d : Nat) (a : Bool) (ao : Option Addr) (c : Nat) (L : List (Int × ByteArray)) (k : Int) (t : ByteArray) (w : World) (hp : PS w B P F d a ao c L) (hL : L.length ≤ 4194304) (hd : d ≤ 64) :
    Calls Try.prog 23 #[.pointer (some ⟨P, 0, none⟩), .agg #[.int .i64 k, .string t, .slice none 0 0, .int .i64 0, .slice none 0 0, .bool false, .string ⟨#[]⟩]] w fun e w' => e = .returned (.tuple #[]) ∧ Below F w w' ∧ ∃ ao' c', PS w' B P F d a ao' c' (L ++ [(k, t)]) := by
  obtain ⟨i0, hi0, hz0, hz1, hz2⟩ := info_parts info48
  have HP : Hid (PS w B P F d a ao c L) := hp
  obtain ⟨p1, p2, p3, p4, p5, p6, p7, p8, p9, p10, p11⟩ := hp
  clear p4 p1 p2
  obtain ⟨m, rfl⟩ : ∃ m, d = m + 1 := ⟨d - 1, by omega⟩
  rw [Nat.add_sub_cancel] at p5 p6
  have hm : (m : Int) < (m : Int) + 1 := by omega
  have hPs : P < w.heap.size := by omega
  have hFs : F < w.heap.size := by omega
  have HOWN : Hid (w.ownsRow B 48 7 (.slice ao L.length c) L.length (flat L)) := p7
  have hob : Hid (some F ≠ (Value.slice ao L.length c).ownBlock) := by
    intro h
    cases ao with
    | none => cases h
    | some x =>
      rcases p7.2 with ⟨h1, _⟩ | ⟨g, cap, cur, h1, h2, _⟩
      · cases h1
      · cases h1
        simp [Value.ownBlock] at h
        omega
  clear p7
  go_enter Try.func23, Try.ntmps23
  go_wp2_with fail
  go_quiet (fail)
  go_wp2_with fail
  obtain ⟨W0, hW0⟩ : ∃ W0, W0 = ((w.alloc (.cells #[.int .i64 k, .string t, .slice none 0 0, .int .i64 0, .slice none 0 0, .bool false, .string ⟨#[]⟩] 48)).drewN nq) := ⟨_, rfl⟩
  rw [← hW0]
  have q5 : W0.cell? ⟨F, m * 8 + 7, none⟩ = some (.slice ao L.length c) := by rw [hW0]; simp [go_sem, p5, World.cell?_alloc_old, Nat.ne_of_lt hFs]
  have q6 : W0.frozen? ⟨F, m * 8 + 7, none⟩ = false := by rw [hW0]; simp [go_sem, p6, World.frozen?_alloc_old, Nat.ne_of_lt hFs]
  have c0 : W0.cell? ⟨w.heap.size, 0, none⟩ = some (.int .i64 k) := by rw [hW0]; simp [go_sem]
  have c1 : W0.cell? ⟨w.heap.size, 1, none⟩ = some (.string t) := by rw [hW0]; simp [go_sem]
  have c2 : W0.cell? ⟨w.heap.size, 2, none⟩ = some (.slice none 0 0) := by rw [hW0]; simp [go_sem]
  have c3 : W0.cell? ⟨w.heap.size, 3, none⟩ = some (.int .i64 0) := by rw [hW0]; simp [go_sem]
  have c4 : W0.cell? ⟨w.heap.size, 4, none⟩ = some (.slice none 0 0) := by rw [hW0]; simp [go_sem]
  have c5 : W0.cell? ⟨w.heap.size, 5, none⟩ = some (.bool false) := by rw [hW0]; simp [go_sem]
  have c6 : W0.cell? ⟨w.heap.size, 6, none⟩ = some (.string ⟨#[]⟩) := by rw [hW0]; simp [go_sem]
  have HS0 : Hid (W0.heap.size = w.heap.size + 1) := by rw [hW0]; exact (by simp : ((w.alloc _).drewN nq).heap.size = w.heap.size + 1)
  have hF0 : F < W0.heap.size := by rw [HS0.out]; omega
  have hX0 : w.heap.size < W0.heap.size := by rw [HS0.out]; omega
  have HO0 : Hid (W0.ownsRow B 48 7 (.slice ao L.length c) L.length (flat L)) := by rw [hW0]; exact HOWN.out.alloc _
  have HB0 : Hid (Below F w W0) := by rw [hW0]; exact below_drewN ((Below.refl F w).alloc (Nat.le_of_lt hFs) _) nq
  have HW0 : Hid (W0 = ((w.alloc (.cells #[.int .i64 k, .string t, .slice none 0 0, .int .i64 0, .slice none 0 0, .bool false, .string ⟨#[]⟩] 48)).drewN nq)) := hW0
  clear hW0 p5 p6 p3
  have hbase : B ≤ W0.heap.size := by omega
  have hix : (L.length : Int) < (L.length : Int) + 1 := by omega
  go_region_law
    ((
      refine step_append_lies _ (by rfl) _ _ _ (by rfl) B 48 i0 _ 7 104 Try.underlying46 hi0 hz0 hz1 hz2 rfl (by omega) (.slice ao L.length c) L.length (flat L) (by rfl) ((HO0.out.alloc _).drew)
        ⟨W0.heap.size, 0, none⟩ 1 1 (ncells 0 ⟨#[]⟩) (by rfl) (by rfl) (World.news_of_block (cs := (ncells 0 ⟨#[]⟩).toArray) (t := 48) (fr := (0, 0)) (heap_alloc_new W0 _)) (by simp [Value.oneCell', ncells])
        (by omega) (by unfold maxLen; omega) (by omega) (by simp; omega) (W0.heap.size + 1) (by simp) ?_
      intro g cap w1 hown1 hgrow hat hlt
      have HN : Hid (w1.ownsRow B 48 7 (.slice (some ⟨g, 0, none⟩) (L.length + 1) cap) (L.length + 1) (flat L ++ ncells 0 ⟨#[]⟩)) := hown1
      have hfl : (flat L).length = L.length * 7 := flat_length L
      have z0 : w1.cell? ⟨g, L.length * 7, none⟩ = some (.int .i64 0) := zcell hown1 hfl 0 (by omega)
      have z1 : w1.cell? ⟨g, L.length * 7 + 1, none⟩ = some (.string ⟨#[]⟩) := zcell hown1 hfl 1 (by omega)
      have z2 : w1.cell? ⟨g, L.length * 7 + 2, none⟩ = some (.slice none 0 0) := zcell hown1 hfl 2 (by omega)
      have z3 : w1.cell? ⟨g, L.length * 7 + 3, none⟩ = some (.int .i64 0) := zcell hown1 hfl 3 (by omega)
      have z4 : w1.cell? ⟨g, L.length * 7 + 4, none⟩ = some (.slice none 0 0) := zcell hown1 hfl 4 (by omega)
      have z5 : w1.cell? ⟨g, L.length * 7 + 5, none⟩ = some (.bool false) := zcell hown1 hfl 5 (by omega)
      have z6 : w1.cell? ⟨g, L.length * 7 + 6, none⟩ = some (.string ⟨#[]⟩) := zcell hown1 hfl 6 (by omega)
      have zf : ∀ j, w1.frozen? ⟨g, j, none⟩ = false := hown1.frozenAt
      have hgF : ¬ g = F := by
        intro e
        subst e
        rcases hat with h | h
        · exact hob.out h.symm
        · omega
      have hFg : ¬ F = g := fun e => hgF e.symm
      have r5 : w1.cell? ⟨F, m * 8 + 7, none⟩ = some (.slice ao L.length c) := by
        rw [hgrow.cell_far _ (by simp; omega) hob.out]
        simp [go_sem, q5, World.cell?_alloc_old, Nat.ne_of_lt hF0]
      have r6 : w1.frozen? ⟨F, m * 8 + 7, none⟩ = false := by
        rw [hgrow.frozen_far _ (by simp; omega) hob.out]
        simp [go_sem, q6, World.frozen?_alloc_old, Nat.ne_of_lt hF0]
      have HG : Hid ((W0.alloc (.cells #[.int .i64 0, .string ⟨#[]⟩, .slice none 0 0, .int .i64 0, .slice none 0 0, .bool false, .string ⟨#[]⟩] 48)).drew.grownBy w1 (Value.slice ao L.length c).ownBlock) := hgrow
      have HA : Hid ((Value.slice ao L.length c).ownBlock = some g ∨ g = W0.heap.size + 1) := hat
      clear hown1 hgrow hat hfl))
  all_goals
    obtain ⟨hb1, hk1⟩ := ps_mid HP.out HW0.out HG.out
    go_end0
    refine ⟨rfl, ?_⟩
    refine ps_fin k t HP.out hb1 (fun o => hk1 P o p10) (fun o => hk1 F o (by omega)) HN.out _ ?_
    unfold st
    first
      | (refine Or.inl ?_; with_reducible rfl)
      | (refine Or.inr ?_; with_reducible rfl)
end Go.Proofs.Qxb6602523a
