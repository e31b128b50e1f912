import Derived.Test.Qxb6608866aTs
namespace Go.Proofs.Qxb6608866a
open Go.RowKit
set_option linter.unusedVariables false

theorem T_size (X : ByteArray) : (X ++ (⟨#[32]⟩ : ByteArray)).size = X.size + 1 := by simp [ByteArray.size_append]; rfl
theorem T_at (X : ByteArray) (k : Nat) (h : k < X.size) : (X ++ (⟨#[32]⟩ : ByteArray))[k]'(by rw [T_size]; omega) = X[k] := by
  simp only [ByteArray.getElem_eq_getElem_data, ByteArray.data_append]
  exact Array.getElem_append_left h
theorem T_last (X : ByteArray) : (X ++ (⟨#[32]⟩ : ByteArray))[X.size]'(by rw [T_size]; omega) = 32 := by
  simp only [ByteArray.getElem_eq_getElem_data, ByteArray.data_append]
  rw [Array.getElem_append_right (show X.data.size ≤ X.size from Nat.le_refl _)]
  simp
theorem T_get (X : ByteArray) (k : Nat) (h : k < X.size) : (X ++ (⟨#[32]⟩ : ByteArray)).get! k = X.get! k := by
  rw [get_lt _ k (by rw [T_size]; omega), get_lt X k h, T_at X k h]

/-- What the loop meets at pos: the end's blank; a blank; a parenthesis; a run of bytes that separate nothing. -/
theorem meets (X : ByteArray) (pos : Nat) (h : pos ≤ X.size) :
    ∃ (r : Int) (wd : Nat), (∀ hT : pos < (X ++ (⟨#[32]⟩ : ByteArray)).size, Utf8.decode (X ++ (⟨#[32]⟩ : ByteArray)) pos = (r.toNat, wd)) ∧ 0 ≤ r ∧ r ≤ 2147483647 ∧
      ((pos = X.size ∧ r = 32 ∧ wd = 1) ∨
       (∃ hp : pos < X.size, wd = 1 ∧ sepR r = true ∧ ¬ r = 40 ∧ ¬ r = 41 ∧ wh X[pos] = true ∧ pr X[pos] = false) ∨
       (∃ hp : pos < X.size, wd = 1 ∧ (r = 40 ∨ r = 41) ∧ X[pos].toNat = r.toNat ∧ pr X[pos] = true) ∨
       (sepR r = false ∧ ¬ r = 40 ∧ ¬ r = 41 ∧ 0 < wd ∧ pos + wd ≤ X.size ∧ ∀ k, k < wd → (wh (X.get! (pos + k)) || pr (X.get! (pos + k))) = false)) := by
  have hT : pos < (X ++ (⟨#[32]⟩ : ByteArray)).size := by rw [T_size]; omega
  by_cases hp : pos < X.size
  · by_cases ha : (X[pos]).toNat < 128
    · refine ⟨(X[pos].toNat : Int), 1, fun hT => ?_, by omega, by omega, ?_⟩
      · rw [decode_ascii _ pos hT (by rw [T_at X pos hp]; exact ha), T_at X pos hp]; rfl
      · by_cases hw : wh X[pos] = true
        · refine Or.inr (Or.inl ⟨hp, rfl, ?_, ?_, ?_, hw, ?_⟩)
          all_goals
            unfold wh at hw
            simp at hw
            rcases hw with ((hw | hw) | hw) | hw <;> (rw [hw]; decide)
        · by_cases hr : pr X[pos] = true
          · refine Or.inr (Or.inr (Or.inl ⟨hp, rfl, ?_, by omega, hr⟩))
            unfold pr at hr
            simp at hr
            rcases hr with hr | hr <;> (rw [hr]; decide)
          · refine Or.inr (Or.inr (Or.inr ?_))
            have hne : ∀ n : Nat, n < 256 → (X[pos].toNat = n → X[pos] = UInt8.ofNat n) := by
              intro n hn e
              apply UInt8.toNat.inj
              rw [e, UInt8.toNat_ofNat']
              omega
            have hb : ¬ (X[pos].toNat = 32 ∨ X[pos].toNat = 9 ∨ X[pos].toNat = 10 ∨ X[pos].toNat = 13 ∨ X[pos].toNat = 40 ∨ X[pos].toNat = 41) := by
              intro hb
              rcases hb with hb | hb | hb | hb | hb | hb
              · exact hw (by rw [hne 32 (by omega) hb]; decide)
              · exact hw (by rw [hne 9 (by omega) hb]; decide)
              · exact hw (by rw [hne 10 (by omega) hb]; decide)
              · exact hw (by rw [hne 13 (by omega) hb]; decide)
              · exact hr (by rw [hne 40 (by omega) hb]; decide)
              · exact hr (by rw [hne 41 (by omega) hb]; decide)
            refine ⟨?_, by omega, by omega, by omega, by omega, fun k hk => ?_⟩
            · unfold sepR
              simp only [decide_eq_false_iff_not]
              omega
            · obtain rfl : k = 0 := by omega
              rw [Nat.add_zero, get_lt X pos hp]
              cases h1 : wh X[pos] with
              | true => exact absurd h1 hw
              | false =>
                cases h2 : pr X[pos] with
                | true => exact absurd h2 hr
                | false => rfl
    · have hT' : 128 ≤ ((X ++ (⟨#[32]⟩ : ByteArray))[pos]'hT).toNat := by rw [T_at X pos hp]; omega
      obtain ⟨g1, g2⟩ := decode_high _ pos hT hT'
      have g3 := decode_le (X ++ (⟨#[32]⟩ : ByteArray)) pos
      obtain ⟨g4, g5⟩ := decode_bytes _ pos hT hT'
      rw [T_size] at g4
      have g6 : pos + (Utf8.decode (X ++ (⟨#[32]⟩ : ByteArray)) pos).2 ≤ X.size := by
        apply Decidable.byContradiction
        intro hgt
        have h1 := g5 (X.size - pos) (by omega)
        have h2 : pos + (X.size - pos) = X.size := by omega
        rw [h2, get_lt _ X.size (by rw [T_size]; omega), T_last X] at h1
        exact absurd h1 (by decide)
      refine ⟨((Utf8.decode (X ++ (⟨#[32]⟩ : ByteArray)) pos).1 : Int), (Utf8.decode (X ++ (⟨#[32]⟩ : ByteArray)) pos).2, fun _ => rfl, by omega, by omega, Or.inr (Or.inr (Or.inr ?_))⟩
      refine ⟨?_, by omega, by omega, by omega, g6, fun k hk => ?_⟩
      · unfold sepR
        simp only [decide_eq_false_iff_not]
        omega
      · have h1 := g5 k hk
        rw [T_get X (pos + k) (by omega)] at h1
        exact high_none h1
  · obtain rfl : pos = X.size := by omega
    refine ⟨32, 1, fun hT => ?_, by omega, by omega, Or.inl ⟨rfl, rfl, rfl⟩⟩
    rw [decode_ascii _ X.size hT (by rw [T_last X]; decide), T_last X]; rfl
theorem enc_paren {r : Int} {b : UInt8} (h : r = 40 ∨ r = 41) (hb : b.toNat = r.toNat) : by_ (Utf8.encode r) = [b] := by
  have : b = UInt8.ofNat r.toNat := by
    apply UInt8.toNat.inj
    rw [hb, UInt8.toNat_ofNat']
    omega
  rw [this]
  rcases h with rfl | rfl <;> rfl

set_option maxRecDepth 100000 in
set_option maxHeartbeats 4000000 in
/-- 30: expressionTokens. -/
theorem tok_any (X : ByteArray) (hX : X.size ≤ 1048577) (w : World) :
    Calls Try.prog 30 #[.string X] w fun e w' => ∃ ao c acc, e = .returned (.slice ao acc.length c) ∧ w'.ownsRow (w.heap.size + 1) 9 1 (.slice ao acc.length c) acc.length (strs acc) ∧ acc.map by_ = tok (by_ X) [] ∧ acc.length ≤ 4194304 ∧ Below w.heap.size w w' := by
  obtain ⟨i0, hi0, hz0, hz1, hz2⟩ := info_parts info9
  go_enter Try.func30, Try.ntmps30
  go_wp2_with fail
  go_loopg [3, 4] (X.size + 1) (fun g v3 v4 wr => ∃ (pos : Nat) (acc : List ByteArray) (st : Int) (ao : Option Addr) (c : Nat), pos + g = X.size + 1 ∧ v3 = .slice ao acc.length c ∧ v4 = .int .i64 st ∧ acc.length ≤ 2 * pos ∧
    Hid (St X pos acc st) ∧ Hid (TS w wr w.heap.size (X ++ ⟨#[32]⟩) pos ao c acc))
  case atStart => exact ⟨0, [], -1, none, 0, by omega, rfl, rfl, Nat.le_refl _, st_start X, World.iter_heap w _ 0, World.ownsRow_nil _ _ _ _, (Below.refl _ _).alloc (Nat.le_refl _) _⟩
  case round =>
    obtain ⟨pos, acc, st, ao, c, hp, rfl, rfl, hal, HS, HT⟩ := hrel
    have HG : Hid (pos + gk = X.size + 1) := hp
    clear hp
    by_cases hlt : pos ≤ X.size
    · obtain ⟨r, wd, hdec, hr0, hr1, hm⟩ := meets X pos hlt
      have hposT : pos < (X ++ (⟨#[32]⟩ : ByteArray)).size := by rw [T_size]; omega
      have hnx : ∀ ty, (Instr.next (.pointer (some ⟨w.heap.size, 0, none⟩)) true ty).run Try.prog wr = .ok (.tuple #[.bool true, .int .i64 (pos : Int), .int .i32 r]) (wr.iterAt w.heap.size (X ++ ⟨#[32]⟩) (pos + wd)) := by
        intro ty
        rw [Lib.run_next_any_at wr w.heap.size (X ++ ⟨#[32]⟩) pos ty HT.out.iter hposT, hdec hposT]
        have : ((r.toNat : Nat) : Int) = r := by omega
        simp only [this]
      have HT1 : Hid (TS w (wr.iterAt w.heap.size (X ++ ⟨#[32]⟩) (pos + wd)) w.heap.size (X ++ ⟨#[32]⟩) (pos + wd) ao c acc) := HT.out.next (pos + wd)
      clear hdec hposT HT
      rcases hm with ⟨rfl, rfl, rfl⟩ | ⟨hpx, rfl, hsr, hn40, hn41, hwh, hpr⟩ | ⟨hpx, rfl, hpar, hbt, hpr⟩ | ⟨hsr, hn40, hn41, hwd, hwx, hby⟩
      · have hsr : sepR 32 = true := rfl
        have hst : st = -1 ∨ ∃ s0 : Nat, st = (s0 : Int) ∧ s0 < X.size := by
          rcases HS.out with ⟨_, h, _⟩ | ⟨s0, h, h2, _⟩ | ⟨_, h, _⟩
          · exact Or.inl h
          · exact Or.inr ⟨s0, h, h2⟩
          · exact Or.inl h
        rcases hst with rfl | ⟨s0, rfl, hs0⟩
        · go_wp2_with fail
          refine (cont_any _ hr0 hr1 _).mono ?_
          rintro e' w2 ⟨rfl, hb2⟩
          have HT2 : Hid (TS w w2 w.heap.size (X ++ ⟨#[32]⟩) (X.size + 1) ao c acc) := HT1.out.after hb2
          clear hb2 HT1
          go_wp2_with fail
          go_roundg (X.size - X.size)
          case measure => have := HG.out; omega
          case rel => exact ⟨X.size + 1, acc, -1, ao, c, by omega, rfl, rfl, by omega, st_end0 HS.out, HT2.out⟩
        · have tok1 : True := trivial
          have hs1 : (s0 : Int) ≤ (X.size : Int) := by omega
          have hs2 : (X.size : Int) ≤ (X.size : Int) := by omega
          go_wp2_with fail
          refine (cont_any _ hr0 hr1 _).mono ?_
          rintro e' w2 ⟨rfl, hb2⟩
          have HT2 : Hid (TS w w2 w.heap.size (X ++ ⟨#[32]⟩) (X.size + 1) ao c acc) := HT1.out.after hb2
          clear hb2 HT1
          go_wp2_with (first
            | (
                 at_builtin
                 have _t := tok1
                 refine wpList_append_lies _ (by rfl) _ _ _ (by rfl) (w.heap.size + 1) 9 i0 _ 1 16 Try.underlying23 hi0 hz0 hz1 hz2 rfl (by omega) (.slice ao acc.length c) acc.length (strs acc) (by rfl) (HT2.out.owns.alloc _) ⟨w2.heap.size, 0, none⟩ 1 1 [.string (X.extract s0 X.size)] (by rfl) (by rfl) (World.news_of_block (cs := #[.string (X.extract s0 X.size)]) (t := 9) (fr := (0, 0)) (heap_alloc_new w2 _)) (by simp [Value.oneCell']) (by omega) (by unfold maxLen; omega) (by omega) (by have := HT2.out.lt; simp; omega) (w2.heap.size + 1) (by simp) ?_
                 intro g cap w3 hown hgrow hat hlt3
                 clear tok1
                 obtain ⟨acc1, hacc1⟩ : ∃ acc1, acc1 = acc ++ [(X.extract s0 X.size)] := ⟨_, rfl⟩
                 have hl1 : acc.length + 1 = acc1.length := by rw [hacc1]; simp
                 have HT3 : Hid (TS w w3 w.heap.size (X ++ ⟨#[32]⟩) (X.size + 1) (some ⟨g, 0, none⟩) cap acc1) := by rw [hacc1]; exact HT2.out.app hgrow hown
                 have HCacc1 : Hid (acc1 = acc ++ [(X.extract s0 X.size)]) := hacc1
                 clear hown hgrow hat hlt3 hacc1
                 rw [hl1]))
          go_roundg (X.size - X.size)
          case measure => have := HG.out; omega
          case rel =>
            refine ⟨X.size + 1, acc1, -1, some ⟨g, 0, none⟩, cap, by omega, rfl, rfl, by omega, ?_, HT3.out⟩
            rw [HCacc1.out]; exact (st_end1 HS.out).2
      · have e40 : (r == 40) = false := by simp only [beq_eq_false_iff_ne]; exact hn40
        have e41 : (r == 41) = false := by simp only [beq_eq_false_iff_ne]; exact hn41
        have hst : st = -1 ∨ ∃ s0 : Nat, st = (s0 : Int) ∧ s0 < pos := by
          rcases HS.out with ⟨_, h, _⟩ | ⟨s0, h, h2, _⟩ | ⟨_, h, _⟩
          · exact Or.inl h
          · exact Or.inr ⟨s0, h, h2⟩
          · exact Or.inl h
        rcases hst with rfl | ⟨s0, rfl, hs0⟩
        · go_wp2_with fail
          refine (cont_any _ hr0 hr1 _).mono ?_
          rintro e' w2 ⟨rfl, hb2⟩
          have HT2 : Hid (TS w w2 w.heap.size (X ++ ⟨#[32]⟩) (pos + 1) ao c acc) := HT1.out.after hb2
          clear hb2 HT1
          go_wp2_with fail
          go_roundg (X.size - pos)
          case measure => have := HG.out; omega
          case rel =>
            have h1 := st_sep0 HS.out hpx (by rw [hwh]; rfl)
            refine ⟨pos + 1, acc, -1, ao, c, by omega, rfl, rfl, by omega, st_to hpx ?_, HT2.out⟩
            have h2 : mid X[pos] = [] := by unfold mid; rw [if_neg (by rw [hpr]; exact Bool.false_ne_true)]
            rw [h2, List.append_nil] at h1
            exact h1
        · have tok1 : True := trivial
          have hs1 : (s0 : Int) ≤ (pos : Int) := by omega
          have hs2 : (pos : Int) ≤ (X.size : Int) := by omega
          go_wp2_with fail
          refine (cont_any _ hr0 hr1 _).mono ?_
          rintro e' w2 ⟨rfl, hb2⟩
          have HT2 : Hid (TS w w2 w.heap.size (X ++ ⟨#[32]⟩) (pos + 1) ao c acc) := HT1.out.after hb2
          clear hb2 HT1
          go_wp2_with (first
            | (
                 at_builtin
                 have _t := tok1
                 refine wpList_append_lies _ (by rfl) _ _ _ (by rfl) (w.heap.size + 1) 9 i0 _ 1 16 Try.underlying23 hi0 hz0 hz1 hz2 rfl (by omega) (.slice ao acc.length c) acc.length (strs acc) (by rfl) (HT2.out.owns.alloc _) ⟨w2.heap.size, 0, none⟩ 1 1 [.string (X.extract s0 pos)] (by rfl) (by rfl) (World.news_of_block (cs := #[.string (X.extract s0 pos)]) (t := 9) (fr := (0, 0)) (heap_alloc_new w2 _)) (by simp [Value.oneCell']) (by omega) (by unfold maxLen; omega) (by omega) (by have := HT2.out.lt; simp; omega) (w2.heap.size + 1) (by simp) ?_
                 intro g cap w3 hown hgrow hat hlt3
                 clear tok1
                 obtain ⟨acc1, hacc1⟩ : ∃ acc1, acc1 = acc ++ [(X.extract s0 pos)] := ⟨_, rfl⟩
                 have hl1 : acc.length + 1 = acc1.length := by rw [hacc1]; simp
                 have HT3 : Hid (TS w w3 w.heap.size (X ++ ⟨#[32]⟩) (pos + 1) (some ⟨g, 0, none⟩) cap acc1) := by rw [hacc1]; exact HT2.out.app hgrow hown
                 have HCacc1 : Hid (acc1 = acc ++ [(X.extract s0 pos)]) := hacc1
                 clear hown hgrow hat hlt3 hacc1
                 rw [hl1]))
          go_roundg (X.size - pos)
          case measure => have := HG.out; omega
          case rel =>
            have h1 := (st_sep1 HS.out hpx (by rw [hwh]; rfl)).2
            refine ⟨pos + 1, acc1, -1, some ⟨g, 0, none⟩, cap, by omega, rfl, rfl, by omega, st_to hpx ?_, HT3.out⟩
            have h2 : mid X[pos] = [] := by unfold mid; rw [if_neg (by rw [hpr]; exact Bool.false_ne_true)]
            rw [h2, List.append_nil] at h1
            rw [HCacc1.out]; exact h1
      · have HENC : Hid (by_ (Utf8.encode r) = [X[pos]]) := enc_paren hpar hbt
        have hsr : sepR r = true := by rcases hpar with rfl | rfl <;> rfl
        obtain ⟨e4, he4⟩ : ∃ e4 : Bool, (r == 40) = e4 := ⟨_, rfl⟩
        have hor : (e4 = true) ∨ (e4 = false ∧ (r == 41) = true) := by rcases hpar with rfl | rfl <;> (subst he4; decide)
        rcases hor with rfl | ⟨rfl, e41⟩
        · clear hpar hbt
          have hst : st = -1 ∨ ∃ s0 : Nat, st = (s0 : Int) ∧ s0 < pos := by
            rcases HS.out with ⟨_, h, _⟩ | ⟨s0, h, h2, _⟩ | ⟨_, h, _⟩
            · exact Or.inl h
            · exact Or.inr ⟨s0, h, h2⟩
            · exact Or.inl h
          rcases hst with rfl | ⟨s0, rfl, hs0⟩
          · have tok1 : True := trivial
            go_wp2_with fail
            refine (cont_any _ hr0 hr1 _).mono ?_
            rintro e' w2 ⟨rfl, hb2⟩
            have HT2 : Hid (TS w w2 w.heap.size (X ++ ⟨#[32]⟩) (pos + 1) ao c acc) := HT1.out.after hb2
            clear hb2 HT1
            go_wp2_with (first
              | (
                   at_builtin
                   have _t := tok1
                   refine wpList_append_lies _ (by rfl) _ _ _ (by rfl) (w.heap.size + 1) 9 i0 _ 1 16 Try.underlying23 hi0 hz0 hz1 hz2 rfl (by omega) (.slice ao acc.length c) acc.length (strs acc) (by rfl) (HT2.out.owns.alloc _) ⟨w2.heap.size, 0, none⟩ 1 1 [.string (Utf8.encode r)] (by rfl) (by rfl) (World.news_of_block (cs := #[.string (Utf8.encode r)]) (t := 9) (fr := (0, 0)) (heap_alloc_new w2 _)) (by simp [Value.oneCell']) (by omega) (by unfold maxLen; omega) (by omega) (by have := HT2.out.lt; simp; omega) (w2.heap.size + 1) (by simp) ?_
                   intro g cap w3 hown hgrow hat hlt3
                   clear tok1
                   obtain ⟨acc1, hacc1⟩ : ∃ acc1, acc1 = acc ++ [(Utf8.encode r)] := ⟨_, rfl⟩
                   have hl1 : acc.length + 1 = acc1.length := by rw [hacc1]; simp
                   have HT3 : Hid (TS w w3 w.heap.size (X ++ ⟨#[32]⟩) (pos + 1) (some ⟨g, 0, none⟩) cap acc1) := by rw [hacc1]; exact HT2.out.app hgrow hown
                   have HCacc1 : Hid (acc1 = acc ++ [(Utf8.encode r)]) := hacc1
                   clear hown hgrow hat hlt3 hacc1
                   rw [hl1]))
            go_roundg (X.size - pos)
            case measure => have := HG.out; omega
            case rel =>
              have h1 := st_sep0 HS.out hpx (by rw [hpr]; exact Bool.or_true _)
              refine ⟨pos + 1, acc1, -1, some ⟨g, 0, none⟩, cap, by omega, rfl, rfl, by omega, st_to hpx ?_, HT3.out⟩
              have h2 : mid X[pos] = [X[pos]] :: [] := by unfold mid; rw [if_pos hpr]
              rw [h2] at h1
              rw [HCacc1.out, List.map_append, List.map_cons, List.map_nil, HENC.out]; exact h1
          · have tok1 : True := trivial
            have tok2 : True := trivial
            have hs1 : (s0 : Int) ≤ (pos : Int) := by omega
            have hs2 : (pos : Int) ≤ (X.size : Int) := by omega
            go_wp2_with fail
            refine (cont_any _ hr0 hr1 _).mono ?_
            rintro e' w2 ⟨rfl, hb2⟩
            have HT2 : Hid (TS w w2 w.heap.size (X ++ ⟨#[32]⟩) (pos + 1) ao c acc) := HT1.out.after hb2
            clear hb2 HT1
            go_wp2_with (first
              | (
                   at_builtin
                   have _t := tok1
                   refine wpList_append_lies _ (by rfl) _ _ _ (by rfl) (w.heap.size + 1) 9 i0 _ 1 16 Try.underlying23 hi0 hz0 hz1 hz2 rfl (by omega) (.slice ao acc.length c) acc.length (strs acc) (by rfl) (HT2.out.owns.alloc _) ⟨w2.heap.size, 0, none⟩ 1 1 [.string (X.extract s0 pos)] (by rfl) (by rfl) (World.news_of_block (cs := #[.string (X.extract s0 pos)]) (t := 9) (fr := (0, 0)) (heap_alloc_new w2 _)) (by simp [Value.oneCell']) (by omega) (by unfold maxLen; omega) (by omega) (by have := HT2.out.lt; simp; omega) (w2.heap.size + 1) (by simp) ?_
                   intro g cap w3 hown hgrow hat hlt3
                   clear tok1
                   obtain ⟨acc1, hacc1⟩ : ∃ acc1, acc1 = acc ++ [(X.extract s0 pos)] := ⟨_, rfl⟩
                   have hl1 : acc.length + 1 = acc1.length := by rw [hacc1]; simp
                   have HT3 : Hid (TS w w3 w.heap.size (X ++ ⟨#[32]⟩) (pos + 1) (some ⟨g, 0, none⟩) cap acc1) := by rw [hacc1]; exact HT2.out.app hgrow hown
                   have HCacc1 : Hid (acc1 = acc ++ [(X.extract s0 pos)]) := hacc1
                   clear hown hgrow hat hlt3 hacc1
                   rw [hl1])
              | (
                   at_builtin
                   have _t := tok2
                   refine wpList_append_lies _ (by rfl) _ _ _ (by rfl) (w.heap.size + 1) 9 i0 _ 1 16 Try.underlying23 hi0 hz0 hz1 hz2 rfl (by omega) (.slice (some ⟨g, 0, none⟩) acc1.length cap) acc1.length (strs acc1) (by rfl) (HT3.out.owns.alloc _) ⟨w3.heap.size, 0, none⟩ 1 1 [.string (Utf8.encode r)] (by rfl) (by rfl) (World.news_of_block (cs := #[.string (Utf8.encode r)]) (t := 9) (fr := (0, 0)) (heap_alloc_new w3 _)) (by simp [Value.oneCell']) (by omega) (by unfold maxLen; omega) (by omega) (by have := HT3.out.lt; simp; omega) (w3.heap.size + 1) (by simp) ?_
                   intro g2 cap2 w4 hown hgrow hat hlt3
                   clear tok2
                   obtain ⟨acc2, hacc1⟩ : ∃ acc2, acc2 = acc1 ++ [(Utf8.encode r)] := ⟨_, rfl⟩
                   have hl2 : acc1.length + 1 = acc2.length := by rw [hacc1]; simp
                   have HT4 : Hid (TS w w4 w.heap.size (X ++ ⟨#[32]⟩) (pos + 1) (some ⟨g2, 0, none⟩) cap2 acc2) := by rw [hacc1]; exact HT3.out.app hgrow hown
                   have HCacc2 : Hid (acc2 = acc1 ++ [(Utf8.encode r)]) := hacc1
                   clear hown hgrow hat hlt3 hacc1
                   rw [hl2]))
            go_roundg (X.size - pos)
            case measure => have := HG.out; omega
            case rel =>
              have h1 := (st_sep1 HS.out hpx (by rw [hpr]; exact Bool.or_true _)).2
              refine ⟨pos + 1, acc2, -1, some ⟨g2, 0, none⟩, cap2, by omega, rfl, rfl, by omega, st_to hpx ?_, HT4.out⟩
              have h2 : mid X[pos] = [X[pos]] :: [] := by unfold mid; rw [if_pos hpr]
              rw [h2] at h1
              rw [HCacc2.out, HCacc1.out, List.map_append, List.map_cons, List.map_nil, HENC.out]; exact h1
        · clear hpar hbt
          have hst : st = -1 ∨ ∃ s0 : Nat, st = (s0 : Int) ∧ s0 < pos := by
            rcases HS.out with ⟨_, h, _⟩ | ⟨s0, h, h2, _⟩ | ⟨_, h, _⟩
            · exact Or.inl h
            · exact Or.inr ⟨s0, h, h2⟩
            · exact Or.inl h
          rcases hst with rfl | ⟨s0, rfl, hs0⟩
          · have tok1 : True := trivial
            go_wp2_with fail
            refine (cont_any _ hr0 hr1 _).mono ?_
            rintro e' w2 ⟨rfl, hb2⟩
            have HT2 : Hid (TS w w2 w.heap.size (X ++ ⟨#[32]⟩) (pos + 1) ao c acc) := HT1.out.after hb2
            clear hb2 HT1
            go_wp2_with (first
              | (
                   at_builtin
                   have _t := tok1
                   refine wpList_append_lies _ (by rfl) _ _ _ (by rfl) (w.heap.size + 1) 9 i0 _ 1 16 Try.underlying23 hi0 hz0 hz1 hz2 rfl (by omega) (.slice ao acc.length c) acc.length (strs acc) (by rfl) (HT2.out.owns.alloc _) ⟨w2.heap.size, 0, none⟩ 1 1 [.string (Utf8.encode r)] (by rfl) (by rfl) (World.news_of_block (cs := #[.string (Utf8.encode r)]) (t := 9) (fr := (0, 0)) (heap_alloc_new w2 _)) (by simp [Value.oneCell']) (by omega) (by unfold maxLen; omega) (by omega) (by have := HT2.out.lt; simp; omega) (w2.heap.size + 1) (by simp) ?_
                   intro g cap w3 hown hgrow hat hlt3
                   clear tok1
                   obtain ⟨acc1, hacc1⟩ : ∃ acc1, acc1 = acc ++ [(Utf8.encode r)] := ⟨_, rfl⟩
                   have hl1 : acc.length + 1 = acc1.length := by rw [hacc1]; simp
                   have HT3 : Hid (TS w w3 w.heap.size (X ++ ⟨#[32]⟩) (pos + 1) (some ⟨g, 0, none⟩) cap acc1) := by rw [hacc1]; exact HT2.out.app hgrow hown
                   have HCacc1 : Hid (acc1 = acc ++ [(Utf8.encode r)]) := hacc1
                   clear hown hgrow hat hlt3 hacc1
                   rw [hl1]))
            go_roundg (X.size - pos)
            case measure => have := HG.out; omega
            case rel =>
              have h1 := st_sep0 HS.out hpx (by rw [hpr]; exact Bool.or_true _)
              refine ⟨pos + 1, acc1, -1, some ⟨g, 0, none⟩, cap, by omega, rfl, rfl, by omega, st_to hpx ?_, HT3.out⟩
              have h2 : mid X[pos] = [X[pos]] :: [] := by unfold mid; rw [if_pos hpr]
              rw [h2] at h1
              rw [HCacc1.out, List.map_append, List.map_cons, List.map_nil, HENC.out]; exact h1
          · have tok1 : True := trivial
            have tok2 : True := trivial
            have hs1 : (s0 : Int) ≤ (pos : Int) := by omega
            have hs2 : (pos : Int) ≤ (X.size : Int) := by omega
            go_wp2_with fail
            refine (cont_any _ hr0 hr1 _).mono ?_
            rintro e' w2 ⟨rfl, hb2⟩
            have HT2 : Hid (TS w w2 w.heap.size (X ++ ⟨#[32]⟩) (pos + 1) ao c acc) := HT1.out.after hb2
            clear hb2 HT1
            go_wp2_with (first
              | (
                   at_builtin
                   have _t := tok1
                   refine wpList_append_lies _ (by rfl) _ _ _ (by rfl) (w.heap.size + 1) 9 i0 _ 1 16 Try.underlying23 hi0 hz0 hz1 hz2 rfl (by omega) (.slice ao acc.length c) acc.length (strs acc) (by rfl) (HT2.out.owns.alloc _) ⟨w2.heap.size, 0, none⟩ 1 1 [.string (X.extract s0 pos)] (by rfl) (by rfl) (World.news_of_block (cs := #[.string (X.extract s0 pos)]) (t := 9) (fr := (0, 0)) (heap_alloc_new w2 _)) (by simp [Value.oneCell']) (by omega) (by unfold maxLen; omega) (by omega) (by have := HT2.out.lt; simp; omega) (w2.heap.size + 1) (by simp) ?_
                   intro g cap w3 hown hgrow hat hlt3
                   clear tok1
                   obtain ⟨acc1, hacc1⟩ : ∃ acc1, acc1 = acc ++ [(X.extract s0 pos)] := ⟨_, rfl⟩
                   have hl1 : acc.length + 1 = acc1.length := by rw [hacc1]; simp
                   have HT3 : Hid (TS w w3 w.heap.size (X ++ ⟨#[32]⟩) (pos + 1) (some ⟨g, 0, none⟩) cap acc1) := by rw [hacc1]; exact HT2.out.app hgrow hown
                   have HCacc1 : Hid (acc1 = acc ++ [(X.extract s0 pos)]) := hacc1
                   clear hown hgrow hat hlt3 hacc1
                   rw [hl1])
              | (
                   at_builtin
                   have _t := tok2
                   refine wpList_append_lies _ (by rfl) _ _ _ (by rfl) (w.heap.size + 1) 9 i0 _ 1 16 Try.underlying23 hi0 hz0 hz1 hz2 rfl (by omega) (.slice (some ⟨g, 0, none⟩) acc1.length cap) acc1.length (strs acc1) (by rfl) (HT3.out.owns.alloc _) ⟨w3.heap.size, 0, none⟩ 1 1 [.string (Utf8.encode r)] (by rfl) (by rfl) (World.news_of_block (cs := #[.string (Utf8.encode r)]) (t := 9) (fr := (0, 0)) (heap_alloc_new w3 _)) (by simp [Value.oneCell']) (by omega) (by unfold maxLen; omega) (by omega) (by have := HT3.out.lt; simp; omega) (w3.heap.size + 1) (by simp) ?_
                   intro g2 cap2 w4 hown hgrow hat hlt3
                   clear tok2
                   obtain ⟨acc2, hacc1⟩ : ∃ acc2, acc2 = acc1 ++ [(Utf8.encode r)] := ⟨_, rfl⟩
                   have hl2 : acc1.length + 1 = acc2.length := by rw [hacc1]; simp
                   have HT4 : Hid (TS w w4 w.heap.size (X ++ ⟨#[32]⟩) (pos + 1) (some ⟨g2, 0, none⟩) cap2 acc2) := by rw [hacc1]; exact HT3.out.app hgrow hown
                   have HCacc2 : Hid (acc2 = acc1 ++ [(Utf8.encode r)]) := hacc1
                   clear hown hgrow hat hlt3 hacc1
                   rw [hl2]))
            go_roundg (X.size - pos)
            case measure => have := HG.out; omega
            case rel =>
              have h1 := (st_sep1 HS.out hpx (by rw [hpr]; exact Bool.or_true _)).2
              refine ⟨pos + 1, acc2, -1, some ⟨g2, 0, none⟩, cap2, by omega, rfl, rfl, by omega, st_to hpx ?_, HT4.out⟩
              have h2 : mid X[pos] = [X[pos]] :: [] := by unfold mid; rw [if_pos hpr]
              rw [h2] at h1
              rw [HCacc2.out, HCacc1.out, List.map_append, List.map_cons, List.map_nil, HENC.out]; exact h1
      · have e40 : (r == 40) = false := by simp only [beq_eq_false_iff_ne]; exact hn40
        have e41 : (r == 41) = false := by simp only [beq_eq_false_iff_ne]; exact hn41
        have HBY : Hid (∀ k, k < wd → (wh (X.get! (pos + k)) || pr (X.get! (pos + k))) = false) := hby
        clear hby
        have hst : st = -1 ∨ ∃ s0 : Nat, st = (s0 : Int) ∧ s0 < pos := by
          rcases HS.out with ⟨_, h, _⟩ | ⟨s0, h, h2, _⟩ | ⟨_, h, _⟩
          · exact Or.inl h
          · exact Or.inr ⟨s0, h, h2⟩
          · exact Or.inl h
        rcases hst with rfl | ⟨s0, rfl, hs0⟩
        · go_wp2_with fail
          refine (cont_any _ hr0 hr1 _).mono ?_
          rintro e' w2 ⟨rfl, hb2⟩
          have HT2 : Hid (TS w w2 w.heap.size (X ++ ⟨#[32]⟩) (pos + wd) ao c acc) := HT1.out.after hb2
          clear hb2 HT1
          go_wp2_with fail
          go_roundg (X.size + 1 - (pos + wd))
          case measure => have := HG.out; omega
          case rel => exact ⟨pos + wd, acc, (pos : Int), ao, c, by omega, rfl, rfl, by omega, st_run0 HS.out hwd hwx HBY.out, HT2.out⟩
        · go_wp2_with fail
          refine (cont_any _ hr0 hr1 _).mono ?_
          rintro e' w2 ⟨rfl, hb2⟩
          have HT2 : Hid (TS w w2 w.heap.size (X ++ ⟨#[32]⟩) (pos + wd) ao c acc) := HT1.out.after hb2
          clear hb2 HT1
          go_wp2_with fail
          go_roundg (X.size + 1 - (pos + wd))
          case measure => have := HG.out; omega
          case rel => exact ⟨pos + wd, acc, (s0 : Int), ao, c, by omega, rfl, rfl, by omega, st_run1 HS.out hwd hwx HBY.out, HT2.out⟩
    · have hnx : ∀ ty, (Instr.next (.pointer (some ⟨w.heap.size, 0, none⟩)) true ty).run Try.prog wr = .ok (.tuple #[.bool false]) wr := fun ty => Lib.run_next_end_at wr w.heap.size (X ++ ⟨#[32]⟩) pos ty HT.out.iter (by rw [T_size]; omega)
      go_wp2_with fail
      go_ret
      refine ⟨ao, c, acc, rfl, HT.out.owns, ?_, by have := HG.out; omega, HT.out.below⟩
      rcases HS.out with ⟨h, _⟩ | ⟨s0, _, _, h, _⟩ | ⟨_, _, h⟩
      · exact absurd h hlt
      · exact absurd h hlt
      · exact h
end Go.Proofs.Qxb6608866a
