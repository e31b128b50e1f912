import Derived.Test.Qxb6601223aLeaf
namespace Go.Proofs.Qxb6601223a
open Go.RowKit
set_option linter.unusedVariables false

set_option maxHeartbeats 2000000 in
/-- 23: plainEnd where nothing is refused. -/
theorem plain_ok (N o len cap p n e t : Nat) (b : Bool) (f : Nat → Int) (w : World) (ht : Tx w N o len f) (hl : len ≤ 1048576) (hlc : len ≤ cap) (hpn : p ≤ n) (hn : n ≤ len)
    (h0 : p = 0 → 0 < n → ¬ f 0 = 35) (hcm : Cm f p n e b) (htr : Trim f p e t) (hgood : ∀ m, p ≤ m → m < e → ¬ Bad f n m) :
    Calls Try.prog 23 #[.slice (some ⟨N, o, none⟩) len cap, .int .i64 (p : Int), .int .i64 (n : Int)] w fun x w' => x = .returned (.tuple #[.int .i64 (t : Int), .bool b, .bool true]) ∧ w' = w := by
  have HX : Hid (Tx w N o len f) := ht
  have H0 : Hid (p = 0 → 0 < n → ¬ f 0 = 35) := h0
  have HC : Hid (Cm f p n e b) := hcm
  have HT : Hid (Trim f p e t) := htr
  have HG : Hid (∀ m, p ≤ m → m < e → ¬ Bad f n m) := hgood
  obtain ⟨a1, a2, -, -⟩ := hcm
  clear ht h0 htr hgood
  go_enter Try.func23, Try.ntmps23
  go_upto_block 0 with fail
  go_cut [6, 7, 9, 10] from 15 to 36 (fun v6 v7 v9 v10 wc => v6 = .int .i64 (e : Int) ∧ v7 = .bool b ∧ wc = w)
  case first =>
    go_wp2_with fail
    go_loopg [6, 7, 9] (n - p) (fun g v6 v7 v9 wr => ∃ i : Nat, i + g = n ∧ p ≤ i ∧ v6 = .int .i64 (n : Int) ∧ v7 = .bool false ∧ v9 = .int .i64 (i : Int) ∧ wr = w ∧ Hid (∀ m, p ≤ m → m < i → ¬ Hs f m))
    case atStart => exact ⟨p, by omega, Nat.le_refl _, rfl, rfl, rfl, rfl, fun m h1 h2 => absurd h2 (by omega)⟩
    case round =>
      obtain ⟨i, hi, hpi, rfl, rfl, rfl, rfl, HF⟩ := hrel
      have HP : Hid (i + gk = n) := hi
      clear hi
      by_cases hlt : i < n
      · have hli : (i : Int) < (n : Int) := by omega
        have hnl : (n : Int) ≤ (len : Int) := by omega
        obtain ⟨q, hq⟩ := fst_ex' f 35 (i := i) (n := n) (by omega)
        have HQ : Hid (Fst f 35 i n q) := hq
        obtain ⟨q1, q2, -, -⟩ := hq
        by_cases hqn : q = n
        · subst hqn
          go_wp2_with (go_at_call 24; refine (idx_miss N o len _ i q f 35 _ HX.out hn (by omega) (by omega) HQ.out _ rfl).mono ?_; rintro e' w' ⟨rfl, rfl⟩)
          go_meet
          case rel =>
            obtain ⟨rfl, rfl⟩ := cm_uniq (cm_none (by omega) (free_to HF.out HQ.out)) HC.out
            exact ⟨rfl, rfl, rfl⟩
        · have hf : f q = 35 := by
            rcases HQ.out.2.2.2 with h | h
            · exact absurd h hqn
            · exact h
          have hq0 : 0 < q := by
            apply Nat.pos_of_ne_zero
            intro h
            subst h
            exact H0.out (by omega) (by omega) hf
          have HFq : Hid (f q = 35) := hf
          clear hf
          obtain ⟨d, hd⟩ : ∃ d, q = i + d := ⟨q - i, by omega⟩
          obtain ⟨m, hm⟩ : ∃ m, q = m + 1 := ⟨q - 1, by omega⟩
          have HD : Hid (q = i + d) := hd
          have HM : Hid (q = m + 1) := hm
          have hre : (i : Int) + (d : Int) = (m : Int) + 1 := by omega
          have hc := HX.out.1 m (by omega)
          have hml : (m : Int) < (len : Int) := by omega
          clear hd hm
          by_cases h32 : f m = 32
          · have e1 : (f m == 32) = true := by simp only [beq_iff_eq]; exact h32
            have H32 : Hid (f m = 32) := h32
            clear h32
            go_wp2_with (go_at_call 24; refine (idx_hit N o len _ i n q f 35 _ HX.out hn (by omega) (by omega) HQ.out (by omega) _ rfl d HD.out).mono ?_; rintro e' w' ⟨rfl, rfl⟩)
            go_meet
            case rel =>
              have hM := HM.out
              subst hM
              obtain ⟨rfl, rfl⟩ := cm_uniq (cm_first (f := f) (q := m + 1) (by omega) (by omega) (free_to HF.out HQ.out) ⟨HFq.out, hq0, by rw [Nat.add_sub_cancel]; exact H32.out⟩) HC.out
              exact ⟨by go_num, rfl, rfl⟩
          · have e1 : (f m == 32) = false := by simp only [beq_eq_false_iff_ne]; exact h32
            have H32 : Hid (¬ f m = 32) := h32
            clear h32
            go_wp2_with (go_at_call 24; refine (idx_hit N o len _ i n q f 35 _ HX.out hn (by omega) (by omega) HQ.out (by omega) _ rfl d HD.out).mono ?_; rintro e' w' ⟨rfl, rfl⟩)
            go_roundg (n - q - 1)
            case measure => have := HP.out; omega
            case rel =>
              have hM := HM.out
              refine ⟨q + 1, by omega, by omega, rfl, rfl, by rw [hM]; go_num, rfl, free_one (free_to HF.out HQ.out) ?_⟩
              rintro ⟨_, _, h⟩
              rw [hM, Nat.add_sub_cancel] at h
              exact H32.out h
      · obtain rfl : i = n := by have := HP.out; omega
        have hn' : decide (i < i) = false := by simp
        go_wp2_with fail
        go_meet
        case rel =>
          obtain ⟨rfl, rfl⟩ := cm_uniq (cm_none hpi HF.out) HC.out
          exact ⟨rfl, rfl, rfl⟩
  -- REST-START
  case rest =>
    obtain ⟨rfl, rfl, rfl⟩ := hcut
    go_upto_block 2 with fail
    go_cut [6, 7, 11, 12] from 38 to 64 (fun v6 v7 v11 v12 wc' => v6 = .int .i64 (e : Int) ∧ v7 = .bool b ∧ wc' = wc)
    case first =>
      go_wp2_with fail
      go_loopg [6, 7, 11] (e - p) (fun g v6 v7 v11 wr => ∃ i : Nat, i + g = e ∧ p ≤ i ∧ v6 = .int .i64 (e : Int) ∧ v7 = .bool b ∧ v11 = .int .i64 (i : Int) ∧ wr = wc ∧ Hid (∀ m, p ≤ m → m < i → ¬ Bad f n m))
      case atStart => exact ⟨p, by omega, Nat.le_refl _, rfl, rfl, rfl, rfl, fun m h1 h2 => absurd h2 (by omega)⟩
      case round =>
        obtain ⟨i, hi, hpi, rfl, rfl, rfl, rfl, HF⟩ := hrel
        have HP : Hid (i + gk = e) := hi
        clear hi
        by_cases hlt : i < e
        · have hli : (i : Int) < (e : Int) := by omega
          have hnl : (e : Int) ≤ (len : Int) := by omega
          obtain ⟨q, hq⟩ := fst_ex' f 58 (i := i) (n := e) (by omega)
          have HQ : Hid (Fst f 58 i e q) := hq
          obtain ⟨q1, q2, -, -⟩ := hq
          by_cases hqn : q = e
          · subst hqn
            go_wp2_with (go_at_call 24; refine (idx_miss N o len _ i q f 58 _ HX.out (by omega) (by omega) (by omega) HQ.out _ rfl).mono ?_; rintro e' w' ⟨rfl, rfl⟩)
            go_meet
            case rel => exact ⟨rfl, rfl, rfl⟩
          · have hf : f q = 58 := by
              rcases HQ.out.2.2.2 with h | h
              · exact absurd h hqn
              · exact h
            have HFq : Hid (f q = 58) := hf
            clear hf
            obtain ⟨d, hd⟩ : ∃ d, q = i + d := ⟨q - i, by omega⟩
            have HD : Hid (q = i + d) := hd
            have hre : (i : Int) + (d : Int) = (q : Int) := by omega
            clear hd
            have HNB : Hid (¬ Bad f n q) := HG.out q (by omega) (by omega)
            have hz1 : ¬ q + 1 = n := fun h => HNB.out ⟨HFq.out, Or.inl h⟩
            have hz2 : ¬ f (q + 1) = 32 := fun h => HNB.out ⟨HFq.out, Or.inr h⟩
            have hc := HX.out.1 (q + 1) (by omega)
            have hql : (q : Int) + 1 < (len : Int) := by omega
            have e0 : ((q : Int) + 1 == (n : Int)) = false := by simp only [beq_eq_false_iff_ne]; omega
            have e1 : (f (q + 1) == 32) = false := by simp only [beq_eq_false_iff_ne]; exact hz2
            clear hz1 hz2
            go_wp2_with (go_at_call 24; refine (idx_hit N o len _ i e q f 58 _ HX.out (by omega) (by omega) (by omega) HQ.out (by omega) _ rfl d HD.out).mono ?_; rintro e' w' ⟨rfl, rfl⟩)
            go_roundg (e - q - 1)
            case measure => have := HP.out; omega
            case rel => exact ⟨q + 1, by omega, by omega, rfl, rfl, by go_num, rfl, good_one (good_to HF.out HQ.out) HNB.out⟩
        · obtain rfl : i = e := by have := HP.out; omega
          have hn' : decide (i < i) = false := by simp
          go_wp2_with fail
          go_meet
          case rel => exact ⟨rfl, rfl, rfl⟩
    case rest =>
      obtain ⟨rfl, rfl, rfl⟩ := hcut
      go_wp2_with (go_at_call 25; refine (trim_any N o len cap p e t f _ HX.out hl (by omega) HT.out).mono ?_; rintro e' w' ⟨rfl, rfl⟩)
      go_ret3
      exact ⟨rfl, rfl⟩

set_option maxHeartbeats 2000000 in
/-- 23: plainEnd where it refuses. -/
theorem plain_no (N o len cap p n e : Nat) (b : Bool) (f : Nat → Int) (w : World) (ht : Tx w N o len f) (hl : len ≤ 1048576) (hlc : len ≤ cap) (hpn : p ≤ n) (hn : n ≤ len)
    (h0 : p = 0 → 0 < n → ¬ f 0 = 35) (hcm : Cm f p n e b) (hbad : ∃ m, p ≤ m ∧ m < e ∧ Bad f n m) :
    Calls Try.prog 23 #[.slice (some ⟨N, o, none⟩) len cap, .int .i64 (p : Int), .int .i64 (n : Int)] w fun x w' => x = .returned (.tuple #[.int .i64 0, .bool false, .bool false]) ∧ w' = w := by
  have HX : Hid (Tx w N o len f) := ht
  have H0 : Hid (p = 0 → 0 < n → ¬ f 0 = 35) := h0
  have HC : Hid (Cm f p n e b) := hcm
  have HG : Hid (∃ m, p ≤ m ∧ m < e ∧ Bad f n m) := hbad
  obtain ⟨a1, a2, -, -⟩ := hcm
  clear ht h0 hbad
  go_enter Try.func23, Try.ntmps23
  go_upto_block 0 with fail
  go_cut [6, 7, 9, 10] from 15 to 36 (fun v6 v7 v9 v10 wc => v6 = .int .i64 (e : Int) ∧ v7 = .bool b ∧ wc = w)
  case first =>
    go_wp2_with fail
    go_loopg [6, 7, 9] (n - p) (fun g v6 v7 v9 wr => ∃ i : Nat, i + g = n ∧ p ≤ i ∧ v6 = .int .i64 (n : Int) ∧ v7 = .bool false ∧ v9 = .int .i64 (i : Int) ∧ wr = w ∧ Hid (∀ m, p ≤ m → m < i → ¬ Hs f m))
    case atStart => exact ⟨p, by omega, Nat.le_refl _, rfl, rfl, rfl, rfl, fun m h1 h2 => absurd h2 (by omega)⟩
    case round =>
      obtain ⟨i, hi, hpi, rfl, rfl, rfl, rfl, HF⟩ := hrel
      have HP : Hid (i + gk = n) := hi
      clear hi
      by_cases hlt : i < n
      · have hli : (i : Int) < (n : Int) := by omega
        have hnl : (n : Int) ≤ (len : Int) := by omega
        obtain ⟨q, hq⟩ := fst_ex' f 35 (i := i) (n := n) (by omega)
        have HQ : Hid (Fst f 35 i n q) := hq
        obtain ⟨q1, q2, -, -⟩ := hq
        by_cases hqn : q = n
        · subst hqn
          go_wp2_with (go_at_call 24; refine (idx_miss N o len _ i q f 35 _ HX.out hn (by omega) (by omega) HQ.out _ rfl).mono ?_; rintro e' w' ⟨rfl, rfl⟩)
          go_meet
          case rel =>
            obtain ⟨rfl, rfl⟩ := cm_uniq (cm_none (by omega) (free_to HF.out HQ.out)) HC.out
            exact ⟨rfl, rfl, rfl⟩
        · have hf : f q = 35 := by
            rcases HQ.out.2.2.2 with h | h
            · exact absurd h hqn
            · exact h
          have hq0 : 0 < q := by
            apply Nat.pos_of_ne_zero
            intro h
            subst h
            exact H0.out (by omega) (by omega) hf
          have HFq : Hid (f q = 35) := hf
          clear hf
          obtain ⟨d, hd⟩ : ∃ d, q = i + d := ⟨q - i, by omega⟩
          obtain ⟨m, hm⟩ : ∃ m, q = m + 1 := ⟨q - 1, by omega⟩
          have HD : Hid (q = i + d) := hd
          have HM : Hid (q = m + 1) := hm
          have hre : (i : Int) + (d : Int) = (m : Int) + 1 := by omega
          have hc := HX.out.1 m (by omega)
          have hml : (m : Int) < (len : Int) := by omega
          clear hd hm
          by_cases h32 : f m = 32
          · have e1 : (f m == 32) = true := by simp only [beq_iff_eq]; exact h32
            have H32 : Hid (f m = 32) := h32
            clear h32
            go_wp2_with (go_at_call 24; refine (idx_hit N o len _ i n q f 35 _ HX.out hn (by omega) (by omega) HQ.out (by omega) _ rfl d HD.out).mono ?_; rintro e' w' ⟨rfl, rfl⟩)
            go_meet
            case rel =>
              have hM := HM.out
              subst hM
              obtain ⟨rfl, rfl⟩ := cm_uniq (cm_first (f := f) (q := m + 1) (by omega) (by omega) (free_to HF.out HQ.out) ⟨HFq.out, hq0, by rw [Nat.add_sub_cancel]; exact H32.out⟩) HC.out
              exact ⟨by go_num, rfl, rfl⟩
          · have e1 : (f m == 32) = false := by simp only [beq_eq_false_iff_ne]; exact h32
            have H32 : Hid (¬ f m = 32) := h32
            clear h32
            go_wp2_with (go_at_call 24; refine (idx_hit N o len _ i n q f 35 _ HX.out hn (by omega) (by omega) HQ.out (by omega) _ rfl d HD.out).mono ?_; rintro e' w' ⟨rfl, rfl⟩)
            go_roundg (n - q - 1)
            case measure => have := HP.out; omega
            case rel =>
              have hM := HM.out
              refine ⟨q + 1, by omega, by omega, rfl, rfl, by rw [hM]; go_num, rfl, free_one (free_to HF.out HQ.out) ?_⟩
              rintro ⟨_, _, h⟩
              rw [hM, Nat.add_sub_cancel] at h
              exact H32.out h
      · obtain rfl : i = n := by have := HP.out; omega
        have hn' : decide (i < i) = false := by simp
        go_wp2_with fail
        go_meet
        case rel =>
          obtain ⟨rfl, rfl⟩ := cm_uniq (cm_none hpi HF.out) HC.out
          exact ⟨rfl, rfl, rfl⟩
  case rest =>
    obtain ⟨rfl, rfl, rfl⟩ := hcut
    go_wp2_with fail
    go_loopg [6, 7, 11] (e - p) (fun g v6 v7 v11 wr => ∃ i : Nat, i + g = e ∧ p ≤ i ∧ v6 = .int .i64 (e : Int) ∧ v7 = .bool b ∧ v11 = .int .i64 (i : Int) ∧ wr = wc ∧ Hid (∀ m, p ≤ m → m < i → ¬ Bad f n m))
    case atStart => exact ⟨p, by omega, Nat.le_refl _, rfl, rfl, rfl, rfl, fun m h1 h2 => absurd h2 (by omega)⟩
    case round =>
      obtain ⟨i, hi, hpi, rfl, rfl, rfl, rfl, HF⟩ := hrel
      have HP : Hid (i + gk = e) := hi
      clear hi
      by_cases hlt : i < e
      · have hli : (i : Int) < (e : Int) := by omega
        have hnl : (e : Int) ≤ (len : Int) := by omega
        obtain ⟨q, hq⟩ := fst_ex' f 58 (i := i) (n := e) (by omega)
        have HQ : Hid (Fst f 58 i e q) := hq
        obtain ⟨q1, q2, -, -⟩ := hq
        by_cases hqn : q = e
        · subst hqn
          obtain ⟨m, m1, m2, m3⟩ := HG.out
          exact absurd m3 (good_to HF.out HQ.out m m1 m2)
        · have hf : f q = 58 := by
            rcases HQ.out.2.2.2 with h | h
            · exact absurd h hqn
            · exact h
          have HFq : Hid (f q = 58) := hf
          clear hf
          obtain ⟨d, hd⟩ : ∃ d, q = i + d := ⟨q - i, by omega⟩
          have HD : Hid (q = i + d) := hd
          have hre : (i : Int) + (d : Int) = (q : Int) := by omega
          clear hd
          by_cases hnb : Bad f n q
          · have HNB : Hid (Bad f n q) := hnb
            by_cases hz1 : q + 1 = n
            · have e0 : ((q : Int) + 1 == (n : Int)) = true := by simp only [beq_iff_eq]; omega
              clear hnb hz1
              go_wp2_with (go_at_call 24; refine (idx_hit N o len _ i e q f 58 _ HX.out (by omega) (by omega) (by omega) HQ.out (by omega) _ rfl d HD.out).mono ?_; rintro e' w' ⟨rfl, rfl⟩)
              go_ret3
              exact ⟨rfl, rfl⟩
            · have hz2 : f (q + 1) = 32 := by
                rcases HNB.out.2 with h | h
                · exact absurd h hz1
                · exact h
              have hc := HX.out.1 (q + 1) (by omega)
              have hql : (q : Int) + 1 < (len : Int) := by omega
              have e0 : ((q : Int) + 1 == (n : Int)) = false := by simp only [beq_eq_false_iff_ne]; omega
              have e1 : (f (q + 1) == 32) = true := by simp only [beq_iff_eq]; exact hz2
              clear hnb hz1 hz2
              go_wp2_with (go_at_call 24; refine (idx_hit N o len _ i e q f 58 _ HX.out (by omega) (by omega) (by omega) HQ.out (by omega) _ rfl d HD.out).mono ?_; rintro e' w' ⟨rfl, rfl⟩)
              go_ret3
              exact ⟨rfl, rfl⟩
          · have HNB : Hid (¬ Bad f n q) := hnb
            have hz1 : ¬ q + 1 = n := fun h => HNB.out ⟨HFq.out, Or.inl h⟩
            have hz2 : ¬ f (q + 1) = 32 := fun h => HNB.out ⟨HFq.out, Or.inr h⟩
            clear hnb
            have hc := HX.out.1 (q + 1) (by omega)
            have hql : (q : Int) + 1 < (len : Int) := by omega
            have e0 : ((q : Int) + 1 == (n : Int)) = false := by simp only [beq_eq_false_iff_ne]; omega
            have e1 : (f (q + 1) == 32) = false := by simp only [beq_eq_false_iff_ne]; exact hz2
            clear hz1 hz2
            go_wp2_with (go_at_call 24; refine (idx_hit N o len _ i e q f 58 _ HX.out (by omega) (by omega) (by omega) HQ.out (by omega) _ rfl d HD.out).mono ?_; rintro e' w' ⟨rfl, rfl⟩)
            go_roundg (e - q - 1)
            case measure => have := HP.out; omega
            case rel => exact ⟨q + 1, by omega, by omega, rfl, rfl, by go_num, rfl, good_one (good_to HF.out HQ.out) HNB.out⟩
      · obtain rfl : i = e := by have := HP.out; omega
        obtain ⟨m, m1, m2, m3⟩ := HG.out
        exact absurd m3 (HF.out m m1 m2)
end Go.Proofs.Qxb6601223a
