import Derived.Test.Qxb6601223aLeaf
namespace Go.Proofs.Qxb6601223a
open Go.RowKit
set_option linter.unusedVariables false

theorem no_hs1 {f : Nat → Int} {m : Nat} (h : ¬ f m = 35) : ¬ Hs f m := fun x => h x.1
theorem no_hs2 {f : Nat → Int} {m : Nat} (h : m ≤ 0) : ¬ Hs f m := fun x => absurd x.2.1 (by omega)
theorem no_hs3 {f : Nat → Int} {l : Nat} (h : ¬ f l = 32) : ¬ Hs f (l + 1) := fun x => h (by have := x.2.2; rw [Nat.add_sub_cancel] at this; exact this)
theorem is_hs {f : Nat → Int} {l : Nat} (h1 : f (l + 1) = 35) (h2 : f l = 32) : Hs f (l + 1) := ⟨h1, Nat.succ_pos _, by rw [Nat.add_sub_cancel]; exact h2⟩

set_option maxHeartbeats 2000000 in
/-- 18: zzPlainEndModel where nothing is refused. -/
theorem model_ok (N o len cap p n e t : Nat) (b : Bool) (f : Nat → Int) (w : World) (ht : Tx w N o len f) (hl : len ≤ 1048576) (hpn : p ≤ n) (hn : n ≤ len)
    (hcm : Cm f p n e b) (htr : Trim f p e t) (hgood : ∀ m, p ≤ m → m < e → ¬ Bad f n m) :
    Calls Try.prog 18 #[.slice (some ⟨N, o, none⟩) len cap, .int .i64 (p : Int), .int .i64 (n : Int)] w fun x w' => x = .returned (.tuple #[.int .i64 (t : Int), .bool b, .bool true]) ∧ w' = w := by
  have HX : Hid (Tx w N o len f) := ht
  have HC : Hid (Cm f p n e b) := hcm
  have HT : Hid (Trim f p e t) := htr
  have HG : Hid (∀ m, p ≤ m → m < e → ¬ Bad f n m) := hgood
  obtain ⟨a1, a2, -, -⟩ := hcm
  clear ht htr hgood
  go_enter Try.func18, Try.ntmps18
  go_upto_block 0 with fail
  go_cut [9, 10, 11] from 17 to 39 (fun v9 v10 v11 wc => v9 = .int .i64 (e : Int) ∧ v10 = .bool b ∧ wc = w)
  case first =>
    go_wp2_with fail
    go_loopg [9, 10, 11] (n - p) (fun g v9 v10 v11 wr => ∃ (q e' : Nat) (b' : Bool), q = p + g ∧ q ≤ n ∧ v9 = .int .i64 (e' : Int) ∧ v10 = .bool b' ∧ v11 = .int .i64 ((q : Int) - 1) ∧ wr = w ∧ Hid (Cm f q n e' b'))
    case atStart => exact ⟨n, n, false, by omega, Nat.le_refl _, rfl, rfl, rfl, rfl, cm_end f n⟩
    case round =>
      obtain ⟨q, e', b', hq, hqn, rfl, rfl, rfl, rfl, HF⟩ := hrel
      have HP : Hid (q = p + gk) := hq
      clear hq
      by_cases hlt : p < q
      · obtain ⟨m, rfl⟩ : ∃ m, q = m + 1 := ⟨q - 1, by omega⟩
        have hpm : (p : Int) ≤ (m : Int) := by omega
        have hml : (m : Int) < (len : Int) := by omega
        have hc := HX.out.1 m (by omega)
        by_cases h35 : f m = 35
        · have e1 : (f m == 35) = true := by simp only [beq_iff_eq]; exact h35
          have H35 : Hid (f m = 35) := h35
          clear h35
          by_cases hm0 : m ≤ 0
          · have d0 : decide (0 < m) = false := decide_eq_false (by omega)
            go_wp2_with fail
            go_roundg (gk - 1)
            case measure => have := HP.out; omega
            case rel => exact ⟨m, e', b', by have := HP.out; omega, by omega, rfl, rfl, by go_num, rfl, cm_miss HF.out (no_hs2 (by omega))⟩
          · obtain ⟨l, rfl⟩ : ∃ l, m = l + 1 := ⟨m - 1, by omega⟩
            have hl0 : (0 : Int) < (l : Int) + 1 := by omega
            have hll : (l : Int) < (len : Int) := by omega
            have hc2 := HX.out.1 l (by omega)
            by_cases h32 : f l = 32
            · have e2 : (f l == 32) = true := by simp only [beq_iff_eq]; exact h32
              have H32 : Hid (f l = 32) := h32
              clear h32
              go_wp2_with fail
              go_roundg (gk - 1)
              case measure => have := HP.out; omega
              case rel => exact ⟨l + 1, l + 1, true, by have := HP.out; omega, by omega, by go_num, rfl, by go_num, rfl, cm_hit (by omega) (is_hs H35.out H32.out)⟩
            · have e2 : (f l == 32) = false := by simp only [beq_eq_false_iff_ne]; exact h32
              have H32 : Hid (¬ f l = 32) := h32
              clear h32
              go_wp2_with fail
              go_roundg (gk - 1)
              case measure => have := HP.out; omega
              case rel => exact ⟨l + 1, e', b', by have := HP.out; omega, by omega, rfl, rfl, by go_num, rfl, cm_miss HF.out (no_hs3 H32.out)⟩
        · have e1 : (f m == 35) = false := by simp only [beq_eq_false_iff_ne]; exact h35
          have H35 : Hid (¬ f m = 35) := h35
          clear h35
          go_wp2_with fail
          go_roundg (gk - 1)
          case measure => have := HP.out; omega
          case rel => exact ⟨m, e', b', by have := HP.out; omega, by omega, rfl, rfl, by go_num, rfl, cm_miss HF.out (no_hs1 H35.out)⟩
      · obtain rfl : q = p := by have := HP.out; omega
        have hn' : decide ((q : Int) ≤ (q : Int) - 1) = false := by simp; omega
        go_wp2_with fail
        go_meet
        case rel =>
          obtain ⟨rfl, rfl⟩ := cm_uniq HF.out HC.out
          exact ⟨rfl, rfl, rfl⟩
  case rest =>
    obtain ⟨rfl, rfl, rfl⟩ := hcut
    go_upto_block 2 with fail
    go_cut [12] from 41 to 62 (fun v12 wc' => wc' = wc)
    case first =>
      go_wp2_with fail
      go_loopg [12] (e - p) (fun g v12 wr => ∃ i : Nat, i + g = e ∧ p ≤ i ∧ v12 = .int .i64 (i : Int) ∧ wr = wc ∧ Hid (∀ m, p ≤ m → m < i → ¬ Bad f n m))
      case atStart => exact ⟨p, by omega, Nat.le_refl _, rfl, rfl, fun m h1 h2 => absurd h2 (by omega)⟩
      case round =>
        obtain ⟨i, hi, hpi, rfl, rfl, HF⟩ := hrel
        have HP : Hid (i + gk = e) := hi
        clear hi
        by_cases hlt : i < e
        · have hli : (i : Int) < (e : Int) := by omega
          have hil : (i : Int) < (len : Int) := by omega
          have hc := HX.out.1 i (by omega)
          by_cases h58 : f i = 58
          · have e1 : (f i == 58) = true := by simp only [beq_iff_eq]; exact h58
            have H58 : Hid (f i = 58) := h58
            clear h58
            have HNB : Hid (¬ Bad f n i) := HG.out i (by omega) (by omega)
            have hz1 : ¬ i + 1 = n := fun h => HNB.out ⟨H58.out, Or.inl h⟩
            have hz2 : ¬ f (i + 1) = 32 := fun h => HNB.out ⟨H58.out, Or.inr h⟩
            have hc2 := HX.out.1 (i + 1) (by omega)
            have hql : (i : Int) + 1 < (len : Int) := by omega
            have e0 : ((i : Int) + 1 == (n : Int)) = false := by simp only [beq_eq_false_iff_ne]; omega
            have e2 : (f (i + 1) == 32) = false := by simp only [beq_eq_false_iff_ne]; exact hz2
            clear hz1 hz2
            go_wp2_with fail
            go_roundg (gk - 1)
            case measure => have := HP.out; omega
            case rel => exact ⟨i + 1, by have := HP.out; omega, by omega, by go_num, rfl, good_one HF.out HNB.out⟩
          · have e1 : (f i == 58) = false := by simp only [beq_eq_false_iff_ne]; exact h58
            have H58 : Hid (¬ f i = 58) := h58
            clear h58
            go_wp2_with fail
            go_roundg (gk - 1)
            case measure => have := HP.out; omega
            case rel => exact ⟨i + 1, by have := HP.out; omega, by omega, by go_num, rfl, good_one HF.out (fun x => H58.out x.1)⟩
        · obtain rfl : i = e := by have := HP.out; omega
          have hn' : decide (i < i) = false := by simp
          go_wp2_with fail
          go_meet
          case rel => rfl
    case rest =>
      obtain rfl := hcut
      go_wp2_with fail
      go_loopg [13] (e - t) (fun g v wr => ∃ q : Nat, q = t + g ∧ q ≤ e ∧ v = .int .i64 (q : Int) ∧ wr = wc)
      case atStart => exact ⟨e, by have := HT.out.2.1; omega, Nat.le_refl _, rfl, rfl⟩
      case round =>
        obtain ⟨q, hq, hqe, rfl, rfl⟩ := hrel
        have HP : Hid (q = t + gk) := hq
        clear hq
        have hpt := HT.out.1
        have hte := HT.out.2.1
        by_cases hlt : t < q
        · obtain ⟨m, rfl⟩ : ∃ m, q = m + 1 := ⟨q - 1, by omega⟩
          have hpi : (p : Int) < (m : Int) + 1 := by omega
          have hml : (m : Int) < (len : Int) := by omega
          have hc := HX.out.1 m (by omega)
          have e1 : (f m == 32) = true := by simp only [beq_iff_eq]; exact HT.out.2.2.1 m (by omega) (by omega)
          go_wp2_with fail
          go_roundg (gk - 1)
          case measure => have := HP.out; omega
          case rel => exact ⟨m, by have := HP.out; omega, by omega, by go_num, rfl⟩
        · obtain rfl : q = t := by have := HP.out; omega
          by_cases hsz : q = p
          · have hn : decide (p < q) = false := by simp; omega
            go_wp2_with fail
            go_ret3
            exact ⟨rfl, rfl⟩
          · obtain ⟨m, rfl⟩ : ∃ m, q = m + 1 := ⟨q - 1, by omega⟩
            have hpi : (p : Int) < (m : Int) + 1 := by omega
            have hml : (m : Int) < (len : Int) := by omega
            have hc := HX.out.1 m (by omega)
            have e1 : (f m == 32) = false := by
              rcases HT.out.2.2.2 with h | h
              · omega
              · simp only [beq_eq_false_iff_ne]; exact h
            go_wp2_with fail
            go_ret3
            exact ⟨rfl, rfl⟩

set_option maxHeartbeats 2000000 in
/-- 18: zzPlainEndModel where it refuses. -/
theorem model_no (N o len cap p n e : Nat) (b : Bool) (f : Nat → Int) (w : World) (ht : Tx w N o len f) (hl : len ≤ 1048576) (hpn : p ≤ n) (hn : n ≤ len)
    (hcm : Cm f p n e b) (hbad : ∃ m, p ≤ m ∧ m < e ∧ Bad f n m) :
    Calls Try.prog 18 #[.slice (some ⟨N, o, none⟩) len cap, .int .i64 (p : Int), .int .i64 (n : Int)] w fun x w' => x = .returned (.tuple #[.int .i64 0, .bool false, .bool false]) ∧ w' = w := by
  have HX : Hid (Tx w N o len f) := ht
  have HC : Hid (Cm f p n e b) := hcm
  have HG : Hid (∃ m, p ≤ m ∧ m < e ∧ Bad f n m) := hbad
  obtain ⟨a1, a2, -, -⟩ := hcm
  clear ht hbad
  go_enter Try.func18, Try.ntmps18
  go_upto_block 0 with fail
  go_cut [9, 10, 11] from 17 to 39 (fun v9 v10 v11 wc => v9 = .int .i64 (e : Int) ∧ v10 = .bool b ∧ wc = w)
  case first =>
    go_wp2_with fail
    go_loopg [9, 10, 11] (n - p) (fun g v9 v10 v11 wr => ∃ (q e' : Nat) (b' : Bool), q = p + g ∧ q ≤ n ∧ v9 = .int .i64 (e' : Int) ∧ v10 = .bool b' ∧ v11 = .int .i64 ((q : Int) - 1) ∧ wr = w ∧ Hid (Cm f q n e' b'))
    case atStart => exact ⟨n, n, false, by omega, Nat.le_refl _, rfl, rfl, rfl, rfl, cm_end f n⟩
    case round =>
      obtain ⟨q, e', b', hq, hqn, rfl, rfl, rfl, rfl, HF⟩ := hrel
      have HP : Hid (q = p + gk) := hq
      clear hq
      by_cases hlt : p < q
      · obtain ⟨m, rfl⟩ : ∃ m, q = m + 1 := ⟨q - 1, by omega⟩
        have hpm : (p : Int) ≤ (m : Int) := by omega
        have hml : (m : Int) < (len : Int) := by omega
        have hc := HX.out.1 m (by omega)
        by_cases h35 : f m = 35
        · have e1 : (f m == 35) = true := by simp only [beq_iff_eq]; exact h35
          have H35 : Hid (f m = 35) := h35
          clear h35
          by_cases hm0 : m ≤ 0
          · have d0 : decide (0 < m) = false := decide_eq_false (by omega)
            go_wp2_with fail
            go_roundg (gk - 1)
            case measure => have := HP.out; omega
            case rel => exact ⟨m, e', b', by have := HP.out; omega, by omega, rfl, rfl, by go_num, rfl, cm_miss HF.out (no_hs2 (by omega))⟩
          · obtain ⟨l, rfl⟩ : ∃ l, m = l + 1 := ⟨m - 1, by omega⟩
            have hl0 : (0 : Int) < (l : Int) + 1 := by omega
            have hll : (l : Int) < (len : Int) := by omega
            have hc2 := HX.out.1 l (by omega)
            by_cases h32 : f l = 32
            · have e2 : (f l == 32) = true := by simp only [beq_iff_eq]; exact h32
              have H32 : Hid (f l = 32) := h32
              clear h32
              go_wp2_with fail
              go_roundg (gk - 1)
              case measure => have := HP.out; omega
              case rel => exact ⟨l + 1, l + 1, true, by have := HP.out; omega, by omega, by go_num, rfl, by go_num, rfl, cm_hit (by omega) (is_hs H35.out H32.out)⟩
            · have e2 : (f l == 32) = false := by simp only [beq_eq_false_iff_ne]; exact h32
              have H32 : Hid (¬ f l = 32) := h32
              clear h32
              go_wp2_with fail
              go_roundg (gk - 1)
              case measure => have := HP.out; omega
              case rel => exact ⟨l + 1, e', b', by have := HP.out; omega, by omega, rfl, rfl, by go_num, rfl, cm_miss HF.out (no_hs3 H32.out)⟩
        · have e1 : (f m == 35) = false := by simp only [beq_eq_false_iff_ne]; exact h35
          have H35 : Hid (¬ f m = 35) := h35
          clear h35
          go_wp2_with fail
          go_roundg (gk - 1)
          case measure => have := HP.out; omega
          case rel => exact ⟨m, e', b', by have := HP.out; omega, by omega, rfl, rfl, by go_num, rfl, cm_miss HF.out (no_hs1 H35.out)⟩
      · obtain rfl : q = p := by have := HP.out; omega
        have hn' : decide ((q : Int) ≤ (q : Int) - 1) = false := by simp; omega
        go_wp2_with fail
        go_meet
        case rel =>
          obtain ⟨rfl, rfl⟩ := cm_uniq HF.out HC.out
          exact ⟨rfl, rfl, rfl⟩
  case rest =>
    obtain ⟨rfl, rfl, rfl⟩ := hcut
    go_wp2_with fail
    go_loopg [12] (e - p) (fun g v12 wr => ∃ i : Nat, i + g = e ∧ p ≤ i ∧ v12 = .int .i64 (i : Int) ∧ wr = wc ∧ Hid (∀ m, p ≤ m → m < i → ¬ Bad f n m))
    case atStart => exact ⟨p, by omega, Nat.le_refl _, rfl, rfl, fun m h1 h2 => absurd h2 (by omega)⟩
    case round =>
      obtain ⟨i, hi, hpi, rfl, rfl, HF⟩ := hrel
      have HP : Hid (i + gk = e) := hi
      clear hi
      by_cases hlt : i < e
      · have hli : (i : Int) < (e : Int) := by omega
        have hil : (i : Int) < (len : Int) := by omega
        have hc := HX.out.1 i (by omega)
        by_cases h58 : f i = 58
        · have e1 : (f i == 58) = true := by simp only [beq_iff_eq]; exact h58
          have H58 : Hid (f i = 58) := h58
          clear h58
          by_cases hnb : Bad f n i
          · have HNB : Hid (Bad f n i) := hnb
            by_cases hz1 : i + 1 = n
            · have e0 : ((i : Int) + 1 == (n : Int)) = true := by simp only [beq_iff_eq]; omega
              clear hnb hz1
              go_wp2_with fail
              go_ret3
              exact ⟨rfl, rfl⟩
            · have hz2 : f (i + 1) = 32 := by
                rcases HNB.out.2 with h | h
                · exact absurd h hz1
                · exact h
              have hc2 := HX.out.1 (i + 1) (by omega)
              have hql : (i : Int) + 1 < (len : Int) := by omega
              have e0 : ((i : Int) + 1 == (n : Int)) = false := by simp only [beq_eq_false_iff_ne]; omega
              have e2 : (f (i + 1) == 32) = true := by simp only [beq_iff_eq]; exact hz2
              clear hnb hz1 hz2
              go_wp2_with fail
              go_ret3
              exact ⟨rfl, rfl⟩
          · have HNB : Hid (¬ Bad f n i) := hnb
            have hz1 : ¬ i + 1 = n := fun h => HNB.out ⟨H58.out, Or.inl h⟩
            have hz2 : ¬ f (i + 1) = 32 := fun h => HNB.out ⟨H58.out, Or.inr h⟩
            clear hnb
            have hc2 := HX.out.1 (i + 1) (by omega)
            have hql : (i : Int) + 1 < (len : Int) := by omega
            have e0 : ((i : Int) + 1 == (n : Int)) = false := by simp only [beq_eq_false_iff_ne]; omega
            have e2 : (f (i + 1) == 32) = false := by simp only [beq_eq_false_iff_ne]; exact hz2
            clear hz1 hz2
            go_wp2_with fail
            go_roundg (gk - 1)
            case measure => have := HP.out; omega
            case rel => exact ⟨i + 1, by have := HP.out; omega, by omega, by go_num, rfl, good_one HF.out HNB.out⟩
        · have e1 : (f i == 58) = false := by simp only [beq_eq_false_iff_ne]; exact h58
          have H58 : Hid (¬ f i = 58) := h58
          clear h58
          go_wp2_with fail
          go_roundg (gk - 1)
          case measure => have := HP.out; omega
          case rel => exact ⟨i + 1, by have := HP.out; omega, by omega, by go_num, rfl, good_one HF.out (fun x => H58.out x.1)⟩
      · obtain rfl : i = e := by have := HP.out; omega
        obtain ⟨m, m1, m2, m3⟩ := HG.out
        exact absurd m3 (HF.out m m1 m2)
end Go.Proofs.Qxb6601223a
