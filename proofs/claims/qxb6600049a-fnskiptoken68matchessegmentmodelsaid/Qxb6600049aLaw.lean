import Derived.Test.Qxb6600049aZz
namespace Go.Proofs.Qxb6600049a
open Go.RowKit
set_option linter.unusedVariables false

theorem dn_ex (f : Nat → Int) (P : Int → Bool) (i : Nat) : ∀ (d a : Nat), i + d = a → ∃ b, Dn f P i a b := by
  intro d
  induction d with
  | zero => intro a h; exact ⟨a, by omega, Nat.le_refl _, fun m h1 h2 => absurd h2 (by omega), Or.inl (by omega)⟩
  | succ d ih =>
    intro a h
    cases hp : P (f (a - 1)) with
    | false => exact ⟨a, by omega, Nat.le_refl _, fun m h1 h2 => absurd h2 (by omega), Or.inr hp⟩
    | true =>
      obtain ⟨b, h1, h2, h3, h4⟩ := ih (a - 1) (by omega)
      refine ⟨b, h1, by omega, fun m m1 m2 => ?_, h4⟩
      by_cases e : m = a - 1
      · rw [e]; exact hp
      · exact h3 m m1 (by omega)
theorem dn_ex' (f : Nat → Int) (P : Int → Bool) {i a : Nat} (h : i ≤ a) : ∃ b, Dn f P i a b := dn_ex f P i (a - i) a (by omega)

/-- 5: the bound. -/
theorem zzb_ok (s : ByteArray) (i : Int) (w : World) (hs : s.size ≤ maxLen) (h : s.size ≤ 1048576) :
    Calls Try.prog 5 #[.string s, .int .i64 i] w fun e w' => e = .returned (.bool true) ∧ w' = w := by
  unfold maxLen at hs
  go_enter Try.func5, Try.ntmps5
  go_wp2
  go_ret
  exact ⟨rfl, rfl⟩
/-- The law where the text is too long. -/
theorem law_long (s : ByteArray) (i : Int) (w : World) (hs : s.size ≤ maxLen) (h : 1048576 < s.size) :
    Calls Try.prog 3 #[.string s, .int .i64 i] w fun e w' => e = .returned (.bool true) ∧ Grown w w' := by
  unfold maxLen at hs
  go_enter Try.func3, Try.ntmps3
  go_wp2
  go_ret
  exact ⟨rfl, Grown.refl _⟩
theorem law_neg (s : ByteArray) (i : Int) (w : World) (hs : s.size ≤ maxLen) (h : s.size ≤ 1048576) (hi : i < 0) :
    Calls Try.prog 3 #[.string s, .int .i64 i] w fun e w' => e = .returned (.bool true) ∧ Grown w w' := by
  unfold maxLen at hs
  go_enter Try.func3, Try.ntmps3
  go_wp2
  go_ret
  exact ⟨rfl, Grown.refl _⟩
theorem law_far (s : ByteArray) (i : Int) (w : World) (hs : s.size ≤ maxLen) (h : s.size ≤ 1048576) (h0 : 0 ≤ i) (hi : (s.size : Int) < i) :
    Calls Try.prog 3 #[.string s, .int .i64 i] w fun e w' => e = .returned (.bool true) ∧ Grown w w' := by
  unfold maxLen at hs
  go_enter Try.func3, Try.ntmps3
  go_wp2
  go_ret
  exact ⟨rfl, Grown.refl _⟩

set_option maxHeartbeats 2000000 in
theorem law_main (s : ByteArray) (k : Nat) (w : World) (hs : s.size ≤ maxLen) (h : s.size ≤ 1048576) (hk : k ≤ s.size) :
    Calls Try.prog 3 #[.string s, .int .i64 (k : Int)] w fun e w' => e = .returned (.bool true) ∧ Grown w w' := by
  have hs' := hs
  unfold maxLen at hs'
  obtain ⟨e, he⟩ := up_ex' (at_ s) ncB hk
  obtain ⟨j1, h1⟩ := dn_ex' (at_ s) spB he.1
  obtain ⟨j2, h2⟩ := dn_ex' (at_ s) eqB h1.1
  obtain ⟨j3, h3⟩ := dn_ex' (at_ s) tokB h2.1
  obtain ⟨j4, h4⟩ := dn_ex' (at_ s) spB h3.1
  obtain ⟨r1, k1⟩ := up_ex' (at_ s) spB hk
  obtain ⟨r2, k2⟩ := up_ex' (at_ s) tokB k1.2.1
  obtain ⟨r3, k3⟩ := up_ex' (at_ s) eqB k2.2.1
  obtain ⟨r4, k4⟩ := up_ex' (at_ s) spB k3.2.1
  have HPL := plain he h1 h2 h3 h4 k1 k2 k3 k4
  have HZ : ∀ (pb : Bool) (q : Nat), (pb = true ∧ q = r4 ∧ k < r1 ∧ r1 < r2 ∧ (r4 = s.size ∨ at_ s r4 = 44)) ∨ (pb = false ∧ q = k ∧ ¬ (k < r1 ∧ r1 < r2 ∧ (r4 = s.size ∨ at_ s r4 = 44))) → Calls Try.prog 8 #[.string s, .int .i64 (k : Int)] w fun e w' => e = .returned (.tuple #[.bool pb, .int .i64 (q : Int)]) ∧ Grown w w' :=
    fun pb q hq => zz_any s k r1 r2 r3 r4 w hs k1 k2 k3 k4 pb q hq
  have HY : Hid ((j3 < j2 ∧ j4 = k ∧ j4 < j3) → Calls Try.prog 8 #[.string s, .int .i64 (k : Int)] w fun x w' => x = .returned (.tuple #[.bool true, .int .i64 (e : Int)]) ∧ Grown w w') := by
    intro hh
    have := HPL.1.1 hh
    refine HZ true e (Or.inl ⟨rfl, (HPL.2 this).symm, this⟩)
  have HN : Hid (¬ (j3 < j2 ∧ j4 = k ∧ j4 < j3) → Calls Try.prog 8 #[.string s, .int .i64 (k : Int)] w fun x w' => x = .returned (.tuple #[.bool false, .int .i64 (k : Int)]) ∧ Grown w w') := by
    intro hh
    refine HZ false k (Or.inr ⟨rfl, rfl, fun x => hh (HPL.1.2 x)⟩)
  have HE : Hid (Up (at_ s) ncB s.size k e) := he
  have H1 : Hid (Dn (at_ s) spB k e j1) := h1
  have H2 : Hid (Dn (at_ s) eqB k j1 j2) := h2
  have H3 : Hid (Dn (at_ s) tokB k j2 j3) := h3
  have H4 : Hid (Dn (at_ s) spB k j3 j4) := h4
  obtain ⟨l1, l2, -, -⟩ := he
  obtain ⟨m1, n1, -, -⟩ := h1
  obtain ⟨m2, n2, -, -⟩ := h2
  obtain ⟨m3, n3, -, -⟩ := h3
  obtain ⟨m4, n4, -, -⟩ := h4
  clear HPL HZ k1 k2 k3 k4
  have b1 : decide (1048576 < (s.size : Int)) = false := by simp; omega
  have b2 : decide ((k : Int) < 0) = false := by simp
  have b3 : decide (s.size < k) = false := by simp; omega
  go_enter Try.func3, Try.ntmps3
  go_upto_block 0 with (go_at_call 5; refine (zzb_ok _ _ _ hs h).mono ?_; rintro e' w' ⟨rfl, rfl⟩)
  go_cut [5] from 29 to 40 (fun v wc => v = .int .i64 (e : Int) ∧ wc = w')
  case first =>
    go_wp2_with fail
    go_loopg [5] (e - k) (fun g v wr => ∃ p : Nat, p + g = e ∧ k ≤ p ∧ v = .int .i64 (p : Int) ∧ wr = w')
    case atStart => exact ⟨k, by omega, Nat.le_refl _, rfl, rfl⟩
    case round =>
      obtain ⟨p, hp, hkp, rfl, rfl⟩ := hrel
      have HP : Hid (p + gk = e) := hp
      clear hp
      by_cases hlt2 : p < e
      · have hps : p < s.size := by omega
        have hpi : (p : Int) < (s.size : Int) := by omega
        have hsp := HE.out.2.2.1 p hkp hlt2
        rw [at_lt hps] at hsp
        have e1 : ((s[p].toNat : Int) != 44) = true := by simp only [ncB, decide_eq_true_eq] at hsp; simp only [bne_iff_ne]; exact hsp
        clear hsp
        go_wp2_with fail
        go_roundg (gk - 1)
        case measure => have := HP.out; omega
        case rel => exact ⟨p + 1, by have := HP.out; omega, by omega, by go_num, rfl⟩
      · obtain rfl : p = e := by have := HP.out; omega
        by_cases hsz : p = s.size
        · have hn : decide (p < s.size) = false := by simp; omega
          go_wp2_with fail
          go_meet
          case rel => exact ⟨rfl, rfl⟩
        · have hps : p < s.size := by omega
          have hpi : (p : Int) < (s.size : Int) := by omega
          have hsp : ncB (at_ s p) = false := by
            rcases HE.out.2.2.2 with h | h
            · omega
            · exact h
          rw [at_lt hps] at hsp
          have e1 : ((s[p].toNat : Int) != 44) = false := by have := nc_f hsp; simp only [bne_eq_false_iff_eq]; exact this
          clear hsp
          go_wp2_with fail
          go_meet
          case rel => exact ⟨rfl, rfl⟩
  case rest =>
    obtain ⟨rfl, rfl⟩ := hcut
    go_upto_block 2 with fail
    go_cut [6] from 42 to 53 (fun v wc' => v = .int .i64 (j1 : Int) ∧ wc' = wc)
    case first =>
      go_wp2_with fail
      go_loopg [6] (e - j1) (fun g v wr => ∃ p : Nat, p = j1 + g ∧ p ≤ e ∧ v = .int .i64 (p : Int) ∧ wr = wc)
      case atStart => exact ⟨e, by omega, Nat.le_refl _, rfl, rfl⟩
      case round =>
        obtain ⟨p, hp, hkp, rfl, rfl⟩ := hrel
        have HP : Hid (p = j1 + gk) := hp
        clear hp
        by_cases hlt2 : j1 < p
        · obtain ⟨m, rfl⟩ : ∃ m, p = m + 1 := ⟨p - 1, by omega⟩
          have hps : m < s.size := by omega
          have hpi : (m : Int) < (s.size : Int) := by omega
          have hsp := H1.out.2.2.1 m (by omega) (by omega)
          rw [at_lt hps] at hsp
          have HT : Hid (∀ W, Calls Try.prog 6 #[.int .u8 (s[m].toNat : Int)] W fun e w' => e = .returned (.bool true) ∧ w' = W) := by
            intro W
            have := isSp_any (s[m].toNat : Int) W
            rw [hsp] at this
            exact this
          clear hsp
          have hki : (k : Int) < (m : Int) + 1 := by omega
          go_wp2_with (go_at_call 6; refine (HT.out _).mono ?_; rintro e' w' ⟨rfl, rfl⟩)
          go_roundg (gk - 1)
          case measure => have := HP.out; omega
          case rel => exact ⟨m, by have := HP.out; omega, by omega, by go_num, rfl⟩
        · obtain rfl : p = j1 := by have := HP.out; omega
          by_cases hsz : p = k
          · have hn : decide (k < p) = false := by simp; omega
            go_wp2_with fail
            go_meet
            case rel => exact ⟨rfl, rfl⟩
          · have hsp : spB (at_ s (p - 1)) = false := by
              rcases H1.out.2.2.2 with h | h
              · omega
              · exact h
            obtain ⟨m, rfl⟩ : ∃ m, p = m + 1 := ⟨p - 1, by omega⟩
            have hps : m < s.size := by omega
            have hpi : (m : Int) < (s.size : Int) := by omega
            rw [Nat.add_sub_cancel, at_lt hps] at hsp
            have HT : Hid (∀ W, Calls Try.prog 6 #[.int .u8 (s[m].toNat : Int)] W fun e w' => e = .returned (.bool false) ∧ w' = W) := by
              intro W
              have := isSp_any (s[m].toNat : Int) W
              rw [hsp] at this
              exact this
            clear hsp
            have hki : (k : Int) < (m : Int) + 1 := by omega
            go_wp2_with (go_at_call 6; refine (HT.out _).mono ?_; rintro e' w' ⟨rfl, rfl⟩)
            go_meet
            case rel => exact ⟨rfl, rfl⟩
    case rest =>
      obtain ⟨rfl, rfl⟩ := hcut
      go_upto_block 4 with fail
      go_cut [6] from 54 to 65 (fun v wc' => v = .int .i64 (j2 : Int) ∧ wc' = wc)
      case first =>
        go_wp2_with fail
        go_loopg [6] (j1 - j2) (fun g v wr => ∃ p : Nat, p = j2 + g ∧ p ≤ j1 ∧ v = .int .i64 (p : Int) ∧ wr = wc)
        case atStart => exact ⟨j1, by omega, Nat.le_refl _, rfl, rfl⟩
        case round =>
          obtain ⟨p, hp, hkp, rfl, rfl⟩ := hrel
          have HP : Hid (p = j2 + gk) := hp
          clear hp
          by_cases hlt2 : j2 < p
          · obtain ⟨m, rfl⟩ : ∃ m, p = m + 1 := ⟨p - 1, by omega⟩
            have hps : m < s.size := by omega
            have hpi : (m : Int) < (s.size : Int) := by omega
            have hsp := H2.out.2.2.1 m (by omega) (by omega)
            rw [at_lt hps] at hsp
            have e1 : ((s[m].toNat : Int) == 61) = true := hsp
            clear hsp
            have hki : (k : Int) < (m : Int) + 1 := by omega
            go_wp2_with fail
            go_roundg (gk - 1)
            case measure => have := HP.out; omega
            case rel => exact ⟨m, by have := HP.out; omega, by omega, by go_num, rfl⟩
          · obtain rfl : p = j2 := by have := HP.out; omega
            by_cases hsz : p = k
            · have hn : decide (k < p) = false := by simp; omega
              go_wp2_with fail
              go_meet
              case rel => exact ⟨rfl, rfl⟩
            · have hsp : eqB (at_ s (p - 1)) = false := by
                rcases H2.out.2.2.2 with h | h
                · omega
                · exact h
              obtain ⟨m, rfl⟩ : ∃ m, p = m + 1 := ⟨p - 1, by omega⟩
              have hps : m < s.size := by omega
              have hpi : (m : Int) < (s.size : Int) := by omega
              rw [Nat.add_sub_cancel, at_lt hps] at hsp
              have e1 : ((s[m].toNat : Int) == 61) = false := hsp
              clear hsp
              have hki : (k : Int) < (m : Int) + 1 := by omega
              go_wp2_with fail
              go_meet
              case rel => exact ⟨rfl, rfl⟩
      case rest =>
        obtain ⟨rfl, rfl⟩ := hcut
        go_upto_block 6 with fail
        go_cut [6] from 67 to 78 (fun v wc' => v = .int .i64 (j3 : Int) ∧ wc' = wc)
        case first =>
          go_wp2_with fail
          go_loopg [6] (j2 - j3) (fun g v wr => ∃ p : Nat, p = j3 + g ∧ p ≤ j2 ∧ v = .int .i64 (p : Int) ∧ wr = wc)
          case atStart => exact ⟨j2, by omega, Nat.le_refl _, rfl, rfl⟩
          case round =>
            obtain ⟨p, hp, hkp, rfl, rfl⟩ := hrel
            have HP : Hid (p = j3 + gk) := hp
            clear hp
            by_cases hlt2 : j3 < p
            · obtain ⟨m, rfl⟩ : ∃ m, p = m + 1 := ⟨p - 1, by omega⟩
              have hps : m < s.size := by omega
              have hpi : (m : Int) < (s.size : Int) := by omega
              have hsp := H3.out.2.2.1 m (by omega) (by omega)
              rw [at_lt hps] at hsp
              have HT : Hid (∀ W, Calls Try.prog 7 #[.int .u8 (s[m].toNat : Int)] W fun e w' => e = .returned (.bool true) ∧ w' = W) := by
                intro W
                have := isTok_any (s[m].toNat : Int) W
                rw [hsp] at this
                exact this
              clear hsp
              have hki : (k : Int) < (m : Int) + 1 := by omega
              go_wp2_with (go_at_call 7; refine (HT.out _).mono ?_; rintro e' w' ⟨rfl, rfl⟩)
              go_roundg (gk - 1)
              case measure => have := HP.out; omega
              case rel => exact ⟨m, by have := HP.out; omega, by omega, by go_num, rfl⟩
            · obtain rfl : p = j3 := by have := HP.out; omega
              by_cases hsz : p = k
              · have hn : decide (k < p) = false := by simp; omega
                go_wp2_with fail
                go_meet
                case rel => exact ⟨rfl, rfl⟩
              · have hsp : tokB (at_ s (p - 1)) = false := by
                  rcases H3.out.2.2.2 with h | h
                  · omega
                  · exact h
                obtain ⟨m, rfl⟩ : ∃ m, p = m + 1 := ⟨p - 1, by omega⟩
                have hps : m < s.size := by omega
                have hpi : (m : Int) < (s.size : Int) := by omega
                rw [Nat.add_sub_cancel, at_lt hps] at hsp
                have HT : Hid (∀ W, Calls Try.prog 7 #[.int .u8 (s[m].toNat : Int)] W fun e w' => e = .returned (.bool false) ∧ w' = W) := by
                  intro W
                  have := isTok_any (s[m].toNat : Int) W
                  rw [hsp] at this
                  exact this
                clear hsp
                have hki : (k : Int) < (m : Int) + 1 := by omega
                go_wp2_with (go_at_call 7; refine (HT.out _).mono ?_; rintro e' w' ⟨rfl, rfl⟩)
                go_meet
                case rel => exact ⟨rfl, rfl⟩
        case rest =>
          obtain ⟨rfl, rfl⟩ := hcut
          go_upto_block 8 with fail
          go_cut [6] from 83 to 94 (fun v wc' => v = .int .i64 (j4 : Int) ∧ wc' = wc)
          case first =>
            go_wp2_with fail
            go_loopg [6] (j3 - j4) (fun g v wr => ∃ p : Nat, p = j4 + g ∧ p ≤ j3 ∧ v = .int .i64 (p : Int) ∧ wr = wc)
            case atStart => exact ⟨j3, by omega, Nat.le_refl _, rfl, rfl⟩
            case round =>
              obtain ⟨p, hp, hkp, rfl, rfl⟩ := hrel
              have HP : Hid (p = j4 + gk) := hp
              clear hp
              by_cases hlt2 : j4 < p
              · obtain ⟨m, rfl⟩ : ∃ m, p = m + 1 := ⟨p - 1, by omega⟩
                have hps : m < s.size := by omega
                have hpi : (m : Int) < (s.size : Int) := by omega
                have hsp := H4.out.2.2.1 m (by omega) (by omega)
                rw [at_lt hps] at hsp
                have HT : Hid (∀ W, Calls Try.prog 6 #[.int .u8 (s[m].toNat : Int)] W fun e w' => e = .returned (.bool true) ∧ w' = W) := by
                  intro W
                  have := isSp_any (s[m].toNat : Int) W
                  rw [hsp] at this
                  exact this
                clear hsp
                have hki : (k : Int) < (m : Int) + 1 := by omega
                go_wp2_with (go_at_call 6; refine (HT.out _).mono ?_; rintro e' w' ⟨rfl, rfl⟩)
                go_roundg (gk - 1)
                case measure => have := HP.out; omega
                case rel => exact ⟨m, by have := HP.out; omega, by omega, by go_num, rfl⟩
              · obtain rfl : p = j4 := by have := HP.out; omega
                by_cases hsz : p = k
                · have hn : decide (k < p) = false := by simp; omega
                  go_wp2_with fail
                  go_meet
                  case rel => exact ⟨rfl, rfl⟩
                · have hsp : spB (at_ s (p - 1)) = false := by
                    rcases H4.out.2.2.2 with h | h
                    · omega
                    · exact h
                  obtain ⟨m, rfl⟩ : ∃ m, p = m + 1 := ⟨p - 1, by omega⟩
                  have hps : m < s.size := by omega
                  have hpi : (m : Int) < (s.size : Int) := by omega
                  rw [Nat.add_sub_cancel, at_lt hps] at hsp
                  have HT : Hid (∀ W, Calls Try.prog 6 #[.int .u8 (s[m].toNat : Int)] W fun e w' => e = .returned (.bool false) ∧ w' = W) := by
                    intro W
                    have := isSp_any (s[m].toNat : Int) W
                    rw [hsp] at this
                    exact this
                  clear hsp
                  have hki : (k : Int) < (m : Int) + 1 := by omega
                  go_wp2_with (go_at_call 6; refine (HT.out _).mono ?_; rintro e' w' ⟨rfl, rfl⟩)
                  go_meet
                  case rel => exact ⟨rfl, rfl⟩
          case rest =>
            obtain ⟨rfl, rfl⟩ := hcut
            by_cases q1 : j3 < j2
            · have d1 : decide (j3 < j2) = true := by simp [q1]
              by_cases q2 : j4 = k
              · have d2 : ((j4 : Int) == (k : Int)) = true := by simp [q2]
                by_cases q3 : j4 < j3
                · have d3 : decide (j4 < j3) = true := by simp [q3]
                  have HH : Hid (Calls Try.prog 8 #[.string s, .int .i64 (k : Int)] wc fun x w' => x = .returned (.tuple #[.bool true, .int .i64 (e : Int)]) ∧ Grown wc w') := HY.out ⟨q1, q2, q3⟩
                  clear q2
                  clear HY HN
                  go_wp2_with fail
                  refine HH.out.mono ?_
                  rintro x w1 ⟨rfl, hg⟩
                  go_wp2
                  go_ret
                  exact ⟨rfl, hg⟩
                · have d3 : decide (j4 < j3) = false := by simp; omega
                  have HH : Hid (Calls Try.prog 8 #[.string s, .int .i64 (k : Int)] wc fun x w' => x = .returned (.tuple #[.bool false, .int .i64 (k : Int)]) ∧ Grown wc w') := HN.out (fun x => q3 x.2.2)
                  clear q2
                  clear HY HN
                  go_wp2_with fail
                  refine HH.out.mono ?_
                  rintro x w1 ⟨rfl, hg⟩
                  go_wp2
                  go_ret
                  exact ⟨rfl, hg⟩
              · have d2 : ((j4 : Int) == (k : Int)) = false := by simp; omega
                have HH : Hid (Calls Try.prog 8 #[.string s, .int .i64 (k : Int)] wc fun x w' => x = .returned (.tuple #[.bool false, .int .i64 (k : Int)]) ∧ Grown wc w') := HN.out (fun x => q2 x.2.1)
                clear HY HN
                go_wp2_with fail
                refine HH.out.mono ?_
                rintro x w1 ⟨rfl, hg⟩
                go_wp2
                go_ret
                exact ⟨rfl, hg⟩
            · have d1 : decide (j3 < j2) = false := by simp; omega
              have HH : Hid (Calls Try.prog 8 #[.string s, .int .i64 (k : Int)] wc fun x w' => x = .returned (.tuple #[.bool false, .int .i64 (k : Int)]) ∧ Grown wc w') := HN.out (fun x => q1 x.1)
              clear HY HN
              go_wp2_with fail
              refine HH.out.mono ?_
              rintro x w1 ⟨rfl, hg⟩
              go_wp2
              go_ret
              exact ⟨rfl, hg⟩
end Go.Proofs.Qxb6600049a
