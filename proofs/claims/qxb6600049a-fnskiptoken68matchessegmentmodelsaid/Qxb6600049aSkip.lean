import Derived.Test.Qxb6600049aSpaces
import Derived.Deep.CutBlock
namespace Go.Proofs.Qxb6600049a
open Go.RowKit
set_option linter.unusedVariables false

/-- 10: skipToken68 where no blank stands. -/
theorem skip_none (b : Nat) (s : ByteArray) (k : Nat) (w : World) (hs : s.size ≤ maxLen) (hw : Rd w b s k) (k1 : Up (at_ s) spB s.size k k) :
    Calls Try.prog 10 #[.pointer (some ⟨b, 0, none⟩)] w fun e w' => e = .returned (.bool false) ∧ Rd w' b s k ∧ Kp b w w' := by
  have hw' := hw
  obtain ⟨h0, h1, hf⟩ := hw
  have hd : decide (k < k) = false := by simp
  have H := skipSp_any b s k k w hs hw' k1
  rw [hd] at H
  have HH : Hid (Calls Try.prog 11 #[.pointer (some ⟨b, 0, none⟩)] w fun e w' => e = .returned (.bool false) ∧ Rd w' b s k ∧ Kp b w w') := H
  clear H hd
  go_enter Try.func10, Try.ntmps10
  go_wp2_with fail
  refine HH.out.mono ?_
  rintro e w' ⟨rfl, hr, hk⟩
  go_wp2
  go_ret
  exact ⟨rfl, hr, hk⟩

set_option maxHeartbeats 1000000 in
/-- 10: skipToken68 where a blank stands. -/
theorem skip_some (b : Nat) (s : ByteArray) (k r1 r2 r3 r4 : Nat) (w : World) (hs : s.size ≤ maxLen) (hw : Rd w b s k)
    (hlt : k < r1) (k1 : Up (at_ s) spB s.size k r1) (k2 : Up (at_ s) tokB s.size r1 r2) (k3 : Up (at_ s) eqB s.size r2 r3) (k4 : Up (at_ s) spB s.size r3 r4)
    (pb : Bool) (q : Nat) (hq : (pb = true ∧ q = r4 ∧ r1 < r2 ∧ (r4 = s.size ∨ at_ s r4 = 44)) ∨ (pb = false ∧ q = k ∧ ¬ (r1 < r2 ∧ (r4 = s.size ∨ at_ s r4 = 44)))) :
    Calls Try.prog 10 #[.pointer (some ⟨b, 0, none⟩)] w fun e w' => e = .returned (.bool pb) ∧ Rd w' b s q ∧ Kp b w w' := by
  have HQ : Hid ((pb = true ∧ q = r4 ∧ r1 < r2 ∧ (r4 = s.size ∨ at_ s r4 = 44)) ∨ (pb = false ∧ q = k ∧ ¬ (r1 < r2 ∧ (r4 = s.size ∨ at_ s r4 = 44)))) := hq
  clear hq
  have hs' := hs
  unfold maxLen at hs'
  have hw' := hw
  obtain ⟨h0, h1, hf⟩ := hw
  have hd : decide (k < r1) = true := by simp [hlt]
  have H := skipSp_any b s k r1 w hs hw' k1
  rw [hd] at H
  have HH : Hid (Calls Try.prog 11 #[.pointer (some ⟨b, 0, none⟩)] w fun e w' => e = .returned (.bool true) ∧ Rd w' b s r1 ∧ Kp b w w') := H
  clear H hd
  have K2 : Hid (Up (at_ s) tokB s.size r1 r2) := k2
  have K3 : Hid (Up (at_ s) eqB s.size r2 r3) := k3
  have K4 : Hid (Up (at_ s) spB s.size r3 r4) := k4
  obtain ⟨a1, a2, -, -⟩ := k1
  obtain ⟨b1, b2, -, -⟩ := k2
  obtain ⟨c1, c2, -, -⟩ := k3
  obtain ⟨d1, d2, -, -⟩ := k4
  go_enter Try.func10, Try.ntmps10
  go_wp2_with fail
  refine HH.out.mono ?_
  rintro e w1 ⟨rfl, hr1, hk1⟩
  obtain ⟨e0, e1, ef⟩ := hr1
  go_upto_block 0 with fail
  go_cut [] from 17 to 38 (fun wc => Rd wc b s r2 ∧ Kp b w wc)
  case first =>
    go_wp2
    go_loopg [] (r2 - r1) (fun g wr => ∃ p : Nat, p + g = r2 ∧ r1 ≤ p ∧ Rd wr b s p ∧ Kp b w wr)
    case atStart => exact ⟨r1, by omega, Nat.le_refl _, ⟨e0, e1, ef⟩, hk1⟩
    case round =>
      obtain ⟨p, hp, hkp, hrd, hkeep⟩ := hrel
      have HP : Hid (p + gk = r2) := hp
      clear hp
      obtain ⟨c0, c1', cf⟩ := hrd
      by_cases hlt2 : p < r2
      · have hps : p < s.size := by omega
        have hpi : (p : Int) < (s.size : Int) := by omega
        have hsp := K2.out.2.2.1 p hkp hlt2
        rw [at_lt hps] at hsp
        have e1 : tokB (s[p].toNat : Int) = true := hsp
        clear hsp
        have hb0 : (0 : Int) ≤ (s[p].toNat : Int) := by omega
        have hb1 : (s[p].toNat : Int) < 256 := by have := s[p].toNat_lt; omega
        have HT : ∀ n, Hid (Calls Try.prog 13 #[.int .u8 (s[p].toNat : Int)] (wr.drewN n) fun e w' => e = .returned (.bool true) ∧ w' = wr.drewN n) := by
          intro n
          have := isTokC_any (s[p].toNat : Int) hb0 hb1 (wr.drewN n)
          rw [e1] at this
          exact this
        clear e1
        go_wp2
        go_quiet ((first | (go_at_call 12; refine Calls.quiet_of (done_f b s p _ (by exact c0) (by exact c1') hps)) | (go_at_call 13; refine Calls.quiet_of_same (HT _).out)))
        go_wp2
        go_roundg (gk - 1)
        case measure => have := HP.out; omega
        case rel => exact ⟨p + 1, by have := HP.out; omega, by omega, Rd.set ⟨c0, c1', cf⟩ nq _ _ (by omega), hkeep.step _ _⟩
      · obtain rfl : p = r2 := by have := HP.out; omega
        by_cases hsz : p = s.size
        · go_wp2
          go_quiet ((go_at_call 12; refine Calls.quiet_of (done_t b s p _ (by exact c0) (by exact c1') hsz)))
          go_wp2
          go_meet
          case rel => exact ⟨Rd.drewN ⟨c0, c1', cf⟩ _, hkeep.trans (Kp.drewN _ _ _)⟩
        · have hps : p < s.size := by omega
          have hpi : (p : Int) < (s.size : Int) := by omega
          have e1 : tokB (at_ s p) = false := by
            rcases K2.out.2.2.2 with h | h
            · omega
            · exact h
          rw [at_lt hps] at e1
          have hb0 : (0 : Int) ≤ (s[p].toNat : Int) := by omega
          have hb1 : (s[p].toNat : Int) < 256 := by have := s[p].toNat_lt; omega
          have HT : ∀ n, Hid (Calls Try.prog 13 #[.int .u8 (s[p].toNat : Int)] (wr.drewN n) fun e w' => e = .returned (.bool false) ∧ w' = wr.drewN n) := by
            intro n
            have := isTokC_any (s[p].toNat : Int) hb0 hb1 (wr.drewN n)
            rw [e1] at this
            exact this
          clear e1
          go_wp2
          go_quiet ((first | (go_at_call 12; refine Calls.quiet_of (done_f b s p _ (by exact c0) (by exact c1') hps)) | (go_at_call 13; refine Calls.quiet_of_same (HT _).out)))
          go_wp2
          go_meet
          case rel => exact ⟨Rd.drewN ⟨c0, c1', cf⟩ _, hkeep.trans (Kp.drewN _ _ _)⟩
  case rest =>
    obtain ⟨hr2, hk2⟩ := hcut
    obtain ⟨f0, f1, ff⟩ := hr2
    go_upto_block 2 with fail
    go_cut [] from 45 to 66 (fun wc => Rd wc b s r3 ∧ Kp b w wc)
    case first =>
      go_wp2
      go_loopg [] (r3 - r2) (fun g wr => ∃ p : Nat, p + g = r3 ∧ r2 ≤ p ∧ Rd wr b s p ∧ Kp b w wr)
      case atStart => exact ⟨r2, by omega, Nat.le_refl _, ⟨f0, f1, ff⟩, hk2⟩
      case round =>
        obtain ⟨p, hp, hkp, hrd, hkeep⟩ := hrel
        have HP : Hid (p + gk = r3) := hp
        clear hp
        obtain ⟨c0, c1', cf⟩ := hrd
        by_cases hlt2 : p < r3
        · have hps : p < s.size := by omega
          have hpi : (p : Int) < (s.size : Int) := by omega
          have hsp := K3.out.2.2.1 p hkp hlt2
          rw [at_lt hps] at hsp
          have e1 : ((s[p].toNat : Int) == 61) = true := hsp
          clear hsp
          go_wp2
          go_quiet ((go_at_call 12; refine Calls.quiet_of (done_f b s p _ (by exact c0) (by exact c1') hps)))
          go_wp2
          go_roundg (gk - 1)
          case measure => have := HP.out; omega
          case rel => exact ⟨p + 1, by have := HP.out; omega, by omega, Rd.set ⟨c0, c1', cf⟩ nq _ _ (by omega), hkeep.step _ _⟩
        · obtain rfl : p = r3 := by have := HP.out; omega
          by_cases hsz : p = s.size
          · go_wp2
            go_quiet ((go_at_call 12; refine Calls.quiet_of (done_t b s p _ (by exact c0) (by exact c1') hsz)))
            go_wp2
            go_meet
            case rel => exact ⟨Rd.drewN ⟨c0, c1', cf⟩ _, hkeep.trans (Kp.drewN _ _ _)⟩
          · have hps : p < s.size := by omega
            have hpi : (p : Int) < (s.size : Int) := by omega
            have e1 : eqB (at_ s p) = false := by
              rcases K3.out.2.2.2 with h | h
              · omega
              · exact h
            rw [at_lt hps] at e1
            have e2 : ((s[p].toNat : Int) == 61) = false := e1
            clear e1
            go_wp2
            go_quiet ((go_at_call 12; refine Calls.quiet_of (done_f b s p _ (by exact c0) (by exact c1') hps)))
            go_wp2
            go_meet
            case rel => exact ⟨Rd.drewN ⟨c0, c1', cf⟩ _, hkeep.trans (Kp.drewN _ _ _)⟩
    case rest =>
      obtain ⟨hr3, hk3⟩ := hcut
      go_wp2_with fail
      refine (skipSp_any b s r3 r4 _ hs hr3 K4.out).mono ?_
      rintro e w4 ⟨rfl, hr4, hk4⟩
      have hk5 := hk3.trans hk4
      have hr4' := hr4
      obtain ⟨g0, g1, gf⟩ := hr4
      by_cases hpass : r1 < r2
      · have hd : decide (r1 < r2) = true := by simp [hpass]
        by_cases hsz : r4 = s.size
        · go_wp2
          go_quiet ((go_at_call 12; refine Calls.quiet_of (done_t b s r4 _ (by exact g0) (by exact g1) hsz)))
          go_wp2
          go_ret
          obtain ⟨hb1, hb2⟩ : pb = true ∧ q = r4 := by
            rcases HQ.out with h | h
            · exact ⟨h.1, h.2.1⟩
            · exact absurd ⟨hpass, Or.inl hsz⟩ h.2.2
          rw [hb1, hb2]
          exact ⟨rfl, hr4'.drewN _, hk5.trans (Kp.drewN _ _ _)⟩
        · have hps : r4 < s.size := by omega
          have hpi : (r4 : Int) < (s.size : Int) := by omega
          by_cases h44 : (s[r4].toNat : Int) = 44
          · have e1' : ((s[r4].toNat : Int) == 44) = true := by simp only [beq_iff_eq]; exact h44
            have H44 : Hid ((s[r4].toNat : Int) = 44) := h44
            clear h44
            go_wp2
            go_quiet ((go_at_call 12; refine Calls.quiet_of (done_f b s r4 _ (by exact g0) (by exact g1) hps)))
            go_wp2
            go_ret
            obtain ⟨hb1, hb2⟩ : pb = true ∧ q = r4 := by
              rcases HQ.out with h | h
              · exact ⟨h.1, h.2.1⟩
              · exact absurd ⟨hpass, Or.inr ((at_lt hps).trans H44.out)⟩ h.2.2
            rw [hb1, hb2]
            exact ⟨rfl, hr4'.drewN _, hk5.trans (Kp.drewN _ _ _)⟩
          · have e1' : ((s[r4].toNat : Int) == 44) = false := by simp only [beq_eq_false_iff_ne]; exact h44
            have H44 : Hid (¬ (s[r4].toNat : Int) = 44) := h44
            clear h44
            go_wp2
            go_quiet ((go_at_call 12; refine Calls.quiet_of (done_f b s r4 _ (by exact g0) (by exact g1) hps)))
            go_wp2
            go_ret
            obtain ⟨hb1, hb2⟩ : pb = false ∧ q = k := by
              rcases HQ.out with h | h
              · rcases h.2.2.2 with h' | h'
                · exact absurd h' hsz
                · exact absurd ((at_lt hps).symm.trans h') H44.out
              · exact ⟨h.1, h.2.1⟩
            rw [hb1, hb2]
            exact ⟨rfl, hr4'.set _ _ _ rfl, hk5.step _ _⟩
      · have hd : decide (r1 < r2) = false := by simp [hpass]
        go_wp2
        go_quiet (fail)
        go_wp2
        go_ret
        obtain ⟨hb1, hb2⟩ : pb = false ∧ q = k := by
          rcases HQ.out with h | h
          · exact absurd h.2.2.1 hpass
          · exact ⟨h.1, h.2.1⟩
        rw [hb1, hb2]
        exact ⟨rfl, hr4'.set _ _ _ rfl, hk5.step _ _⟩

/-- 10: skipToken68, whole. -/
theorem skip_any (b : Nat) (s : ByteArray) (k r1 r2 r3 r4 : Nat) (w : World) (hs : s.size ≤ maxLen) (hw : Rd w b s k)
    (k1 : Up (at_ s) spB s.size k r1) (k2 : Up (at_ s) tokB s.size r1 r2) (k3 : Up (at_ s) eqB s.size r2 r3) (k4 : Up (at_ s) spB s.size r3 r4)
    (pb : Bool) (q : Nat) (hq : (pb = true ∧ q = r4 ∧ k < r1 ∧ r1 < r2 ∧ (r4 = s.size ∨ at_ s r4 = 44)) ∨ (pb = false ∧ q = k ∧ ¬ (k < r1 ∧ r1 < r2 ∧ (r4 = s.size ∨ at_ s r4 = 44)))) :
    Calls Try.prog 10 #[.pointer (some ⟨b, 0, none⟩)] w fun e w' => e = .returned (.bool pb) ∧ Rd w' b s q ∧ Kp b w w' := by
  by_cases h : k < r1
  · refine skip_some b s k r1 r2 r3 r4 w hs hw h k1 k2 k3 k4 pb q ?_
    rcases hq with ⟨x1, x2, x3, x4⟩ | ⟨x1, x2, x3⟩
    · exact Or.inl ⟨x1, x2, x4⟩
    · exact Or.inr ⟨x1, x2, fun y => x3 ⟨h, y⟩⟩
  · have e : r1 = k := by have := k1.1; omega
    subst e
    have h2 : pb = false ∧ q = r1 := by
      rcases hq with ⟨x1, x2, x3, x4⟩ | ⟨x1, x2, x3⟩
      · exact absurd x3 h
      · exact ⟨x1, x2⟩
    rw [h2.1, h2.2]
    exact skip_none b s r1 w hs hw k1

end Go.Proofs.Qxb6600049a
