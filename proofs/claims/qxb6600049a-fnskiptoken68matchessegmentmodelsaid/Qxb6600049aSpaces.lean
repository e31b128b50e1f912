import Derived.Test.Qxb6600049aLeaf2
import Derived.Deep.LoopGhost
namespace Go.Proofs.Qxb6600049a
open Go.RowKit
set_option linter.unusedVariables false

/-- A reader at block b: its text s, its place k. -/
def Rd (w : World) (b : Nat) (s : ByteArray) (k : Nat) : Prop :=
  w.cell? ⟨b, 0, none⟩ = some (.string s) ∧ w.cell? ⟨b, 1, none⟩ = some (.int .i64 (k : Int)) ∧ w.frozen? ⟨b, 1, none⟩ = false
/-- Whatever had at most grown up to w, b being new to it, has at most grown up to w'. -/
def Kp (b : Nat) (w w' : World) : Prop := ∀ W : World, Grown W w → W.heap.size ≤ b → Grown W w'
theorem Kp.refl (b : Nat) (w : World) : Kp b w w := fun _ h _ => h
theorem Kp.trans {b : Nat} {u v w : World} (h : Kp b u v) (k : Kp b v w) : Kp b u w := fun W g hb => k W (h W g hb) hb
theorem Kp.drewN (b : Nat) (w : World) (n : Nat) : Kp b w (w.drewN n) := fun _ h _ => h
theorem Kp.set (b o : Nat) (w : World) (v : Value) : Kp b w (w.setCell ⟨b, o, none⟩ v) := fun _ h hb => h.setCell hb v

theorem Rd.set {w : World} {b : Nat} {s : ByteArray} {k : Nat} (h : Rd w b s k) (n : Nat) (v : Int) (j : Nat) (e : v = (j : Int)) : Rd ((w.drewN n).setCell ⟨b, 1, none⟩ (.int .i64 v)) b s j := by
  obtain ⟨h0, h1, hf⟩ := h
  refine ⟨?_, ?_, ?_⟩
  · rw [World.cell?_setCell_other (h := by simp)]; exact h0
  · rw [World.cell?_setCell_same (u := .int .i64 (k : Int)) (h := by exact h1), e]
  · rw [World.frozen?_setCell]; exact hf
theorem Rd.drewN {w : World} {b : Nat} {s : ByteArray} {k : Nat} (h : Rd w b s k) (n : Nat) : Rd (w.drewN n) b s k := h
theorem Kp.step {b : Nat} {u w : World} (h : Kp b u w) (n : Nat) (v : Value) : Kp b u ((w.drewN n).setCell ⟨b, 1, none⟩ v) := (h.trans (Kp.drewN b w n)).trans (Kp.set b 1 _ v)

theorem decd {p q : Prop} [Decidable p] [Decidable q] (h : p ↔ q) : decide p = decide q := by simp [h]
theorem done_f (b : Nat) (s : ByteArray) (k : Nat) (w : World) (h0 : w.cell? ⟨b, 0, none⟩ = some (.string s)) (h1 : w.cell? ⟨b, 1, none⟩ = some (.int .i64 (k : Int))) (hk : k < s.size) :
    Calls Try.prog 12 #[.pointer (some ⟨b, 0, none⟩)] w fun e w' => e = .returned (.bool false) ∧ ∃ n, w' = w.drewN n := by
  have e : ((k : Int) == (s.size : Int)) = false := by simp; omega
  have := done_any b s k w h0 h1
  rw [e] at this
  exact this
theorem done_t (b : Nat) (s : ByteArray) (k : Nat) (w : World) (h0 : w.cell? ⟨b, 0, none⟩ = some (.string s)) (h1 : w.cell? ⟨b, 1, none⟩ = some (.int .i64 (k : Int))) (hk : k = s.size) :
    Calls Try.prog 12 #[.pointer (some ⟨b, 0, none⟩)] w fun e w' => e = .returned (.bool true) ∧ ∃ n, w' = w.drewN n := by
  have e : ((k : Int) == (s.size : Int)) = true := by simp; omega
  have := done_any b s k w h0 h1
  rw [e] at this
  exact this

set_option maxHeartbeats 1000000 in
/-- 11: skipSpaces. -/
theorem skipSp_any (b : Nat) (s : ByteArray) (k r : Nat) (w : World) (hs : s.size ≤ maxLen) (hw : Rd w b s k) (hup : Up (at_ s) spB s.size k r) :
    Calls Try.prog 11 #[.pointer (some ⟨b, 0, none⟩)] w fun e w' => e = .returned (.bool (decide (k < r))) ∧ Rd w' b s r ∧ Kp b w w' := by
  unfold maxLen at hs
  obtain ⟨h0, h1, hf⟩ := hw
  obtain ⟨u1, u2, u3, u4⟩ := hup
  go_enter Try.func11, Try.ntmps11
  go_wp2
  go_loopg [] (r - k) (fun g wr => ∃ p : Nat, p + g = r ∧ k ≤ p ∧ Rd wr b s p ∧ Kp b w wr)
  case atStart => exact ⟨k, by omega, Nat.le_refl _, ⟨h0, h1, hf⟩, Kp.refl _ _⟩
  case round =>
    obtain ⟨p, hp, hkp, hrd, hkeep⟩ := hrel
    have HP : Hid (p + gk = r) := hp
    have HU : Hid (∀ (m : Nat), k ≤ m → m < r → spB (at_ s m) = true) := u3
    have HE : Hid (r = s.size ∨ spB (at_ s r) = false) := u4
    obtain ⟨c0, c1, cf⟩ := hrd
    by_cases hlt : p < r
    · have hps : p < s.size := by omega
      have hpi : (p : Int) < (s.size : Int) := by omega
      have hsp := u3 p hkp hlt
      rw [at_lt hps] at hsp
      simp only [spB, decide_eq_true_eq] at hsp
      clear hp u3 u4
      rcases hsp with hsp | hsp
      · have e1 : ((s[p].toNat : Int) == 32) = true := by simp; omega
        clear hsp
        go_wp2
        go_quiet ((go_at_call 12; refine Calls.quiet_of (done_f b s p _ (by exact c0) (by exact c1) hps)))
        go_wp2
        go_roundg (gk - 1)
        case measure => have := HP.out; omega
        case rel => exact ⟨p + 1, by have := HP.out; omega, by omega, Rd.set ⟨c0, c1, cf⟩ nq _ _ (by omega), hkeep.step _ _⟩
      · have e1 : ((s[p].toNat : Int) == 32) = false := by simp; omega
        have e2 : ((s[p].toNat : Int) == 9) = true := by simp; omega
        clear hsp
        go_wp2
        go_quiet ((go_at_call 12; refine Calls.quiet_of (done_f b s p _ (by exact c0) (by exact c1) hps)))
        go_wp2
        go_roundg (gk - 1)
        case measure => have := HP.out; omega
        case rel => exact ⟨p + 1, by have := HP.out; omega, by omega, Rd.set ⟨c0, c1, cf⟩ nq _ _ (by omega), hkeep.step _ _⟩
    · obtain rfl : p = r := by omega
      clear hp u3 u4
      by_cases hsz : p = s.size
      · go_wp2
        go_quiet ((go_at_call 12; refine Calls.quiet_of (done_t b s p _ (by exact c0) (by exact c1) hsz)))
        go_wp2
        go_ret
        exact ⟨ret_bool (decd (by omega)), Rd.drewN ⟨c0, c1, cf⟩ _, hkeep.trans (Kp.drewN _ _ _)⟩
      · have hps : p < s.size := by omega
        have hpi : (p : Int) < (s.size : Int) := by omega
        have hsp : spB (at_ s p) = false := by
          rcases HE.out with h | h
          · omega
          · exact h
        rw [at_lt hps] at hsp
        simp only [spB, decide_eq_false_iff_not] at hsp
        have e1 : ((s[p].toNat : Int) == 32) = false := by simp; omega
        have e2 : ((s[p].toNat : Int) == 9) = false := by simp; omega
        clear hsp
        go_wp2
        go_quiet ((go_at_call 12; refine Calls.quiet_of (done_f b s p _ (by exact c0) (by exact c1) hps)))
        go_wp2
        go_ret
        exact ⟨ret_bool (decd (by omega)), Rd.drewN ⟨c0, c1, cf⟩ _, hkeep.trans (Kp.drewN _ _ _)⟩
end Go.Proofs.Qxb6600049a
