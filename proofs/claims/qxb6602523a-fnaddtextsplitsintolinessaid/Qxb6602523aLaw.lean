import Derived.Test.Qxb6602523aRead
namespace Go.Proofs.Qxb6602523a
open Go.RowKit
set_option linter.unusedVariables false

/-- What is left of the nodes from place i on, at offset off of the text. -/
def Left (S : ByteArray) (a0 : Bool) (L : List (Int × ByteArray)) (i off : Nat) (mk : Bool) : Prop :=
  (mk = false ∧ ∃ es, L.drop i = nodes S a0 off es ∧ Path S off es S.size) ∨
  (mk = true ∧ starts S a0 off = true ∧ ∃ e es, L.drop i = (0, S.extract off e) :: nodes S a0 e es ∧ Seg S off e ∧ Path S e es S.size)

theorem PS.drew {w : World} {B P F d : Nat} {a : Bool} {ao : Option Addr} {c : Nat} {L : List (Int × ByteArray)} (h : PS w B P F d a ao c L) : PS w.drew B P F d a ao c L :=
  ⟨h.flag, h.ffree, h.frames, h.outer, h.inner, h.ifree, h.owns.drew, h.pos, h.hFP, h.hPB, h.hB⟩
theorem drop_head {α : Type} {L : List α} {i : Nat} {x : α} {l : List α} (h : L.drop i = x :: l) : L[i]? = some x ∧ L.drop (i + 1) = l := by
  refine ⟨?_, ?_⟩
  · have := congrArg (fun l => l[0]?) h
    simpa using this
  · rw [← List.drop_drop, h]
    rfl
theorem nodes_nil {S : ByteArray} {a0 : Bool} {o : Nat} {es : List Nat} (h : nodes S a0 o es = []) : es = [] := by
  cases es with
  | nil => rfl
  | cons e es => simp [nodes, seg] at h

/-- Place n: nothing is left, all of the text has been spelt. -/
theorem left_end {S : ByteArray} {a0 : Bool} {L : List (Int × ByteArray)} {off : Nat} {mk : Bool} (h : Left S a0 L L.length off mk) : off = S.size := by
  rcases h with ⟨_, es, h1, h2⟩ | ⟨_, _, e, es, h1, _⟩
  · rw [List.drop_length] at h1
    have := nodes_nil h1.symm
    subst this
    exact h2
  · rw [List.drop_length] at h1
    cases h1
/-- Place i < n: a mark and its text behind it, or a text. -/
theorem left_step {S : ByteArray} {a0 : Bool} {L : List (Int × ByteArray)} {i off : Nat} {mk : Bool} (hi : i < L.length) (h : Left S a0 L i off mk) :
    (mk = false ∧ L[i]? = some (1, ⟨#[]⟩) ∧ i + 1 < L.length ∧ Left S a0 L (i + 1) off true) ∨
    (∃ e, starts S a0 off = mk ∧ L[i]? = some (0, S.extract off e) ∧ Seg S off e ∧ Left S a0 L (i + 1) e false) := by
  rcases h with ⟨rfl, es, h1, h2⟩ | ⟨rfl, h0, e, es, h1, h2, h3⟩
  · cases es with
    | nil =>
      have := congrArg List.length h1
      simp [nodes] at this
      omega
    | cons e es =>
      obtain ⟨h3, h4⟩ := h2
      cases hst : starts S a0 off with
      | true =>
        rw [nodes, seg, hst] at h1
        obtain ⟨h5, h6⟩ := drop_head h1
        refine Or.inl ⟨rfl, h5, ?_, Or.inr ⟨rfl, hst, e, es, h6, h3, h4⟩⟩
        have := congrArg List.length h6
        simp at this
        omega
      | false =>
        rw [nodes, seg, hst] at h1
        obtain ⟨h5, h6⟩ := drop_head h1
        exact Or.inr ⟨e, rfl, h5, h3, Or.inl ⟨rfl, es, h6, h4⟩⟩
  · obtain ⟨h5, h6⟩ := drop_head h1
    exact Or.inr ⟨e, h0, h5, h2, Or.inl ⟨rfl, es, h6, h3⟩⟩

set_option maxRecDepth 100000 in
set_option maxHeartbeats 4000000 in
theorem law_main (a0 : Bool) (m : Nat) (S : ByteArray) (w : World) (hS : S.size ≤ 1048576) (hm : m < 64) :
    Calls Try.prog 3 #[.bool a0, .int .i64 ((m : Int) + 1), .string S] w fun e w' => e = .returned (.bool true) ∧ Below w.heap.size w w' := by
  have d1 : decide ((m : Int) + 1 < 1) = false := decide_eq_false (by omega)
  have d2 : decide (64 < (m : Int) + 1) = false := decide_eq_false (by omega)
  have d3 : decide (1048576 < (S.size : Int)) = false := decide_eq_false (by omega)
  have HN : Hid (Calls Try.prog 7 #[.bool a0, .int .i64 ((m : Int) + 1)] w fun e w' => ∃ P F B, e = .returned (.pointer (some ⟨P, 0, none⟩)) ∧ Below w.heap.size w w' ∧ w.heap.size ≤ F ∧ PS w' B P F (m + 1) a0 none 0 []) := new_any a0 (m + 1) w (by omega) (by omega)
  go_enter Try.func3, Try.ntmps3
  go_wp2_with (first
    | (go_at_call 6; refine (zzb_ok _ _ _ _ hS).mono ?_; rintro e' w' ⟨rfl, rfl⟩)
    | (go_at_call 7; refine HN.out.mono ?_; rintro e' w1 ⟨P, F, B, rfl, hb1, hF1, hp1⟩))
  clear HN
  refine (zzadd_any S B P F (m + 1) a0 w1 hp1 hS (by omega)).mono ?_
  rintro e' w2 ⟨rfl, hb2, cuts, ao, c, hpath, hps, hlen⟩
  have HB2 : Hid (Below w.heap.size w w2) := hb1.trans (hb2.mono hF1)
  have HLeft : Hid (Left S a0 (nodes S a0 0 cuts) 0 0 false) := Or.inl ⟨rfl, cuts, by simp, hpath⟩
  obtain ⟨L, hL⟩ : ∃ L, L = nodes S a0 0 cuts := ⟨_, rfl⟩
  rw [← hL] at HLeft hps hlen
  have HPS : Hid (PS w2 B P F (m + 1) (starts S a0 S.size) ao c L) := hps
  clear hL hps hb1 hb2 hp1 hpath
  go_upto_block 0 with fail
  go_cut [9] from 44 to 52 (fun v9 wc => wc = w2)
  case first =>
    go_wp2_with fail
    go_loopg [9] m (fun g v9 wr => ∃ f : Nat, f + g = m ∧ v9 = .int .i64 (f : Int) ∧ wr = w2)
    case atStart => exact ⟨0, by omega, rfl, rfl⟩
    case round =>
      obtain ⟨f, hf, rfl, rfl⟩ := hrel
      have HFm : Hid (f + gk = m) := hf
      clear hf
      by_cases hlt : f < m
      · go_wp2_with (go_at_call 9; refine (len_outer HPS.out f hlt).mono ?_; rintro e' w' ⟨rfl, rfl⟩)
        go_roundg (gk - 1)
        case measure => have := HFm.out; omega
        case rel => exact ⟨f + 1, by have := HFm.out; omega, by go_num, rfl⟩
      · obtain rfl : f = m := by have := HFm.out; omega
        have hn' : decide (f < f) = false := by simp
        go_wp2_with fail
        go_meet
        case rel => rfl
  case rest =>
    obtain rfl := hcut
    go_wp2_with (first
      | (go_at_call 10; refine (kt_any _).mono ?_; rintro e' w' ⟨rfl, hw⟩; obtain rfl := hw.symm)
      | (go_at_call 11; refine (kl_any _).mono ?_; rintro e' w' ⟨rfl, hw⟩; obtain rfl := hw.symm)
      | (go_at_call 9; refine (len_inner HPS.out).mono ?_; rintro e' w' ⟨rfl, rfl⟩))
    go_loopg [13, 14, 15] L.length (fun g v13 v14 v15 wr => ∃ (i off : Nat) (mk : Bool), i + g = L.length ∧ v13 = .int .i64 (off : Int) ∧ v14 = .bool mk ∧ v15 = .int .i64 (i : Int) ∧ off ≤ S.size ∧
      Hid (Left S a0 L i off mk) ∧ Hid (PS wr B P F (m + 1) (starts S a0 S.size) ao c L) ∧ Hid (Below w.heap.size w wr))
    case atStart => exact ⟨0, 0, false, by omega, rfl, rfl, rfl, Nat.zero_le _, HLeft.out, HPS.out, HB2.out⟩
    case round =>
      obtain ⟨i, off, mk, hi, rfl, rfl, rfl, hoff, HL, HPr, HBr⟩ := hrel
      have HI : Hid (i + gk = L.length) := hi
      obtain ⟨gi, hgi⟩ : ∃ gi, gi = gk := ⟨_, rfl⟩
      have HGI : Hid (gi = gk) := hgi
      clear hi HPS HB2 HLeft hgi
      by_cases hlt : i < L.length
      · have hlti : (i : Int) < (L.length : Int) := by omega
        rcases left_step hlt HL.out with ⟨hmk, hn, hi1, hl'⟩ | ⟨e, hst, hn, hseg, hl'⟩
        · subst hmk
          have e1 : decide (L.length ≤ i + 1) = false := decide_eq_false (by omega)
          have HNi : Hid (L[i]? = some (1, ⟨#[]⟩)) := hn
          have HL' : Hid (Left S a0 L (i + 1) off true) := hl'
          clear hn hl' HL
          go_wp2_with (first
            | (go_at_call 12; refine (kind_ps HPr.out HNi.out).mono ?_; rintro e' w' ⟨rfl, rfl⟩)
            | (go_at_call 13; refine (text_ps HPr.out HNi.out).mono ?_; rintro e' w' ⟨rfl, rfl⟩))
          go_roundg (gk - 1)
          case measure => have := HI.out; omega
          case rel => exact ⟨i + 1, off, true, by have := HI.out; omega, rfl, rfl, by go_num, hoff, HL'.out, HPr.out, HBr.out⟩
        · obtain ⟨tt, htt⟩ : ∃ tt, tt = S.extract off e := ⟨_, rfl⟩
          obtain ⟨s1, s2, s3, s4⟩ := hseg
          have hsz : tt.size = e - off := by rw [htt]; simp; omega
          obtain rfl : e = off + tt.size := by omega
          have HTT : Hid (tt = S.extract off (off + tt.size)) := htt
          rw [← htt] at hn
          have HNi : Hid (L[i]? = some (0, tt)) := hn
          have HL' : Hid (Left S a0 L (i + 1) (off + tt.size) false) := hl'
          have HST : Hid (starts S a0 off = mk) := hst
          have H3 : Hid (∀ m, off ≤ m → m + 1 < off + tt.size → ¬ at_ S m = 10) := s3
          have H4 : Hid (off + tt.size = S.size ∨ at_ S (off + tt.size - 1) = 10) := s4
          have hts : 0 < tt.size := by omega
          have htsi : (0 : Int) < (tt.size : Int) := by omega
          have e1 : ((tt.size : Int) == 0) = false := by simp only [beq_eq_false_iff_ne]; omega
          have e2 : decide ((S.size : Int) - (off : Int) < (tt.size : Int)) = false := decide_eq_false (by omega)
          clear hn hl' HL hst s3 s4 htt hsz
          go_wp2_with (first
            | (go_at_call 12; refine (kind_ps HPr.out HNi.out).mono ?_; rintro e' w' ⟨rfl, rfl⟩)
            | (go_at_call 13; refine (text_ps HPr.out HNi.out).mono ?_; rintro e' w' ⟨rfl, rfl⟩))
          go_loopg [18] tt.size (fun g v18 wq => ∃ j : Nat, j + g = tt.size ∧ v18 = .int .i64 (j : Int) ∧ Hid (PS wq B P F (m + 1) (starts S a0 S.size) ao c L) ∧ Hid (Below w.heap.size w wq))
          case atStart => exact ⟨0, by omega, rfl, HPr.out, HBr.out⟩
          case round =>
            obtain ⟨j, hj, rfl, HPq, HBq⟩ := hrel
            have HJ : Hid (j + gk = tt.size) := hj
            clear hj HPr HBr
            by_cases hjt : j < tt.size
            · have hji : (j : Int) < (tt.size : Int) := by omega
              have hoj : (off : Int) + (j : Int) < (S.size : Int) := by omega
              have hoj' : off + j < S.size := by omega
              have hoj0 : (0 : Int) ≤ (off : Int) + (j : Int) := by omega
              have hj0 : (0 : Int) ≤ (j : Int) := by omega
              have htn : ((off : Int) + (j : Int)).toNat = off + j := by omega
              have hat : (S[off + j].toNat : Int) = (tt[j].toNat : Int) := by
                rw [← at_lt hoj', ← at_lt hjt, HTT.out]
                exact (at_ext S off (off + tt.size) j (by omega) (by omega)).symm
              have f1 : ((S[off + j].toNat : Int) != (tt[j].toNat : Int)) = false := by simp only [bne_eq_false_iff_eq]; exact hat
              by_cases h10 : (tt[j].toNat : Int) = 10
              · have f2 : ((tt[j].toNat : Int) == 10) = true := by simp only [beq_iff_eq]; exact h10
                have hlast : ¬ j + 1 < tt.size := by
                  intro hlt'
                  have := H3.out (off + j) (by omega) (by omega)
                  rw [at_lt hoj', hat] at this
                  exact this h10
                have f3 : ((j : Int) != (tt.size : Int) - 1) = false := by simp only [bne_eq_false_iff_eq]; omega
                clear h10 hat
                go_wp2_with fail
                go_region
                go_wp2_with fail
                go_roundg (gk - 1)
                case measure => have := HJ.out; omega
                case rel => exact ⟨j + 1, by have := HJ.out; omega, by go_num, HPq.out.drew, HBq.out.drew⟩
              · have f2 : ((tt[j].toNat : Int) == 10) = false := by simp only [beq_eq_false_iff_ne]; exact h10
                clear h10 hat
                go_wp2_with fail
                go_region
                go_wp2_with fail
                go_roundg (gk - 1)
                case measure => have := HJ.out; omega
                case rel => exact ⟨j + 1, by have := HJ.out; omega, by go_num, HPq.out.drew, HBq.out.drew⟩
            · obtain rfl : j = tt.size := by have := HJ.out; omega
              have hn' : decide (tt.size < tt.size) = false := by simp
              have hlq : tt.size - 1 < tt.size := by omega
              have hlS : off + tt.size - 1 < S.size := by omega
              have hlast : at_ S (off + tt.size - 1) = (tt[tt.size - 1].toNat : Int) := by
                rw [← at_lt hlq]
                have h1 := at_ext S off (off + tt.size) (tt.size - 1) (by omega) (by omega)
                rw [← HTT.out] at h1
                have h2 : off + (tt.size - 1) = off + tt.size - 1 := by omega
                rw [h1, h2]
              have HLS : Hid (at_ S (off + tt.size - 1) = (tt[tt.size - 1].toNat : Int)) := hlast
              clear hlast
              rcases Nat.eq_zero_or_pos off with ho0 | ho0
              · obtain rfl : a0 = mk := by
                  have := HST.out
                  unfold starts at this
                  rw [if_pos ho0] at this
                  exact this
                have e5 : decide (0 < off) = false := decide_eq_false (by omega)
                clear ho0
                by_cases hl10 : (tt[tt.size - 1].toNat : Int) = 10
                · have e6 : ((tt[tt.size - 1].toNat : Int) != 10) = false := by simp only [bne_eq_false_iff_eq]; exact hl10
                  clear hl10
                  go_wp2_with fail
                  go_roundg (gi - 1)
                  case measure => have h1 := HI.out; have h2 := HGI.out; omega
                  case rel => exact ⟨i + 1, off + tt.size, false, by have h1 := HI.out; have h2 := HGI.out; omega, by go_num, rfl, by go_num, by omega, HL'.out, HPq.out, HBq.out⟩
                · have e6 : ((tt[tt.size - 1].toNat : Int) != 10) = true := by simp only [bne_iff_ne]; exact hl10
                  have e7 : ((off : Int) + (tt.size : Int) != (S.size : Int)) = false := by
                    simp only [bne_eq_false_iff_eq]
                    rcases H4.out with h | h
                    · omega
                    · rw [HLS.out] at h; exact absurd h hl10
                  clear hl10
                  go_wp2_with fail
                  go_roundg (gi - 1)
                  case measure => have h1 := HI.out; have h2 := HGI.out; omega
                  case rel => exact ⟨i + 1, off + tt.size, false, by have h1 := HI.out; have h2 := HGI.out; omega, by go_num, rfl, by go_num, by omega, HL'.out, HPq.out, HBq.out⟩
              · have ho1 : off - 1 < S.size := by omega
                obtain rfl : ((S[off - 1].toNat : Int) == 10) = mk := by
                  have := HST.out
                  unfold starts at this
                  rw [if_neg (by omega), at_lt ho1] at this
                  exact this
                have e5 : decide (0 < off) = true := decide_eq_true (by omega)
                by_cases hl10 : (tt[tt.size - 1].toNat : Int) = 10
                · have e6 : ((tt[tt.size - 1].toNat : Int) != 10) = false := by simp only [bne_eq_false_iff_eq]; exact hl10
                  clear hl10
                  go_wp2_with fail
                  go_roundg (gi - 1)
                  case measure => have h1 := HI.out; have h2 := HGI.out; omega
                  case rel => exact ⟨i + 1, off + tt.size, false, by have h1 := HI.out; have h2 := HGI.out; omega, by go_num, rfl, by go_num, by omega, HL'.out, HPq.out, HBq.out⟩
                · have e6 : ((tt[tt.size - 1].toNat : Int) != 10) = true := by simp only [bne_iff_ne]; exact hl10
                  have e7 : ((off : Int) + (tt.size : Int) != (S.size : Int)) = false := by
                    simp only [bne_eq_false_iff_eq]
                    rcases H4.out with h | h
                    · omega
                    · rw [HLS.out] at h; exact absurd h hl10
                  clear hl10
                  go_wp2_with fail
                  go_roundg (gi - 1)
                  case measure => have h1 := HI.out; have h2 := HGI.out; omega
                  case rel => exact ⟨i + 1, off + tt.size, false, by have h1 := HI.out; have h2 := HGI.out; omega, by go_num, rfl, by go_num, by omega, HL'.out, HPq.out, HBq.out⟩
      · obtain rfl : i = L.length := by have := HI.out; omega
        obtain rfl : off = S.size := left_end HL.out
        have hn' : decide (L.length < L.length) = false := by simp
        have HFl : Hid ((PS wr B P F (m + 1) (starts S a0 S.size) ao c L)) := HPr.out
        have HAL := fun fl => als_any P fl wr
        have hfl := HPr.out.flag
        rcases Nat.eq_zero_or_pos S.size with ho0 | ho0
        · have hst : starts S a0 S.size = a0 := by unfold starts; rw [if_pos ho0]
          rw [hst] at hfl
          have e5 : decide (0 < S.size) = false := decide_eq_false (by omega)
          have HA : Hid (Calls Try.prog 14 #[.pointer (some ⟨P, 0, none⟩)] wr fun e w' => e = .returned (.bool a0) ∧ wr = w') := als_any P a0 wr hfl
          clear hst ho0 hfl HAL
          go_wp2_with (go_at_call 14; refine HA.out.mono ?_; rintro e' w' ⟨rfl, rfl⟩)
          go_ret
          exact ⟨by simp, HBr.out⟩
        · have hl1 : S.size - 1 < S.size := by omega
          have hst : starts S a0 S.size = ((S[S.size - 1].toNat : Int) == 10) := by unfold starts; rw [if_neg (by omega), at_lt hl1]
          rw [hst] at hfl
          have e5 : decide (0 < S.size) = true := decide_eq_true (by omega)
          have HA : Hid (Calls Try.prog 14 #[.pointer (some ⟨P, 0, none⟩)] wr fun e w' => e = .returned (.bool ((S[S.size - 1].toNat : Int) == 10)) ∧ wr = w') := als_any P _ wr hfl
          clear hst hfl HAL
          go_wp2_with (go_at_call 14; refine HA.out.mono ?_; rintro e' w' ⟨rfl, rfl⟩)
          go_ret
          exact ⟨by simp, HBr.out⟩
end Go.Proofs.Qxb6602523a
