import Derived.Test.Qxb6608866aPre
namespace Go.Proofs.Qxb6608866a
open Go.RowKit
set_option linter.unusedVariables false

/-- string([]byte{sep}), laid and read. -/
theorem conv_one (s : Int) (W : World) (h0 : 0 ≤ s) (h1 : s < 256) : (convert 28 9 (.slice (some ⟨W.heap.size, 0, none⟩) 1 1)).run Try.prog (W.alloc (.cells #[.int .u8 s] 5)) = .ok (.string (one s)) (W.alloc (.cells #[.int .u8 s] 5)) := by
  have h := World.ownsRow_lit (base := 0) (e := 5) (size := 1) W #[.int .u8 s] 1 (Nat.zero_le _) (by unfold maxLen; omega) rfl
  have e : (#[Value.int .u8 s] : Array Value).toList = bc [UInt8.ofNat s.toNat] := by simp [bc]; omega
  rw [e] at h
  exact own_conv h

set_option maxRecDepth 100000 in
set_option maxHeartbeats 4000000 in
/-- The law, sep white space. -/
theorem law_white (a b : ByteArray) (s : Int) (w : World) (h0 : 0 ≤ s) (h1 : s < 256) (h : a.size + b.size ≤ 1048576) (hw : whI s = true) (hp : prI s = false) :
    Calls Try.prog 4 #[.string a, .int .u8 s, .string b] w fun e w' => e = .returned (.bool true) ∧ Below w.heap.size w w' := by
  have d1 : decide (1048576 < (a.size : Int)) = false := decide_eq_false (by omega)
  have d2 : decide ((1048576 : Int) - (a.size : Int) < (b.size : Int)) = false := decide_eq_false (by omega)
  have HW : ∀ W : World, Hid (Calls Try.prog 13 #[.int .u8 s] W fun e w' => e = .returned (.bool true) ∧ W = w') := fun W => by have := white_any s W; rw [hw] at this; exact this
  have HPR : ∀ W : World, Hid (Calls Try.prog 14 #[.int .u8 s] W fun e w' => e = .returned (.bool false) ∧ W = w') := fun W => by have := paren_any s W; rw [hp] at this; exact this
  have hcv := fun W : World => conv_one s W h0 h1
  have hsz := size_whole a b s
  have HSEP : Hid (whI s = true ∨ prI s = true) := Or.inl hw
  have HNP : Hid (prI s = false) := hp
  have hXs : (a ++ one s ++ b).size ≤ 1048577 := by omega
  have hos : (one s).size ≤ 1 := Nat.le_refl _
  have hs1 : a.size + (one s).size ≤ 1048577 := by omega
  have hs2 : a.size + (one s).size + b.size ≤ 1048577 := by omega
  clear hsz hw hp
  go_enter Try.func4, Try.ntmps4
  go_wp2_with (first
    | (go_at_call 12; refine (zzb_ok _ _ _ _ h).mono ?_; rintro e' w' ⟨rfl, rfl⟩)
    | (go_at_call 13; refine ((HW _).out).mono ?_; rintro e' w' ⟨rfl, rfl⟩)
    | (go_at_call 14; refine ((HPR _).out).mono ?_; rintro e' w' ⟨rfl, rfl⟩))
  refine (zz9_any (a ++ one s ++ b) hXs _).mono ?_
  rintro e' w1 ⟨aoW, cW, accW, rfl, hoW, hmW, hnW, hbW⟩
  have HB1 : Hid (Below w.heap.size w w1) := ((Below.refl w.heap.size w).alloc (Nat.le_refl _) _).trans (hbW.mono (by simp))
  have HOW : Hid (Ow w1 aoW cW accW) := hoW
  have HMW : Hid (accW.map by_ = tok (by_ (a ++ one s ++ b)) []) := hmW
  clear hbW hoW hmW
  go_wp2_with fail
  refine (zz9_any a (by omega) _).mono ?_
  rintro e' w2 ⟨aoL, cL, accL, rfl, hoL, hmL, hnL, hbL⟩
  have HB2 : Hid (Below w.heap.size w w2) := HB1.out.trans (hbL.mono HB1.out.size)
  have HOW2 : Hid (Ow w2 aoW cW accW) := HOW.out.below hbL
  have HOL : Hid (Ow w2 aoL cL accL) := hoL
  have HML : Hid (accL.map by_ = tok (by_ a) []) := hmL
  clear hbL hoL hmL HB1 HOW
  go_wp2_with fail
  refine (zz9_any b (by omega) _).mono ?_
  rintro e' w3 ⟨aoR, cR, accR, rfl, hoR, hmR, hnR, hbR⟩
  have HB3 : Hid (Below w.heap.size w w3) := HB2.out.trans (hbR.mono HB2.out.size)
  have HOW3 : Hid (Ow w3 aoW cW accW) := HOW2.out.below hbR
  have HOL3 : Hid (Ow w3 aoL cL accL) := HOL.out.below hbR
  have HOR3 : Hid (Ow w3 aoR cR accR) := hoR
  have HACC : Hid (accW = accL ++ ([] ++ accR)) := by
    have h1' := whole_acc h0 h1 HSEP.out HMW.out HML.out hmR
    rw [HNP.out] at h1'
    exact h1'
  have hlen : accW.length = accL.length + 0 + accR.length := by
    have h1' := congrArg List.length HACC.out
    simp at h1'
    omega
  have HLEN : Hid (accW.length = accL.length + 0 + accR.length) := hlen
  have HFL : Hid ((accL.map by_).flatten = (by_ a).filter (fun b => !wh b)) := by
    show (accL.map by_).flatten = (by_ a).filter (fun b => !wh b)
    rw [HML.out, tok_flat, List.nil_append]
  have hneq : ((accW.length : Int) != (accL.length : Int) + (accR.length : Int)) = false := by simp only [bne_eq_false_iff_eq]; omega
  clear hbR hoR hmR HB2 HOW2 HOL hlen
  go_upto_block 0 with (go_at_call 14; refine ((HPR _).out).mono ?_; rintro e' w' ⟨rfl, rfl⟩)
  go_cut [11] from 61 to 75 (fun v11 wc => Hid (Ow wc aoW cW accW) ∧ Hid (Ow wc aoL cL accL) ∧ Hid (Ow wc aoR cR accR) ∧ Hid (Below w.heap.size w wc))
  case first =>
    go_wp2_with fail
    go_loopg [11] accL.length (fun g v11 wr => ∃ i : Nat, i + g = accL.length ∧ v11 = .int .i64 (i : Int) ∧ Hid (Ow wr aoW cW accW) ∧ Hid (Ow wr aoL cL accL) ∧ Hid (Ow wr aoR cR accR) ∧ Hid (Below w.heap.size w wr))
    case atStart => exact ⟨0, by omega, rfl, HOW3.out, HOL3.out, HOR3.out, HB3.out⟩
    case round =>
      obtain ⟨i, hi, rfl, GW, GL, GR, GB⟩ := hrel
      have HI : Hid (i + gk = accL.length) := hi
      clear hi HOW3 HOL3 HOR3 HB3
      by_cases hlt : i < accL.length
      · have hltW : i < accW.length := by have := HLEN.out; omega
        obtain ⟨gL, hgL, _, kL⟩ := GL.out.cell hlt
        obtain ⟨gW, hgW, _, kW⟩ := GW.out.cell hltW
        have hsame : accW[i] = accL[i] := by
          have h1' : accW[i]? = accL[i]? := by rw [HACC.out, List.getElem?_append_left hlt]
          rw [List.getElem?_eq_getElem hltW, List.getElem?_eq_getElem hlt] at h1'
          exact Option.some.inj h1'
        rw [hsame] at kW
        obtain ⟨x, hx⟩ : ∃ x, x = accL[i] := ⟨_, rfl⟩
        rw [← hx] at kL kW
        have hi1 : (i : Int) < (accL.length : Int) := by omega
        have hi2 : (i : Int) < (accW.length : Int) := by omega
        have hi0 : (0 : Int) ≤ (i : Int) := by omega
        subst hgL
        subst hgW
        clear hx hsame
        go_wp2_with fail
        go_region
        go_wp2_with fail
        go_roundg (gk - 1)
        case measure => have := HI.out; omega
        case rel => exact ⟨i + 1, by have := HI.out; omega, by go_num, GW.out.drew, GL.out.drew, GR.out.drew, GB.out.drew⟩
      · obtain rfl : i = accL.length := by have := HI.out; omega
        have hn' : decide (accL.length < accL.length) = false := by simp
        go_wp2_with fail
        go_meet
        case rel => exact ⟨GW.out, GL.out, GR.out, GB.out⟩
  case rest =>
    obtain ⟨GW, GL, GR, GB⟩ := hcut
    clear HOW3 HOL3 HOR3 HB3
    go_wp2_with fail
    go_quiet (fail)
    go_upto_block 2 with fail
    go_wp2_with fail
    go_loopg [12] accR.length (fun g v12 wr => ∃ i : Nat, i + g = accR.length ∧ v12 = .int .i64 (i : Int) ∧ Hid (Ow wr aoW cW accW) ∧ Hid (Ow wr aoL cL accL) ∧ Hid (Ow wr aoR cR accR) ∧ Hid (Below w.heap.size w wr))
    case atStart => exact ⟨0, by omega, rfl, GW.out, GL.out, GR.out, below_drewN GB.out nq⟩
    case round =>
      obtain ⟨i, hi, rfl, EW, EL, ER, EB⟩ := hrel
      have HI : Hid (i + gk = accR.length) := hi
      clear hi GW GL GR GB
      by_cases hlt : i < accR.length
      · have hltW : accL.length + i < accW.length := by have := HLEN.out; omega
        obtain ⟨gR, hgR, _, kR⟩ := ER.out.cell hlt
        obtain ⟨gW', hgW', _, kW'⟩ := EW.out.cell hltW
        have hsame : accW[accL.length + i] = accR[i] := by
          have h1' : accW[accL.length + i]? = accR[i]? := by
            rw [HACC.out, List.getElem?_append_right (by omega)]
            have e : accL.length + i - accL.length = i := by omega
            rw [e]
            rfl
          rw [List.getElem?_eq_getElem hltW, List.getElem?_eq_getElem hlt] at h1'
          exact Option.some.inj h1'
        rw [hsame] at kW'
        obtain ⟨x, hx⟩ : ∃ x, x = accR[i] := ⟨_, rfl⟩
        rw [← hx] at kR kW'
        have hi1 : (i : Int) < (accR.length : Int) := by omega
        have hi2 : (accL.length : Int) + (i : Int) < (accW.length : Int) := by omega
        have hi0 : (0 : Int) ≤ (i : Int) := by omega
        have hi3 : (0 : Int) ≤ (accL.length : Int) + (i : Int) := by omega
        have hi4 : ((accL.length : Int) + (i : Int)).toNat = accL.length + i := by omega
        subst hgR
        subst hgW'
        clear hx hsame
        go_wp2_with fail
        go_region
        go_wp2_with fail
        go_roundg (gk - 1)
        case measure => have := HI.out; omega
        case rel => exact ⟨i + 1, by have := HI.out; omega, by go_num, EW.out.drew, EL.out.drew, ER.out.drew, EB.out.drew⟩
      · obtain rfl : i = accR.length := by have := HI.out; omega
        have hn' : decide (accR.length < accR.length) = false := by simp
        obtain ⟨R, hR⟩ : ∃ R : ByteArray, R = ⟨((by_ a).filter (fun b => !wh b)).toArray⟩ := ⟨_, rfl⟩
        have HJ : Hid (Calls Try.prog 15 #[.slice aoL accL.length cL] wr fun e w' => e = .returned (.string R) ∧ Below wr.heap.size wr w') := by
          obtain ⟨BB, ho⟩ := EL.out
          have hfl : ((accL.map by_).flatten).length ≤ 1048577 := by
            rw [HFL.out]
            have := List.length_filter_le (fun b => !wh b) (by_ a)
            rw [by_length] at this
            omega
          have h1' := join_any aoL cL BB accL wr ho hnL hfl
          rw [HFL.out, ← hR] at h1'
          exact h1'
        have HST : ∀ W : World, Hid (Calls Try.prog 16 #[.string a] W fun e w' => e = .returned (.string R) ∧ Below W.heap.size W w') := by
          intro W
          have h1' := strip_any a W (by omega)
          rw [← hR] at h1'
          exact h1'
        clear hR
        go_wp2_with fail
        refine HJ.out.mono ?_
        rintro e' w5 ⟨rfl, hb5⟩
        have HB5 : Hid (Below w.heap.size w w5) := EB.out.trans (hb5.mono EB.out.size)
        clear hb5
        go_wp2_with fail
        refine ((HST _).out).mono ?_
        rintro e' w6 ⟨rfl, hb6⟩
        have HB6 : Hid (Below w.heap.size w w6) := HB5.out.trans (hb6.mono HB5.out.size)
        clear hb6
        go_wp2_with fail
        go_ret
        exact ⟨by simp, HB6.out⟩

set_option maxRecDepth 100000 in
set_option maxHeartbeats 4000000 in
/-- The law, sep a parenthesis. -/
theorem law_paren (a b : ByteArray) (s : Int) (w : World) (h0 : 0 ≤ s) (h1 : s < 256) (h : a.size + b.size ≤ 1048576) (hw : whI s = false) (hp : prI s = true) :
    Calls Try.prog 4 #[.string a, .int .u8 s, .string b] w fun e w' => e = .returned (.bool true) ∧ Below w.heap.size w w' := by
  have d1 : decide (1048576 < (a.size : Int)) = false := decide_eq_false (by omega)
  have d2 : decide ((1048576 : Int) - (a.size : Int) < (b.size : Int)) = false := decide_eq_false (by omega)
  have HW : ∀ W : World, Hid (Calls Try.prog 13 #[.int .u8 s] W fun e w' => e = .returned (.bool false) ∧ W = w') := fun W => by have := white_any s W; rw [hw] at this; exact this
  have HPR : ∀ W : World, Hid (Calls Try.prog 14 #[.int .u8 s] W fun e w' => e = .returned (.bool true) ∧ W = w') := fun W => by have := paren_any s W; rw [hp] at this; exact this
  have hcv := fun W : World => conv_one s W h0 h1
  have hsz := size_whole a b s
  have HSEP : Hid (whI s = true ∨ prI s = true) := Or.inr hp
  have HNP : Hid (prI s = true) := hp
  have hXs : (a ++ one s ++ b).size ≤ 1048577 := by omega
  have hos : (one s).size ≤ 1 := Nat.le_refl _
  have hs1 : a.size + (one s).size ≤ 1048577 := by omega
  have hs2 : a.size + (one s).size + b.size ≤ 1048577 := by omega
  clear hsz hw hp
  go_enter Try.func4, Try.ntmps4
  go_wp2_with (first
    | (go_at_call 12; refine (zzb_ok _ _ _ _ h).mono ?_; rintro e' w' ⟨rfl, rfl⟩)
    | (go_at_call 13; refine ((HW _).out).mono ?_; rintro e' w' ⟨rfl, rfl⟩)
    | (go_at_call 14; refine ((HPR _).out).mono ?_; rintro e' w' ⟨rfl, rfl⟩))
  refine (zz9_any (a ++ one s ++ b) hXs _).mono ?_
  rintro e' w1 ⟨aoW, cW, accW, rfl, hoW, hmW, hnW, hbW⟩
  have HB1 : Hid (Below w.heap.size w w1) := ((Below.refl w.heap.size w).alloc (Nat.le_refl _) _).trans (hbW.mono (by simp))
  have HOW : Hid (Ow w1 aoW cW accW) := hoW
  have HMW : Hid (accW.map by_ = tok (by_ (a ++ one s ++ b)) []) := hmW
  clear hbW hoW hmW
  go_wp2_with fail
  refine (zz9_any a (by omega) _).mono ?_
  rintro e' w2 ⟨aoL, cL, accL, rfl, hoL, hmL, hnL, hbL⟩
  have HB2 : Hid (Below w.heap.size w w2) := HB1.out.trans (hbL.mono HB1.out.size)
  have HOW2 : Hid (Ow w2 aoW cW accW) := HOW.out.below hbL
  have HOL : Hid (Ow w2 aoL cL accL) := hoL
  have HML : Hid (accL.map by_ = tok (by_ a) []) := hmL
  clear hbL hoL hmL HB1 HOW
  go_wp2_with fail
  refine (zz9_any b (by omega) _).mono ?_
  rintro e' w3 ⟨aoR, cR, accR, rfl, hoR, hmR, hnR, hbR⟩
  have HB3 : Hid (Below w.heap.size w w3) := HB2.out.trans (hbR.mono HB2.out.size)
  have HOW3 : Hid (Ow w3 aoW cW accW) := HOW2.out.below hbR
  have HOL3 : Hid (Ow w3 aoL cL accL) := HOL.out.below hbR
  have HOR3 : Hid (Ow w3 aoR cR accR) := hoR
  have HACC : Hid (accW = accL ++ ([one s] ++ accR)) := by
    have h1' := whole_acc h0 h1 HSEP.out HMW.out HML.out hmR
    rw [HNP.out] at h1'
    exact h1'
  have hlen : accW.length = accL.length + 1 + accR.length := by
    have h1' := congrArg List.length HACC.out
    simp at h1'
    omega
  have HLEN : Hid (accW.length = accL.length + 1 + accR.length) := hlen
  have HFL : Hid ((accL.map by_).flatten = (by_ a).filter (fun b => !wh b)) := by
    show (accL.map by_).flatten = (by_ a).filter (fun b => !wh b)
    rw [HML.out, tok_flat, List.nil_append]
  have hneq : ((accW.length : Int) != (accL.length : Int) + 1 + (accR.length : Int)) = false := by simp only [bne_eq_false_iff_eq]; omega
  clear hbR hoR hmR HB2 HOW2 HOL hlen
  go_upto_block 0 with (go_at_call 14; refine ((HPR _).out).mono ?_; rintro e' w' ⟨rfl, rfl⟩)
  go_cut [11] from 61 to 75 (fun v11 wc => Hid (Ow wc aoW cW accW) ∧ Hid (Ow wc aoL cL accL) ∧ Hid (Ow wc aoR cR accR) ∧ Hid (Below w.heap.size w wc))
  case first =>
    go_wp2_with fail
    go_loopg [11] accL.length (fun g v11 wr => ∃ i : Nat, i + g = accL.length ∧ v11 = .int .i64 (i : Int) ∧ Hid (Ow wr aoW cW accW) ∧ Hid (Ow wr aoL cL accL) ∧ Hid (Ow wr aoR cR accR) ∧ Hid (Below w.heap.size w wr))
    case atStart => exact ⟨0, by omega, rfl, HOW3.out, HOL3.out, HOR3.out, HB3.out⟩
    case round =>
      obtain ⟨i, hi, rfl, GW, GL, GR, GB⟩ := hrel
      have HI : Hid (i + gk = accL.length) := hi
      clear hi HOW3 HOL3 HOR3 HB3
      by_cases hlt : i < accL.length
      · have hltW : i < accW.length := by have := HLEN.out; omega
        obtain ⟨gL, hgL, _, kL⟩ := GL.out.cell hlt
        obtain ⟨gW, hgW, _, kW⟩ := GW.out.cell hltW
        have hsame : accW[i] = accL[i] := by
          have h1' : accW[i]? = accL[i]? := by rw [HACC.out, List.getElem?_append_left hlt]
          rw [List.getElem?_eq_getElem hltW, List.getElem?_eq_getElem hlt] at h1'
          exact Option.some.inj h1'
        rw [hsame] at kW
        obtain ⟨x, hx⟩ : ∃ x, x = accL[i] := ⟨_, rfl⟩
        rw [← hx] at kL kW
        have hi1 : (i : Int) < (accL.length : Int) := by omega
        have hi2 : (i : Int) < (accW.length : Int) := by omega
        have hi0 : (0 : Int) ≤ (i : Int) := by omega
        subst hgL
        subst hgW
        clear hx hsame
        go_wp2_with fail
        go_region
        go_wp2_with fail
        go_roundg (gk - 1)
        case measure => have := HI.out; omega
        case rel => exact ⟨i + 1, by have := HI.out; omega, by go_num, GW.out.drew, GL.out.drew, GR.out.drew, GB.out.drew⟩
      · obtain rfl : i = accL.length := by have := HI.out; omega
        have hn' : decide (accL.length < accL.length) = false := by simp
        go_wp2_with fail
        go_meet
        case rel => exact ⟨GW.out, GL.out, GR.out, GB.out⟩
  case rest =>
    obtain ⟨GW, GL, GR, GB⟩ := hcut
    clear HOW3 HOL3 HOR3 HB3
    have hlW : accL.length < accW.length := by have := HLEN.out; omega
    obtain ⟨gW, hgW, hgl, kW⟩ := GW.out.cell hlW
    have hone : accW[accL.length] = one s := by
      have h1' : accW[accL.length]? = some (one s) := by rw [HACC.out, List.getElem?_append_right (Nat.le_refl _)]; simp
      rw [List.getElem?_eq_getElem hlW] at h1'
      exact Option.some.inj h1'
    rw [hone] at kW
    have hlWi : (accL.length : Int) < (accW.length : Int) := by omega
    have hlW0 : (0 : Int) ≤ (accL.length : Int) := by omega
    have hcv2 : (convert 28 9 (.slice (some ⟨wc.heap.size, 0, none⟩) 1 1)).run Try.prog (wc.alloc (.cells #[.int .u8 s] 5)).drew = .ok (.string (one s)) (wc.alloc (.cells #[.int .u8 s] 5)).drew := conv_one s wc.drew h0 h1
    subst hgW
    clear hone
    go_wp2_with fail
    go_region
    go_upto_block 2 with fail
    go_wp2_with fail
    go_loopg [12] accR.length (fun g v12 wr => ∃ i : Nat, i + g = accR.length ∧ v12 = .int .i64 (i : Int) ∧ Hid (Ow wr (some ⟨gW, 0, none⟩) cW accW) ∧ Hid (Ow wr aoL cL accL) ∧ Hid (Ow wr aoR cR accR) ∧ Hid (Below w.heap.size w wr))
    case atStart => exact ⟨0, by omega, rfl, (GW.out.alloc _).drew, (GL.out.alloc _).drew, (GR.out.alloc _).drew, (GB.out.alloc GB.out.size _).drew⟩
    case round =>
      obtain ⟨i, hi, rfl, EW, EL, ER, EB⟩ := hrel
      have HI : Hid (i + gk = accR.length) := hi
      clear hi GW GL GR GB
      by_cases hlt : i < accR.length
      · have hltW : accL.length + 1 + i < accW.length := by have := HLEN.out; omega
        obtain ⟨gR, hgR, _, kR⟩ := ER.out.cell hlt
        obtain ⟨gW', hgW', _, kW'⟩ := EW.out.cell hltW
        have hsame : accW[accL.length + 1 + i] = accR[i] := by
          have h1' : accW[accL.length + 1 + i]? = accR[i]? := by
            rw [HACC.out, List.getElem?_append_right (by omega)]
            have e : accL.length + 1 + i - accL.length = i + 1 := by omega
            rw [e]
            rfl
          rw [List.getElem?_eq_getElem hltW, List.getElem?_eq_getElem hlt] at h1'
          exact Option.some.inj h1'
        rw [hsame] at kW'
        obtain ⟨x, hx⟩ : ∃ x, x = accR[i] := ⟨_, rfl⟩
        rw [← hx] at kR kW'
        have hi1 : (i : Int) < (accR.length : Int) := by omega
        have hi2 : (accL.length : Int) + 1 + (i : Int) < (accW.length : Int) := by omega
        have hi0 : (0 : Int) ≤ (i : Int) := by omega
        have hi3 : (0 : Int) ≤ (accL.length : Int) + 1 + (i : Int) := by omega
        have hi4 : ((accL.length : Int) + 1 + (i : Int)).toNat = accL.length + 1 + i := by omega
        subst hgR
        simp only [Option.some.injEq, Addr.mk.injEq, and_true] at hgW'
        subst hgW'
        clear hx hsame
        go_wp2_with fail
        go_region
        go_wp2_with fail
        go_roundg (gk - 1)
        case measure => have := HI.out; omega
        case rel => exact ⟨i + 1, by have := HI.out; omega, by go_num, EW.out.drew, EL.out.drew, ER.out.drew, EB.out.drew⟩
      · obtain rfl : i = accR.length := by have := HI.out; omega
        have hn' : decide (accR.length < accR.length) = false := by simp
        obtain ⟨R, hR⟩ : ∃ R : ByteArray, R = ⟨((by_ a).filter (fun b => !wh b)).toArray⟩ := ⟨_, rfl⟩
        have HJ : Hid (Calls Try.prog 15 #[.slice aoL accL.length cL] wr fun e w' => e = .returned (.string R) ∧ Below wr.heap.size wr w') := by
          obtain ⟨BB, ho⟩ := EL.out
          have hfl : ((accL.map by_).flatten).length ≤ 1048577 := by
            rw [HFL.out]
            have := List.length_filter_le (fun b => !wh b) (by_ a)
            rw [by_length] at this
            omega
          have h1' := join_any aoL cL BB accL wr ho hnL hfl
          rw [HFL.out, ← hR] at h1'
          exact h1'
        have HST : ∀ W : World, Hid (Calls Try.prog 16 #[.string a] W fun e w' => e = .returned (.string R) ∧ Below W.heap.size W w') := by
          intro W
          have h1' := strip_any a W (by omega)
          rw [← hR] at h1'
          exact h1'
        clear hR
        go_wp2_with fail
        refine HJ.out.mono ?_
        rintro e' w5 ⟨rfl, hb5⟩
        have HB5 : Hid (Below w.heap.size w w5) := EB.out.trans (hb5.mono EB.out.size)
        clear hb5
        go_wp2_with fail
        refine ((HST _).out).mono ?_
        rintro e' w6 ⟨rfl, hb6⟩
        have HB6 : Hid (Below w.heap.size w w6) := HB5.out.trans (hb6.mono HB5.out.size)
        clear hb6
        go_wp2_with fail
        go_ret
        exact ⟨by simp, HB6.out⟩
end Go.Proofs.Qxb6608866a
