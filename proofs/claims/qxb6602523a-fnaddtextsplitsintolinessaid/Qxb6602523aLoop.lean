import Derived.Test.Qxb6602523aText
import Derived.Test.Qxb6602523aPlain
import Derived.Lib.IndexLaws
namespace Go.Proofs.Qxb6602523a
open Go.RowKit
set_option linter.unusedVariables false

theorem ib_none {l : List UInt8} {c : UInt8} (h : ∀ k : Nat, ¬ l[k]? = some c) : Lib.indexByte l c = -1 := by
  have h1 := Lib.indexByte_ge l c
  by_cases e : Lib.indexByte l c = -1
  · exact e
  · obtain ⟨o, ho⟩ := Int.eq_ofNat_of_zero_le (a := Lib.indexByte l c) (by omega)
    exact absurd (Lib.indexByte_some ho).1 (h o)
/-- What strings.IndexByte finds: nothing, or the first place. -/
theorem ib_cases (r : ByteArray) : (Lib.indexByte r.data.toList 10 = -1 ∧ ∀ m, m < r.size → ¬ at_ r m = 10) ∨
    (∃ i, i < r.size ∧ Lib.indexByte r.data.toList 10 = (i : Int) ∧ at_ r i = 10 ∧ ∀ m, m < i → ¬ at_ r m = 10) := by
  have key : ∀ m, m < r.size → (at_ r m = 10 ↔ r.data.toList[m]? = some 10) := by
    intro m hm
    rw [at_lt hm]
    have e : r.data.toList[m]? = some r[m] := by
      rw [List.getElem?_eq_getElem (by simpa using hm)]
      simp [ByteArray.getElem_eq_getElem_data]
    rw [e, Option.some.injEq]
    refine ⟨fun h => ?_, fun h => by rw [h]; rfl⟩
    apply UInt8.toNat.inj
    have : r[m].toNat = 10 := by omega
    rw [this]; rfl
  have h1 := Lib.indexByte_ge r.data.toList 10
  by_cases e : Lib.indexByte r.data.toList 10 = -1
  · exact Or.inl ⟨e, fun m hm h => Lib.indexByte_none e m ((key m hm).1 h)⟩
  · obtain ⟨o, ho⟩ := Int.eq_ofNat_of_zero_le (a := Lib.indexByte r.data.toList 10) (by omega)
    obtain ⟨h2, h3⟩ := Lib.indexByte_some ho
    have hlt : o < r.size := by
      have := (List.getElem?_eq_some_iff.1 h2).1
      simpa using this
    exact Or.inr ⟨o, hlt, ho, (key o hlt).2 h2, fun m hm h => h3 m hm ((key m (by omega)).1 h)⟩

theorem last_list (s : ByteArray) (h1 : 0 < s.size) : ((s.extract (s.size - 1) s.size).toList == [10]) = (at_ s (s.size - 1) == 10) := by
  have e : (s.extract (s.size - 1) s.size).toList = [s[s.size - 1]] := by
    rw [ByteArray.toList_eq]
    apply List.ext_getElem?
    intro i
    cases i with
    | zero =>
      rw [List.getElem?_eq_getElem (by simp; omega)]
      simp [ByteArray.getElem_eq_getElem_data]
    | succ i => rw [List.getElem?_eq_none (by simp; omega)]; simp
  rw [e, at_lt (by omega), Bool.eq_iff_iff]
  simp only [beq_iff_eq, List.cons.injEq, and_true]
  refine ⟨fun h => by rw [h]; rfl, fun h => ?_⟩
  apply UInt8.toNat.inj
  have : s[s.size - 1].toNat = 10 := by omega
  rw [this]; rfl

theorem ret_bool {a b : Bool} (h : a = b) : Ending.returned (.bool a) = .returned (.bool b) := by rw [h]
/-- 26, 24: strings.HasSuffix at a newline. -/
theorem hs_any (s : ByteArray) (w : World) (hs : s.size ≤ 1048576) (h1 : 0 < s.size) :
    Calls Try.prog 26 #[.string s, .string ⟨#[10]⟩] w fun e w' => e = .returned (.bool (at_ s (s.size - 1) == 10)) ∧ w = w' := by
  have h2 : (1 : Int) ≤ (s.size : Int) := by omega
  have HL : Hid (((s.extract (s.size - 1) s.size).toList == [10]) = (at_ s (s.size - 1) == 10)) := last_list s h1
  go_enter Try.func26, Try.ntmps26
  go_wp2
  go_ret
  exact ⟨ret_bool HL.out, rfl⟩
theorem hsx_any (s : ByteArray) (w : World) (hs : s.size ≤ 1048576) (h1 : 0 < s.size) :
    Calls Try.prog 24 #[.string s, .string ⟨#[10]⟩] w fun e w' => e = .returned (.bool (at_ s (s.size - 1) == 10)) ∧ w = w' := by
  go_enter Try.func24, Try.ntmps24
  go_wp2_with fail
  refine (hs_any s w hs h1).mono ?_
  rintro e w1 ⟨rfl, rfl⟩
  go_wp2_with fail
  go_ret
  exact ⟨rfl, rfl⟩

theorem idx_none (r : ByteArray) (w : World) (h : Lib.indexByte r.data.toList 10 = -1) : Calls Try.prog 22 #[.string r, .int .u8 10] w fun e w' => e = .returned (.int .i64 (-1)) ∧ w = w' := by
  have := indexByte_any r 10 w
  have e : ((10 : Int).toNat.toUInt8 : UInt8) = 10 := rfl
  rw [e, h] at this
  exact this.mono fun _ _ x => ⟨x.1, x.2.symm⟩
theorem idx_some (r : ByteArray) (i : Nat) (w : World) (h : Lib.indexByte r.data.toList 10 = (i : Int)) : Calls Try.prog 22 #[.string r, .int .u8 10] w fun e w' => e = .returned (.int .i64 (i : Int)) ∧ w = w' := by
  have := indexByte_any r 10 w
  have e : ((10 : Int).toNat.toUInt8 : UInt8) = 10 := rfl
  rw [e, h] at this
  exact this.mono fun _ _ x => ⟨x.1, x.2.symm⟩
theorem empty_t {r : ByteArray} (h : r.size = 0) : r.toList.isEmpty = true := by
  rw [ByteArray.toList_eq, List.isEmpty_iff, ← List.length_eq_zero_iff]
  simpa using h
theorem empty_f {r : ByteArray} (h : 0 < r.size) : r.toList.isEmpty = false := by
  rw [ByteArray.toList_eq, Bool.eq_false_iff]
  intro e
  rw [List.isEmpty_iff, ← List.length_eq_zero_iff] at e
  have : r.size = 0 := by simpa using e
  omega
theorem starts_next {S : ByteArray} {a0 : Bool} {o e : Nat} (h : Seg S o e) : (at_ (S.extract o e) ((S.extract o e).size - 1) == 10) = starts S a0 e := by
  obtain ⟨h1, h2, h3, h4⟩ := h
  have hs : (S.extract o e).size = e - o := by simp; omega
  rw [hs, at_ext S o e _ h2 (by omega)]
  unfold starts
  rw [if_neg (by omega)]
  have : o + (e - o - 1) = e - 1 := by omega
  rw [this]
theorem hsx_eq (s : ByteArray) (w : World) (hs : s.size ≤ 1048576) (h1 : 0 < s.size) (b : Bool) (hb : (at_ s (s.size - 1) == 10) = b) :
    Calls Try.prog 24 #[.string s, .string ⟨#[10]⟩] w fun e w' => e = .returned (.bool b) ∧ w = w' := by
  rw [← hb]
  exact hsx_any s w hs h1
theorem round_ps {w : World} {S : ByteArray} {B P F d : Nat} {a0 x : Bool} {ao : Option Addr} {c : Nat} {cuts : List Nat} {o e : Nat} (hp : PS w B P F d x ao c ((nodes S a0 0 cuts ++ (if starts S a0 o = true then [((1 : Int), (⟨#[]⟩ : ByteArray))] else [])) ++ [((0 : Int), S.extract o e)]))
    (hpa : Path S 0 cuts o) (hs : Seg S o e) : PS (w.setCell ⟨P, 7, none⟩ (.bool (starts S a0 e))) B P F d (starts S a0 e) ao c (nodes S a0 0 (cuts ++ [e])) := by
  have h := hp.setFlag (starts S a0 e)
  rw [nodes_snoc cuts 0 hpa]
  unfold seg
  rw [← List.append_assoc]
  exact h

set_option maxHeartbeats 1000000 in
/-- 20: addText. -/
theorem addText_any (S : ByteArray) (B P F d : Nat) (a0 : Bool) (w : World) (hp : PS w B P F d a0 none 0 []) (hS : S.size ≤ 1048576) (hd : d ≤ 64) :
    Calls Try.prog 20 #[.pointer (some ⟨P, 0, none⟩), .string S] w fun e w' => e = .returned (.tuple #[]) ∧ Below F w w' ∧ ∃ cuts ao c, Path S 0 cuts S.size ∧ PS w' B P F d (starts S a0 S.size) ao c (nodes S a0 0 cuts) ∧ (nodes S a0 0 cuts).length ≤ 2097152 := by
  have HP : Hid (PS w B P F d a0 none 0 []) := hp
  have hFP := hp.hFP
  clear hp
  go_enter Try.func20, Try.ntmps20
  go_wp2_with fail
  go_loopg [1] S.size (fun g v1 wr => ∃ (o : Nat) (cuts : List Nat) (ao : Option Addr) (c : Nat) (r : ByteArray), o + g = S.size ∧ v1 = .string r ∧ Hid (r = S.extract o S.size) ∧ r.size + o = S.size ∧
    Hid (Path S 0 cuts o) ∧ Hid (PS wr B P F d (starts S a0 o) ao c (nodes S a0 0 cuts)) ∧ (nodes S a0 0 cuts).length ≤ 2 * o ∧ Hid (Below F w wr))
  case atStart => exact ⟨0, [], none, 0, S, by omega, rfl, (ext_all S).symm, by omega, rfl, HP.out, Nat.le_refl _, Below.refl _ _⟩
  case round =>
    obtain ⟨o, cuts, ao, c, r, ho, rfl, HR, hrs, HPA, HPS, hlen, HB⟩ := hrel
    have HO : Hid (o + gk = S.size) := ho
    have HRS : Hid (r.size + o = S.size) := hrs
    have HLN : Hid ((nodes S a0 0 cuts).length ≤ 2 * o) := hlen
    by_cases hlt : o < S.size
    · have he : r.toList.isEmpty = false := empty_f (by omega)
      have hr1 : r.size ≤ 1048576 := by omega
      rcases ib_cases r with ⟨hi1, hi2⟩ | ⟨i, hi0, hi1, hi2, hi3⟩
      · have hseg : Seg S o S.size := by
          refine ⟨hlt, Nat.le_refl _, fun m m1 m2 => ?_, Or.inl rfl⟩
          have := hi2 (m - o) (by omega)
          rw [HR.out, at_ext S o S.size _ (Nat.le_refl _) (by omega)] at this
          have e : o + (m - o) = m := by omega
          rw [e] at this
          exact this
        have HI : Hid (Lib.indexByte r.data.toList 10 = -1) := hi1
        have HSEG : Hid (Seg S o S.size) := hseg
        clear hi1 hi2 hseg hrs hlen ho
        have HPC : Hid (r = S.extract o S.size) := HR.out
        have hz1 : r.size ≤ 1048576 := hr1
        have hz2 : 0 < r.size := by have := HRS.out; omega
        have HFB : Hid ((at_ r (r.size - 1) == 10) = starts S a0 S.size) := by
          have h1 := starts_next (a0 := a0) HSEG.out
          rw [← HPC.out] at h1
          exact h1
        have HNR : Hid (ByteArray.empty = S.extract S.size S.size) := by apply ByteArray.ext; rw [ext_data]; simp
        have HNS : Hid (ByteArray.empty.size + S.size = S.size) := by exact Nat.zero_add _
        cases hst : starts S a0 o with
        | true =>
          have HST : Hid (starts S a0 o = true) := hst
          have HPS' : Hid (PS wr B P F d true ao c (nodes S a0 0 cuts)) := by have := HPS.out; rw [hst] at this; exact this
          clear HPS hst
          go_wp2_with fail
          refine (idx_none r wr HI.out).mono ?_
          rintro e' w' ⟨rfl, rfl⟩
          go_wp2_with fail
          refine (mark_yes B P F d ao c (nodes S a0 0 cuts) wr HPS'.out (by have := HLN.out; omega) hd).mono ?_
          rintro e' w1 ⟨rfl, hb1, ao1, c1, hp1⟩
          have HP1 : Hid (PS w1 B P F d false ao1 c1 (nodes S a0 0 cuts ++ [(1, ⟨#[]⟩)])) := hp1
          have HB1 : Hid (Below F w w1) := HB.out.trans hb1
          clear hb1 hp1
          go_wp2_with fail
          refine (add_any B P F d false ao1 c1 (nodes S a0 0 cuts ++ [(1, ⟨#[]⟩)]) 0 r w1 HP1.out (by have := HLN.out; simp; omega) hd).mono ?_
          rintro e' w2 ⟨rfl, hb2, ao2, c2, hp2⟩
          have HB2 : Hid (Below F w w2) := HB1.out.trans hb2
          have k1 := hp2.flag
          have k2 := hp2.ffree
          have HP2 : Hid (PS w2 B P F d false ao2 c2 ((nodes S a0 0 cuts ++ (if starts S a0 o = true then [((1 : Int), (⟨#[]⟩ : ByteArray))] else [])) ++ [((0 : Int), S.extract o S.size)])) := by
            unfold Hid
            rw [HST.out]
            rw [HPC.out] at hp2
            exact hp2
          clear hb2 hp2
          go_wp2_with fail
          refine (hsx_eq r w2 hz1 hz2 _ HFB.out).mono ?_
          rintro e' w3 ⟨rfl, rfl⟩
          go_wp2_with fail
          go_roundg (S.size - S.size)
          case measure => have := HO.out; have := HRS.out; omega
          case rel =>
            have h1 := round_ps HP2.out HPA.out HSEG.out
            have h2 := nodes_snoc (a0 := a0) (e := S.size) cuts 0 HPA.out
            have h3 := seg_length S a0 o S.size
            refine ⟨S.size, cuts ++ [S.size], ao2, c2, _, by have := HRS.out; omega, rfl, HNR.out, HNS.out, path_snoc HSEG.out cuts 0 HPA.out, ?_, ?_, HB2.out.setCell (Nat.le_of_lt hFP) _⟩
            · exact h1
            · rw [h2, List.length_append]; have := HLN.out; have := HSEG.out.1; omega
        | false =>
          have HST : Hid (starts S a0 o = false) := hst
          have HPS' : Hid (PS wr B P F d false ao c (nodes S a0 0 cuts)) := by have := HPS.out; rw [hst] at this; exact this
          clear HPS hst
          go_wp2_with fail
          refine (idx_none r wr HI.out).mono ?_
          rintro e' w' ⟨rfl, rfl⟩
          go_wp2_with fail
          refine (mark_no B P F d ao c (nodes S a0 0 cuts) wr HPS'.out).mono ?_
          rintro e' w1 ⟨rfl, rfl⟩
          go_wp2_with fail
          refine (add_any B P F d false ao c (nodes S a0 0 cuts) 0 r wr HPS'.out (by have := HLN.out; omega) hd).mono ?_
          rintro e' w2 ⟨rfl, hb2, ao2, c2, hp2⟩
          have HB2 : Hid (Below F w w2) := HB.out.trans hb2
          have k1 := hp2.flag
          have k2 := hp2.ffree
          have HP2 : Hid (PS w2 B P F d false ao2 c2 ((nodes S a0 0 cuts ++ (if starts S a0 o = true then [((1 : Int), (⟨#[]⟩ : ByteArray))] else [])) ++ [((0 : Int), S.extract o S.size)])) := by
            unfold Hid
            rw [HST.out]
            rw [HPC.out] at hp2
            simpa using hp2
          clear hb2 hp2
          go_wp2_with fail
          refine (hsx_eq r w2 hz1 hz2 _ HFB.out).mono ?_
          rintro e' w3 ⟨rfl, rfl⟩
          go_wp2_with fail
          go_roundg (S.size - S.size)
          case measure => have := HO.out; have := HRS.out; omega
          case rel =>
            have h1 := round_ps HP2.out HPA.out HSEG.out
            have h2 := nodes_snoc (a0 := a0) (e := S.size) cuts 0 HPA.out
            have h3 := seg_length S a0 o S.size
            refine ⟨S.size, cuts ++ [S.size], ao2, c2, _, by have := HRS.out; omega, rfl, HNR.out, HNS.out, path_snoc HSEG.out cuts 0 HPA.out, ?_, ?_, HB2.out.setCell (Nat.le_of_lt hFP) _⟩
            · exact h1
            · rw [h2, List.length_append]; have := HLN.out; have := HSEG.out.1; omega
      · have hseg : Seg S o (o + i + 1) := by
          refine ⟨by omega, by omega, fun m m1 m2 => ?_, Or.inr ?_⟩
          · have := hi3 (m - o) (by omega)
            rw [HR.out, at_ext S o S.size _ (Nat.le_refl _) (by omega)] at this
            have e : o + (m - o) = m := by omega
            rw [e] at this
            exact this
          · rw [HR.out, at_ext S o S.size _ (Nat.le_refl _) (by omega)] at hi2
            exact hi2
        have HI : Hid (Lib.indexByte r.data.toList 10 = (i : Int)) := hi1
        have HSEG : Hid (Seg S o (o + i + 1)) := hseg
        have hil : (i : Int) + 1 ≤ (r.size : Int) := by omega
        clear hi1 hi2 hi3 hseg
        have HPC : Hid (r.extract 0 (i + 1) = S.extract o (o + i + 1)) := by
          have h1 := HRS.out
          show r.extract 0 (i + 1) = S.extract o (o + i + 1)
          rw [HR.out, ext_ext S o S.size 0 (i + 1) (by omega) (Nat.le_refl _)]; rfl
        have hsz : (r.extract 0 (i + 1)).size = i + 1 := by simp; omega
        have hz1 : (r.extract 0 (i + 1)).size ≤ 1048576 := by rw [hsz]; omega
        have hz2 : 0 < (r.extract 0 (i + 1)).size := by rw [hsz]; omega
        have HFB : Hid ((at_ (r.extract 0 (i + 1)) ((r.extract 0 (i + 1)).size - 1) == 10) = starts S a0 (o + i + 1)) := by
          have h1 := starts_next (a0 := a0) HSEG.out
          rw [← HPC.out] at h1
          exact h1
        have hmin : min (i + 1) r.size = i + 1 := Nat.min_eq_left (by omega)
        have HNR : Hid (r.extract (i + 1) r.size = S.extract (o + i + 1) S.size) := by
          have h1 := HRS.out
          show r.extract (i + 1) r.size = S.extract (o + i + 1) S.size
          have h2 : r.size = S.size - o := by omega
          rw [h2, HR.out, ext_ext S o S.size (i + 1) (S.size - o) (by omega) (Nat.le_refl _)]
          have h3 : o + (S.size - o) = S.size := by omega
          rw [h3]; rfl
        have HNS : Hid ((r.extract (i + 1) r.size).size + (o + i + 1) = S.size) := by
          have h1 := HRS.out
          have h2 : (r.extract (i + 1) r.size).size = r.size - (i + 1) := by simp
          show (r.extract (i + 1) r.size).size + (o + i + 1) = S.size
          rw [h2]; omega
        clear hsz
        clear hrs hlen ho
        cases hst : starts S a0 o with
        | true =>
          have HST : Hid (starts S a0 o = true) := hst
          have HPS' : Hid (PS wr B P F d true ao c (nodes S a0 0 cuts)) := by have := HPS.out; rw [hst] at this; exact this
          clear HPS hst
          go_wp2_with fail
          refine (idx_some r i wr HI.out).mono ?_
          rintro e' w' ⟨rfl, rfl⟩
          go_wp2_with fail
          refine (mark_yes B P F d ao c (nodes S a0 0 cuts) wr HPS'.out (by have := HLN.out; omega) hd).mono ?_
          rintro e' w1 ⟨rfl, hb1, ao1, c1, hp1⟩
          have HP1 : Hid (PS w1 B P F d false ao1 c1 (nodes S a0 0 cuts ++ [(1, ⟨#[]⟩)])) := hp1
          have HB1 : Hid (Below F w w1) := HB.out.trans hb1
          clear hb1 hp1
          go_wp2_with fail
          refine (add_any B P F d false ao1 c1 (nodes S a0 0 cuts ++ [(1, ⟨#[]⟩)]) 0 (r.extract 0 (i + 1)) w1 HP1.out (by have := HLN.out; simp; omega) hd).mono ?_
          rintro e' w2 ⟨rfl, hb2, ao2, c2, hp2⟩
          have HB2 : Hid (Below F w w2) := HB1.out.trans hb2
          have k1 := hp2.flag
          have k2 := hp2.ffree
          have HP2 : Hid (PS w2 B P F d false ao2 c2 ((nodes S a0 0 cuts ++ (if starts S a0 o = true then [((1 : Int), (⟨#[]⟩ : ByteArray))] else [])) ++ [((0 : Int), S.extract o (o + i + 1))])) := by
            unfold Hid
            rw [HST.out]
            rw [HPC.out] at hp2
            exact hp2
          clear hb2 hp2
          go_wp2_with fail
          refine (hsx_eq (r.extract 0 (i + 1)) w2 hz1 hz2 _ HFB.out).mono ?_
          rintro e' w3 ⟨rfl, rfl⟩
          go_wp2_with fail
          go_roundg (S.size - (o + i + 1))
          case measure => have := HO.out; have := HRS.out; omega
          case rel =>
            have h1 := round_ps HP2.out HPA.out HSEG.out
            have h2 := nodes_snoc (a0 := a0) (e := (o + i + 1)) cuts 0 HPA.out
            have h3 := seg_length S a0 o (o + i + 1)
            refine ⟨(o + i + 1), cuts ++ [(o + i + 1)], ao2, c2, _, by have := HRS.out; omega, rfl, HNR.out, HNS.out, path_snoc HSEG.out cuts 0 HPA.out, ?_, ?_, HB2.out.setCell (Nat.le_of_lt hFP) _⟩
            · exact h1
            · rw [h2, List.length_append]; have := HLN.out; have := HSEG.out.1; omega
        | false =>
          have HST : Hid (starts S a0 o = false) := hst
          have HPS' : Hid (PS wr B P F d false ao c (nodes S a0 0 cuts)) := by have := HPS.out; rw [hst] at this; exact this
          clear HPS hst
          go_wp2_with fail
          refine (idx_some r i wr HI.out).mono ?_
          rintro e' w' ⟨rfl, rfl⟩
          go_wp2_with fail
          refine (mark_no B P F d ao c (nodes S a0 0 cuts) wr HPS'.out).mono ?_
          rintro e' w1 ⟨rfl, rfl⟩
          go_wp2_with fail
          refine (add_any B P F d false ao c (nodes S a0 0 cuts) 0 (r.extract 0 (i + 1)) wr HPS'.out (by have := HLN.out; omega) hd).mono ?_
          rintro e' w2 ⟨rfl, hb2, ao2, c2, hp2⟩
          have HB2 : Hid (Below F w w2) := HB.out.trans hb2
          have k1 := hp2.flag
          have k2 := hp2.ffree
          have HP2 : Hid (PS w2 B P F d false ao2 c2 ((nodes S a0 0 cuts ++ (if starts S a0 o = true then [((1 : Int), (⟨#[]⟩ : ByteArray))] else [])) ++ [((0 : Int), S.extract o (o + i + 1))])) := by
            unfold Hid
            rw [HST.out]
            rw [HPC.out] at hp2
            simpa using hp2
          clear hb2 hp2
          go_wp2_with fail
          refine (hsx_eq (r.extract 0 (i + 1)) w2 hz1 hz2 _ HFB.out).mono ?_
          rintro e' w3 ⟨rfl, rfl⟩
          go_wp2_with fail
          go_roundg (S.size - (o + i + 1))
          case measure => have := HO.out; have := HRS.out; omega
          case rel =>
            have h1 := round_ps HP2.out HPA.out HSEG.out
            have h2 := nodes_snoc (a0 := a0) (e := (o + i + 1)) cuts 0 HPA.out
            have h3 := seg_length S a0 o (o + i + 1)
            refine ⟨(o + i + 1), cuts ++ [(o + i + 1)], ao2, c2, _, by have := HRS.out; omega, rfl, HNR.out, HNS.out, path_snoc HSEG.out cuts 0 HPA.out, ?_, ?_, HB2.out.setCell (Nat.le_of_lt hFP) _⟩
            · exact h1
            · rw [h2, List.length_append]; have := HLN.out; have := HSEG.out.1; omega
    · have he : r.toList.isEmpty = true := empty_t (by omega)
      obtain rfl : o = S.size := by have := HO.out; omega
      go_wp2_with fail
      go_end0
      exact ⟨rfl, HB.out, cuts, ao, c, HPA.out, HPS.out, by have := HLN.out; omega⟩
end Go.Proofs.Qxb6602523a
