import Derived.Test.Qxb6608735aTop3
import Derived.Test.Qxb6608735aW19
import Derived.Deep.CutBlock
import Derived.Deep.DeepCutAuto
import Derived.Deep.RegionHeld3
import Derived.Maps.RangeWalk
import Derived.Carry
namespace Go.Proofs.Qxb6608735a
open Go.RowKit
set_option linter.unusedVariables false

set_option maxHeartbeats 40000000 in
set_option maxRecDepth 100000 in
theorem law8 (vL vO vK vlo vhi vT vD vC : Value) (L : List ByteArray) (O K lo hi : List Int) (T D C : List ByteArray) (w : World)
    (hL : Strs w vL L) (hO : I32s w vO O) (hK : I64s w vK K) (hlo : I32s w vlo lo) (hhi : I32s w vhi hi) (hT : Strs w vT T) (hD : Strs w vD D) (hC : Strs w vC C)
    (zL : ∀ s ∈ L, s.size ≤ maxLen) (zT : ∀ s ∈ T, s.size ≤ maxLen) (zD : ∀ s ∈ D, s.size ≤ maxLen) (zC : ∀ s ∈ C, s.size ≤ maxLen)
    (mL : L.length ≤ 9223372036854775807) (mO : O.length ≤ 9223372036854775807) (mK : K.length ≤ 9223372036854775807) (mlo : lo.length ≤ 9223372036854775807) (mhi : hi.length ≤ 9223372036854775807) (mT : T.length ≤ 9223372036854775807) (mD : D.length ≤ 9223372036854775807) (mC : C.length ≤ 9223372036854775807)
    (wO : ∀ o ∈ O, -2147483648 ≤ o ∧ o ≤ 2147483647) (wlo : ∀ o ∈ lo, -2147483648 ≤ o ∧ o ≤ 2147483647) (whi : ∀ o ∈ hi, -2147483648 ≤ o ∧ o ≤ 2147483647) :
    Calls Try.prog 8 #[vL, vO, vK, vlo, vhi, vT, vD, vC] w fun e w' => Yes w e w' := by
  have HL := hide hL
  have HO := hide hO
  have HK := hide hK
  have Hlo := hide hlo
  have Hhi := hide hhi
  have HT := hide hT
  have HD := hide hD
  have HC := hide hC
  have HB33 := hide (bytes38 vL vO vK vlo vhi vT vD vC w L hL mL zL O hO mO K hK mK lo hlo mlo hi hhi mhi T hT mT zT D hD mD zD C hC mC zC)
  obtain ⟨aO, cO, rfl, hcO, jO⟩ := hO.open1
  obtain ⟨aK, cK, rfl, hcK, jK⟩ := hK.open1
  obtain ⟨alo, clo, rfl, hclo, jlo⟩ := hlo.open1
  obtain ⟨ahi, chi, rfl, hchi, jhi⟩ := hhi.open1
  obtain ⟨aC, cC, rfl, hcC, jC⟩ := hC.open1
  have ZL := hide zL
  have ZT := hide zT
  have ZD := hide zD
  have ZC := hide zC
  have WO := hide wO
  have Wlo := hide wlo
  have Whi := hide whi
  clear hL hO hK hlo hhi hT hD hC jO jK jlo jhi jC zL zT zD zC wO wlo whi
  go_enter Try.func8, Try.ntmps8
  go_wp2_with fail
  refine HB33.out.mono ?_
  rintro e w1 ⟨b, rfl, rfl, hb⟩
  clear HB33
  cases b with
  | false =>
    go_wp2
    go_ret
    exact ⟨rfl, Below.refl _ _⟩
  | true =>
    obtain ⟨bL, bT, bD, bC⟩ := hb rfl
    clear hb
    by_cases c1 : 4096 < O.length
    · go_wp2
      go_ret
      exact ⟨rfl, Below.refl _ _⟩
    by_cases c2 : 4096 < K.length
    · go_wp2
      go_ret
      exact ⟨rfl, Below.refl _ _⟩
    by_cases c3 : 4096 < lo.length
    · go_wp2
      go_ret
      exact ⟨rfl, Below.refl _ _⟩
    by_cases c4 : 4096 < hi.length
    · go_wp2
      go_ret
      exact ⟨rfl, Below.refl _ _⟩
    go_wp2_with fail
    refine (strBytes_any vL L _ w1 HL.out (by omega) ZL.out (by omega) (by omega)).mono ?_
    rintro e w2 ⟨t1, rfl, rfl, p1, p1', q1⟩
    go_wp2_with fail
    refine (strBytes_any vT T _ w2 HT.out (by omega) ZT.out (by omega) (by omega)).mono ?_
    rintro e w1 ⟨t2, rfl, rfl, p2, p2', q2⟩
    go_wp2_with fail
    refine (strBytes_any vD D _ w1 HD.out (by omega) ZD.out (by omega) (by omega)).mono ?_
    rintro e w2 ⟨t3, rfl, rfl, p3, p3', q3⟩
    go_wp2_with fail
    refine (strBytes_any _ C _ w2 HC.out (by omega) ZC.out (by omega) (by omega)).mono ?_
    rintro e w1 ⟨t4, rfl, rfl, p4, p4', q4⟩
    by_cases c5 : 1048576 < t4
    · go_wp2
      go_ret
      exact ⟨rfl, Below.refl _ _⟩
    have c5' : t4 ≤ 1048576 := by omega
    obtain ⟨nC, r4⟩ := q4 c5'
    obtain ⟨nD, r3⟩ := q3 (by omega)
    obtain ⟨nT, r2⟩ := q2 (by omega)
    obtain ⟨nL, r1⟩ := q1 (by omega)
    clear q1 q2 q3 q4 bL bT bD bC mL mO mK mlo mhi mT mD mC c5' ZL ZT ZD ZC
    go_upto_if 95 with fail
    have hmk := make_run 41 21 1 4 _ Try.underlying41 Try.info21 (by omega)
    have hmklo := hmk lo.length (by omega)
    have hmkhi := hmk hi.length (by omega)
    clear hmk
    go_cut [3] (fun s wx => ∃ a c, s = .slice a lo.length c ∧ lo.length ≤ c ∧ I32s wx s lo ∧ Below w1.heap.size w1 wx)
    case first => as_aux_lemma =>
      cases alo with
      | none =>
        go_wp2
        go_meet
        case rel => exact ⟨_, _, rfl, hclo, Hlo.out, Below.refl _ _⟩
      | some x =>
        obtain ⟨cs, hr, hl⟩ := made_row w1 (madeCells #[Value.int .i32 0] lo.length) 21
        rw [size_madeCells] at hl
        have HR := hide hr
        have HLc := hide hl
        clear hr hl
        go_wp2_with (refine wpList_copy_i32 rfl _ _ rfl w1.heap.size lo.length cs (by exact HR.out) HLc.out (some x) clo lo rfl (Hlo.out.below ((Below.refl _ _).alloc (Nat.le_refl _) _)) rfl rfl w1.heap.size w1 ((Below.refl _ _).alloc (Nat.le_refl _) _) (Nat.le_refl _) ?_; intro w2 hi2 hb2; have HI2 := hide hi2; have HB2 := hide hb2; clear hi2 hb2)
        go_meet
        case rel => exact ⟨_, _, rfl, Nat.le_refl _, HI2.out, HB2.out⟩
    case rest => as_aux_lemma =>
    obtain ⟨alo2, clo2, rfl, hclo2, hlo2, hb2⟩ := hcut
    have Hlo2 := hide hlo2
    have HB2 := hide hb2
    clear hlo2 hb2
    go_upto_if 104 with fail
    go_cut [4] (fun s wx => ∃ a c, s = .slice a hi.length c ∧ hi.length ≤ c ∧ I32s wx s hi ∧ Below wc.heap.size wc wx)
    case first => as_aux_lemma =>
      cases ahi with
      | none =>
        go_wp2
        go_meet
        case rel => exact ⟨_, _, rfl, hchi, Hhi.out.below HB2.out, Below.refl _ _⟩
      | some x =>
        obtain ⟨cs, hr, hl⟩ := made_row wc (madeCells #[Value.int .i32 0] hi.length) 21
        rw [size_madeCells] at hl
        have HR := hide hr
        have HLc := hide hl
        clear hr hl
        go_wp2_with (refine wpList_copy_i32 rfl _ _ rfl wc.heap.size hi.length cs (by exact HR.out) HLc.out (some x) chi hi rfl ((Hhi.out.below HB2.out).below ((Below.refl _ _).alloc (Nat.le_refl _) _)) rfl rfl wc.heap.size wc ((Below.refl _ _).alloc (Nat.le_refl _) _) (Nat.le_refl _) ?_; intro w2 hi2 hb2; have HI2 := hide hi2; have HB3 := hide hb2; clear hi2 hb2)
        go_meet
        case rel => exact ⟨_, _, rfl, Nat.le_refl _, HI2.out, HB3.out⟩
    case rest => as_aux_lemma =>
    obtain ⟨ahi2, chi2, rfl, hchi2, hhi2, hb3⟩ := hcut
    have HB := hide (Below.then HB2.out hb3)
    have HI := hide (show Inputs wc vL (.slice aO O.length cO) (.slice aK K.length cK) (.slice alo2 lo.length clo2) (.slice ahi2 hi.length chi2) vT vD (.slice aC C.length cC) L O K lo hi T D C from
      ⟨HL.out.below HB.out, HO.out.below HB.out, HK.out.below HB.out, Hlo2.out.below hb3, hhi2, HT.out.below HB.out, HD.out.below HB.out, HC.out.below HB.out⟩)
    clear hhi2 hb3 Hlo2 HB2 HL HO HK Hlo Hhi HT HD HC hmklo hmkhi hclo hchi
    go_wp2_with fail
    refine (premise_any _ _ _ _ _ _ _ L O K lo hi T D wc HI.out.iL HI.out.iO HI.out.iK HI.out.ilo HI.out.ihi HI.out.iT HI.out.iD nL (by omega) (by omega) (by omega) (by omega) nT nD WO.out Wlo.out Whi.out).mono ?_
    rintro e w2 ⟨⟨hf, bx, rfl, hx, hbx⟩ | rfl, hb2⟩
    case inr =>
      have HB2 := hide (Below.then HB.out hb2)
      clear hb2
      go_wp2
      go_ret
      exact ⟨rfl, HB2.out⟩
    case inl =>
    have HF := hide hf
    have HX := hide hx
    have HI2 := hide (HI.out.below hb2)
    have HB2 := hide (Below.then HB.out hb2)
    clear hf hx hbx hb2 HI HB
    go_wp2_with fail
    refine (held_any _ O w2 HI2.out.iO (by omega)).mono ?_
    rintro e w3 ⟨vp, vw, rfl, hp, hw, hb3⟩
    have HP := hide hp
    have HW := hide hw
    have HX3 := hide (HX.out.below HX.out.lt hb3)
    have HI3 := hide (HI2.out.below hb3)
    have HB3 := hide (Below.then HB2.out hb3)
    clear hp hw hb3 HX HI2 HB2
    go_wp2_with fail
    refine (names_any _ L w3 HI3.out.iL (by omega)).mono ?_
    rintro e w4 ⟨vn, rfl, hn, hb4⟩
    obtain ⟨an, cn, rfl, hcn, jn⟩ := hn.opened
    have HP4 := hide (HP.out.below hb4)
    have HW4 := hide (HW.out.below hb4)
    have HX4 := hide (HX3.out.below HX3.out.lt hb4)
    have HI4 := hide (HI3.out.below hb4)
    have HB4 := hide (Below.then HB3.out hb4)
    clear hn hb4 hcn jn HP HW HX3 HI3 HB3
    go_wp2_with fail
    refine (nameIndex_any _ L w4 HI4.out.iL (by omega) HF.out.nodup).mono ?_
    rintro e w5 ⟨im, rfl, him, himb, hb5⟩
    have HM5 := hide him
    have HP5 := hide (HP4.out.below hb5)
    have HW5 := hide (HW4.out.below hb5)
    have HX5 := hide (HX4.out.below HX4.out.lt hb5)
    have HI5 := hide (HI4.out.below hb5)
    have HB5 := hide (Below.then HB4.out hb5)
    clear him himb hb5 HP4 HW4 HX4 HI4 HB4
    go_wp2_with fail
    refine (newAtoms_row _ _ _ _ w5).mono ?_
    rintro e w6 ⟨ab, rfl, hra, hab, hb6⟩
    have HRA6 := hide hra
    have HM6 := hide (HM5.out.below HM5.out.lt hb6)
    have HP6 := hide (HP5.out.below hb6)
    have HW6 := hide (HW5.out.below hb6)
    have HX6 := hide (HX5.out.below HX5.out.lt hb6)
    have HI6 := hide (HI5.out.below hb6)
    have HB6 := hide (Below.then HB5.out hb6)
    clear hra hab hb6 HM5 HP5 HW5 HX5 HI5 HB5
    go_wp2_with fail
    refine (copyStrings_any _ D w6 HI6.out.iD (by omega)).mono ?_
    rintro e w7 ⟨vi, rfl, hvi, hb7⟩
    have HVI7 := hide hvi
    have HRA7 := hide (HRA6.out.below HRA6.out.lt hb7)
    have HM7 := hide (HM6.out.below HM6.out.lt hb7)
    have HP7 := hide (HP6.out.below hb7)
    have HW7 := hide (HW6.out.below hb7)
    have HX7 := hide (HX6.out.below HX6.out.lt hb7)
    have HI7 := hide (HI6.out.below hb7)
    have HB7 := hide (Below.then HB6.out hb7)
    clear hvi hb7 HRA6 HM6 HP6 HW6 HX6 HI6 HB6
    go_wp2_with fail
    refine (copyInt64_any _ K w7 HI7.out.iK (by omega)).mono ?_
    rintro e w8 ⟨vl, rfl, hvl, hb8⟩
    have HVL8 := hide hvl
    have HVI8 := hide (HVI7.out.below hb8)
    have HRA8 := hide (HRA7.out.below HRA7.out.lt hb8)
    have HM8 := hide (HM7.out.below HM7.out.lt hb8)
    have HP8 := hide (HP7.out.below hb8)
    have HW8 := hide (HW7.out.below hb8)
    have HX8 := hide (HX7.out.below HX7.out.lt hb8)
    have HI8 := hide (HI7.out.below hb8)
    have HB8 := hide (Below.then HB7.out hb8)
    clear hvl hb8 HVI7 HRA7 HM7 HP7 HW7 HX7 HI7 HB7
    go_wp2_with fail
    refine (names_any _ T w8 HI8.out.iT (by omega)).mono ?_
    rintro e w9 ⟨vo, rfl, hvo, hb9⟩
    have HVO9 := hide hvo
    have HVL9 := hide (HVL8.out.below hb9)
    have HVI9 := hide (HVI8.out.below hb9)
    have HRA9 := hide (HRA8.out.below HRA8.out.lt hb9)
    have HM9 := hide (HM8.out.below HM8.out.lt hb9)
    have HP9 := hide (HP8.out.below hb9)
    have HW9 := hide (HW8.out.below hb9)
    have HX9 := hide (HX8.out.below HX8.out.lt hb9)
    have HI9 := hide (HI8.out.below hb9)
    have HB9 := hide (Below.then HB8.out hb9)
    clear hvo hb9 HVL8 HVI8 HRA8 HM8 HP8 HW8 HX8 HI8 HB8
    have hzl : (lo.zip hi).length = lo.length := by rw [List.length_zip, HF.out.even]; omega
    go_wp2_with fail
    refine (newHolding_any ab im L O K (lo.zip hi) T D _ _ _ _ _ _ _ _ w9 ((HRA9.out.cell 1).trans rfl) HM9.out HRA9.out HVI9.out HP9.out HW9.out (by rw [zip_fst HF.out.even]; exact HI9.out.ilo) (by rw [zip_snd HF.out.even]; exact HI9.out.ihi) HVL9.out HVO9.out (by omega) (by omega)).mono ?_
    rintro e w10 ⟨hb, nb, cb, vh, va, rfl, hhold, hb10⟩
    have HH10 := hide hhold
    have HX10 := hide (HX9.out.below HX9.out.lt hb10)
    have HI10 := hide (HI9.out.below hb10)
    have HB10 := hide (Below.then HB9.out hb10)
    clear hhold hb10 hzl HVO9 HVL9 HVI9 HRA9 HM9 HP9 HW9 HX9 HI9 HB9
    go_upto_region 21 with fail
    have hal : Below w10.heap.size w10 (w10.alloc (.cells #[.pointer (some ⟨hb, 0, none⟩)] 32)) := (Below.refl _ _).alloc (Nat.le_refl _) _
    have RD := hide (show Ready (w10.alloc (.cells #[.pointer (some ⟨hb, 0, none⟩)] 32)) vL (.slice aO O.length cO) (.slice aK K.length cK) (.slice alo2 lo.length clo2) (.slice ahi2 hi.length chi2) vT vD (.slice aC C.length cC) L O K lo hi T D C bx w10.heap.size hb ab nb cb im vh va vl vo vi from
      ⟨HI10.out.below hal, HX10.out.below HX10.out.lt hal, HH10.out.below hal, by rw [World.cell?_alloc_at _ _ _ _ rfl]; rfl⟩)
    have HBr := hide (Below.then HB10.out hal)
    have mC : C.length ≤ 1099511627776 := by omega
    have mC' : C.length ≤ 8192 := by omega
    clear hal HH10 HX10 HI10 HB10
    generalize hxe : w10.heap.size = hx at *
    clear hxe
    obtain ⟨wA, hwA⟩ : ∃ wA, wA = w10.alloc (.cells #[.pointer (some ⟨hb, 0, none⟩)] 32) := ⟨_, rfl⟩
    rw [← hwA] at RD HBr
    rw [← hwA]
    clear hwA
    have hmkC := make_run 22 9 1 16 _ Try.underlying22 Try.info9 (by omega) C.length (by omega)
    go_cut [25] (fun s wx => ∃ g cs, s = .slice (some ⟨g, 0, none⟩) C.length C.length ∧ Row wx g 9 cs ∧ cs.length = C.length ∧ wA.heap.size ≤ g ∧ Below wA.heap.size wA wx)
    case first => as_aux_lemma =>
      go_wp2
      go_meet
      case rel =>
        obtain ⟨cs, hr, hl⟩ := made_row wA (madeCells #[.string ByteArray.empty] (C.length * 1)) 9
        exact ⟨_, cs, rfl, by simpa using hr, by rw [hl, size_madeCells]; omega, Nat.le_refl _, (Below.refl _ _).alloc (Nat.le_refl _) _⟩
    case rest => as_aux_lemma =>
    obtain ⟨g, cs0, rfl, hr0, hl0, hg0, hbb⟩ := hcut
    have HR0 := hide hr0
    have HL0 := hide hl0
    have HG0 := hide hg0
    have BA := hide hbb
    clear hr0 hl0 hg0 hbb hmkC
    rename World => w11
    obtain ⟨aC', cC', hCe, hcC', hcellC⟩ := Sl.open1 (show Sl wA (.slice aC C.length cC) 1 C.length (C.map Value.string) from RD.out.ins.iC)
    cases hCe
    have HCC := hide hcellC
    clear hcellC
    go_wp2_with fail
    go_loopw [26] (fun i wr => ∃ (k : Nat) (cs : List Value), k ≤ C.length ∧ i = .int .i64 k ∧ Row wr g 9 cs ∧ cs.length = C.length ∧ cs.take k = (C.reverse.take k).map Value.string ∧ Below wA.heap.size wA wr ) (fun i _ => C.length - (intOf i).toNat)
    case atStart => exact ⟨0, cs0, Nat.zero_le _, rfl, HR0.out, HL0.out, by simp, BA.out⟩
    case round =>
    obtain ⟨k, cs, hk, rfl, hr, hl, ht, hbel⟩ := hrel
    have HR := hide hr
    have HLc := hide hl
    have HT := hide ht
    have HBe := hide hbel
    clear hr hl ht hbel
    by_cases hlt : k < C.length
    · as_aux_lemma =>
      obtain ⟨j, hj⟩ : ∃ j, C.length = k + 1 + j := ⟨C.length - k - 1, by omega⟩
      obtain ⟨z, hz⟩ := get_of_lt (l := C) (k := j) rfl (by omega)
      obtain ⟨b, off, hab, hbl, hc⟩ := HCC.out j z hz
      subst hab
      have hcr : wr.cell? ⟨b, off + j, none⟩ = some (.string z) := (HBe.out.cell (p := ⟨b, off + j, none⟩) hbl).trans hc
      obtain ⟨o, ho⟩ := get_of_lt (k := k) HLc.out hlt
      have hco : wr.cell? ⟨g, k, none⟩ = some o := (HR.out.cell k).trans ho
      have hfo : wr.frozen? ⟨g, k, none⟩ = false := HR.out.frozen k
      have hjz : ((C.length : Int) - 1 - (k : Int)) = (j : Int) := by omega
      have hjl : j < C.length := by omega
      have HZ := hide hz
      clear hz ho hc hbl
      go_wp2
      go_roundw
      case rel =>
        refine ⟨k + 1, cs.set k (.string z), by omega, by go_num, HR.out.set k _, by simpa using HLc.out, ?_, HBe.out.setCell HG0.out _⟩
        have hzr : C.reverse[k]? = some z := by
          rw [List.getElem?_reverse hlt, show C.length - 1 - k = j by omega]
          exact HZ.out
        rw [set_take1 _ HT.out (by rw [HLc.out]; exact hlt), take_snoc hzr]; simp
      case measure => simp [intOf]; omega
    · as_aux_lemma =>
      have HREV := hide (show Strs wr (.slice (some ⟨g, 0, none⟩) C.length C.length) C.reverse from by
        have h1 := HT.out
        rw [take_all (l := C.reverse) (n := C.length) (by simp) (by omega), take_all HLc.out (by omega)] at h1
        have := HR.out.sl (size := 1) (n := C.length) (by rw [HLc.out]; omega)
        unfold Strs
        rw [← h1, List.length_reverse]
        exact this)
      have R12 := hide (RD.out.below HBe.out)
      have B12 := hide (Below.then HBr.out HBe.out)
      clear HR HLc HT HBe HCC RD HBr HR0 HL0 HG0 BA
      obtain ⟨i0, hii, hz0, hz1, hz2⟩ := info_parts Try.info9
      go_wp2_with (at_make; refine wpList_make_own _ rfl _ _ 22 rfl wr.heap.size 9 i0 (.string ByteArray.empty) 1 Try.underlying22 hii hz0 hz1 _ _ _ (2 * C.length) rfl rfl (by omega) (by rw [hz2]; omega) (by unfold maxLen; omega) (Nat.le_refl _) ?_)
      intro wm hown hgr
      have hbm : Below wr.heap.size wr wm := (Below.refl _ _).grown hgr (Nat.le_refl _) (fun q hq => by cases hq)
      have HC1 := hide (R12.out.ins.iC.below hbm)
      go_wp2_with (at_builtin; refine wpList_append_sl _ rfl _ _ 22 rfl wr.heap.size 9 (.string ByteArray.empty) 1 16 Try.underlying22 Try.info9 rfl (by omega) _ 0 [] rfl hown _ C.length (C.map Value.string) rfl HC1.out (fun u hu => by obtain ⟨s, _, rfl⟩ := List.mem_map.1 hu; rfl) (by unfold maxLen; omega) (by omega) hbm.size ?_)
      intro v1 wn hown1 hgr1 hat1
      have hbn : Below wr.heap.size wr wn := hbm.grown hgr1 hbm.size (fun q hq => (ownsRow_lt hown q hq).1)
      have HOWN1 := hide (show wn.ownsRow wr.heap.size 9 1 v1 C.length (C.map Value.string) by simpa using hown1)
      have HC2 := hide (R12.out.ins.iC.below hbn)
      clear HC1
      go_wp2_with (at_builtin; refine wpList_append_sl _ rfl _ _ 22 rfl wr.heap.size 9 (.string ByteArray.empty) 1 16 Try.underlying22 Try.info9 rfl (by omega) _ C.length (C.map Value.string) rfl HOWN1.out _ C.length (C.map Value.string) rfl HC2.out (fun u hu => by obtain ⟨s, _, rfl⟩ := List.mem_map.1 hu; rfl) (by unfold maxLen; omega) (by omega) hbn.size ?_)
      intro v2 wo hown2 hgr2 hat2
      have hbo : Below wr.heap.size wr wo := hbn.grown hgr2 hbn.size (fun q hq => (ownsRow_lt HOWN1.out q hq).1)
      have HTW := hide (show Strs wo v2 (C ++ C) from by
        have := ownsRow_sl hown2
        unfold Strs
        simpa using this)
      have HRV := hide (HREV.out.below hbo)
      have R13 := hide (R12.out.below hbo)
      have B13 := hide (Below.then B12.out hbo)
      have mR : C.reverse.length ≤ 1099511627776 := by rw [List.length_reverse]; exact mC
      have mR' : C.reverse.length ≤ 8192 := by rw [List.length_reverse]; exact mC'
      have mT2 : (C ++ C).length ≤ 1099511627776 := by rw [List.length_append]; omega
      have mT2' : (C ++ C).length ≤ 8192 := by rw [List.length_append]; omega
      clear hown hgr hbm HC2 hown1 hgr1 hat1 hbn hown2 hgr2 hat2 hbo HREV HOWN1 R12 B12 hii hz0 hz1 hz2
      go_wp2_with fail
      refine (split_any bx _ L (C) wo R13.out.index R13.out.ins.iC mC' nL).mono ?_
      rintro e w11s ⟨vs1, vs2, rfl, hs1, hs2, hbs⟩
      obtain ⟨as1, ns1, cs1, rfl⟩ := hs1.lay
      obtain ⟨as2, ns2, cs2, rfl⟩ := hs2.lay
      have HS1 := hide hs1
      have HS2 := hide hs2
      have R14 := hide (R13.out.below hbs)
      have B14 := hide (Below.then B13.out hbs)
      have HTW1 := hide (HTW.out.below hbs)
      have HRV1 := hide (HRV.out.below hbs)
      clear hs1 hs2 hbs R13 B13 HTW HRV
      go_upto_region 30 with fail
      go_cut [30, 31] (fun s t wx => ViaIn (accL (lookL L O K (lo.zip hi) T) (C)) D s t wx ∧ Below w11s.heap.size w11s wx)
      case first => as_aux_lemma =>
        go_region_held3 (fun w' => w'.cell? ⟨hx, 0, none⟩ = some (.pointer (some ⟨hb, 0, none⟩)))
          (first | exact (R14.out.below N3.out).box | exact (R14.out.below N2.out).box | exact (R14.out.below N1.out).box | exact R14.out.box)
          (first
            | (go_at_call 24; refine (names_any _ (C) _ ?_ ?_).mono ?_; exact R14.out.ins.iC; exact mC; rintro e x1 ⟨y1, rfl, hy1, hz1⟩; obtain ⟨ay1, ny1, cy1, rfl⟩ := hy1.lay; have N1 := hide (Below.then ((Below.refl w11s.heap.size w11s).drew) hz1); clear hy1 hz1)
            | (go_at_call 30; refine (newCondition_any _ _ _ _ _ _ _ _ _ _ _).mono ?_; rintro e x2 ⟨rfl, hz2⟩; have N2 := hide (Below.then N1.out hz2); clear hz2)
            | (go_at_call 36; refine (via_same (R14.out.below N2.out) HF.out nL (by omega) (by omega) (by omega) nT nD (C) mC' _ _ _ _ _ _ _ _ _ (HS1.out.below N2.out) (HS2.out.below N2.out)).mono ?_; rintro e x3 ⟨hr3, hz3⟩; obtain ⟨ar, nr, cr, br, rfl, hr⟩ := ViaRes.as hr3; have N3 := hide (Below.then N2.out hz3); have NR := hide hr; clear hr3 hz3 hr))
        all_goals
          go_wp2_with fail
          go_meet
          case rel => exact ⟨NR.out.cut, N3.out⟩
      case rest => as_aux_lemma =>
      obtain ⟨hch, hbb⟩ := hcut
      obtain ⟨a1, n1, d1, b1, rfl, rfl, hq⟩ := hch.as
      rename World => wr1
      have Q1 := hide hq
      have R15 := hide (R14.out.below hbb)
      have B15 := hide (Below.then B14.out hbb)
      have HTW := hide (HTW1.out.below hbb)
      have HRV := hide (HRV1.out.below hbb)
      clear hch hbb hq R14 B14 HTW1 HRV1 HS1 HS2
      go_wp2_with fail
      refine (split_any bx _ L (C.reverse) wr1 R15.out.index HRV.out mR' nL).mono ?_
      rintro e w12s ⟨vs1, vs2, rfl, hs1, hs2, hbs⟩
      obtain ⟨as1, ns1, cs1, rfl⟩ := hs1.lay
      obtain ⟨as2, ns2, cs2, rfl⟩ := hs2.lay
      have HS1 := hide hs1
      have HS2 := hide hs2
      have R16 := hide (R15.out.below hbs)
      have B16 := hide (Below.then B15.out hbs)
      have Q1a := hide (Q1.out.below hbs)
      have HTW1 := hide (HTW.out.below hbs)
      have HRV1 := hide (HRV.out.below hbs)
      clear hs1 hs2 hbs R15 B15 Q1 HTW HRV
      go_upto_region 32 with fail
      go_cut [34, 35] (fun s t wx => ViaIn (accL (lookL L O K (lo.zip hi) T) (C.reverse)) D s t wx ∧ Below w12s.heap.size w12s wx)
      case first => as_aux_lemma =>
        go_region_held3 (fun w' => w'.cell? ⟨hx, 0, none⟩ = some (.pointer (some ⟨hb, 0, none⟩)))
          (first | exact (R16.out.below N3.out).box | exact (R16.out.below N2.out).box | exact (R16.out.below N1.out).box | exact R16.out.box)
          (first
            | (go_at_call 24; refine (names_any _ (C.reverse) _ ?_ ?_).mono ?_; exact HRV1.out; exact mR; rintro e x1 ⟨y1, rfl, hy1, hz1⟩; obtain ⟨ay1, ny1, cy1, rfl⟩ := hy1.lay; have N1 := hide (Below.then ((Below.refl w12s.heap.size w12s).drew) hz1); clear hy1 hz1)
            | (go_at_call 30; refine (newCondition_any _ _ _ _ _ _ _ _ _ _ _).mono ?_; rintro e x2 ⟨rfl, hz2⟩; have N2 := hide (Below.then N1.out hz2); clear hz2)
            | (go_at_call 36; refine (via_same (R16.out.below N2.out) HF.out nL (by omega) (by omega) (by omega) nT nD (C.reverse) mR' _ _ _ _ _ _ _ _ _ (HS1.out.below N2.out) (HS2.out.below N2.out)).mono ?_; rintro e x3 ⟨hr3, hz3⟩; obtain ⟨ar, nr, cr, br, rfl, hr⟩ := ViaRes.as hr3; have N3 := hide (Below.then N2.out hz3); have NR := hide hr; clear hr3 hz3 hr))
        all_goals
          go_wp2_with fail
          go_meet
          case rel => exact ⟨NR.out.cut, N3.out⟩
      case rest => as_aux_lemma =>
      obtain ⟨hch, hbb⟩ := hcut
      obtain ⟨a2, n2, d2, b2, rfl, rfl, hq⟩ := hch.as
      rename World => wr2
      have Q2 := hide hq
      have R17 := hide (R16.out.below hbb)
      have B17 := hide (Below.then B16.out hbb)
      have Q1 := hide (Q1a.out.below hbb)
      have HTW := hide (HTW1.out.below hbb)
      clear hch hbb hq R16 B16 Q1a HTW1 HS1 HS2 HRV1
      go_wp2_with fail
      refine (split_any bx _ L (C ++ C) wr2 R17.out.index HTW.out mT2' nL).mono ?_
      rintro e w13s ⟨vs1, vs2, rfl, hs1, hs2, hbs⟩
      obtain ⟨as1, ns1, cs1, rfl⟩ := hs1.lay
      obtain ⟨as2, ns2, cs2, rfl⟩ := hs2.lay
      have HS1 := hide hs1
      have HS2 := hide hs2
      have R18 := hide (R17.out.below hbs)
      have B18 := hide (Below.then B17.out hbs)
      have Q1a := hide (Q1.out.below hbs)
      have Q2a := hide (Q2.out.below hbs)
      have HTW1 := hide (HTW.out.below hbs)
      clear hs1 hs2 hbs R17 B17 Q1 Q2 HTW
      go_upto_region 34 with fail
      go_cut [38, 39] (fun s t wx => ViaIn (accL (lookL L O K (lo.zip hi) T) (C ++ C)) D s t wx ∧ Below w13s.heap.size w13s wx)
      case first => as_aux_lemma =>
        go_region_held3 (fun w' => w'.cell? ⟨hx, 0, none⟩ = some (.pointer (some ⟨hb, 0, none⟩)))
          (first | exact (R18.out.below N3.out).box | exact (R18.out.below N2.out).box | exact (R18.out.below N1.out).box | exact R18.out.box)
          (first
            | (go_at_call 24; refine (names_any _ (C ++ C) _ ?_ ?_).mono ?_; exact HTW1.out; exact mT2; rintro e x1 ⟨y1, rfl, hy1, hz1⟩; obtain ⟨ay1, ny1, cy1, rfl⟩ := hy1.lay; have N1 := hide (Below.then ((Below.refl w13s.heap.size w13s).drew) hz1); clear hy1 hz1)
            | (go_at_call 30; refine (newCondition_any _ _ _ _ _ _ _ _ _ _ _).mono ?_; rintro e x2 ⟨rfl, hz2⟩; have N2 := hide (Below.then N1.out hz2); clear hz2)
            | (go_at_call 36; refine (via_same (R18.out.below N2.out) HF.out nL (by omega) (by omega) (by omega) nT nD (C ++ C) mT2' _ _ _ _ _ _ _ _ _ (HS1.out.below N2.out) (HS2.out.below N2.out)).mono ?_; rintro e x3 ⟨hr3, hz3⟩; obtain ⟨ar, nr, cr, br, rfl, hr⟩ := ViaRes.as hr3; have N3 := hide (Below.then N2.out hz3); have NR := hide hr; clear hr3 hz3 hr))
        all_goals
          go_wp2_with fail
          go_meet
          case rel => exact ⟨NR.out.cut, N3.out⟩
      case rest => as_aux_lemma =>
      obtain ⟨hch, hbb⟩ := hcut
      obtain ⟨a3, n3, d3, b3, rfl, rfl, hq⟩ := hch.as
      rename World => wr3
      have Q3 := hide hq
      have R19 := hide (R18.out.below hbb)
      have B19 := hide (Below.then B18.out hbb)
      have Q1 := hide (Q1a.out.below hbb)
      have Q2 := hide (Q2a.out.below hbb)
      clear hch hbb hq R18 B18 Q1a Q2a HS1 HS2 HTW1
      go_wp2_with fail
      refine (model_chain bx _ _ _ _ _ _ L O K lo hi T D C wr3 R19.out.index R19.out.ins.iO R19.out.ins.iK R19.out.ins.ilo R19.out.ins.ihi R19.out.ins.iT R19.out.ins.iC HF.out nL (by omega) (by omega) (by omega) nT mC' WO.out).mono ?_
      rintro e w20 ⟨hr5, hb19⟩
      obtain ⟨a5, n5, d5, b5, rfl, hq5⟩ := ChainRes.as hr5
      have e2 := acc_same_members HF.out (E := C.reverse) (F := C) (fun s => List.mem_reverse)
      have e3 := acc_same_members HF.out (E := C ++ C) (F := C) (fun s => by simp)
      have hq1 := Q1.out.below hb19
      have hq2 := Q2.out.below hb19
      have hq3 := Q3.out.below hb19
      rw [e2] at hq2
      rw [e3] at hq3
      obtain rfl : b5 = b1 := hq5.1.trans hq1.1.symm
      obtain rfl : b2 = b5 := hq2.1.trans hq1.1.symm
      obtain rfl : b3 = b2 := hq3.1.trans hq1.1.symm
      have hn1 : b3 = false → n1 = 0 := fun h => by
        have h1 := hq1.1
        have h2 := hq1.2.1
        cases hr : accL (lookL L O K (lo.zip hi) T) C with
        | none => rw [hr] at h2; exact h2
        | some l => rw [hr, h] at h1; cases h1
      have hl := accL_short (L := L) (O := O) (A := lo.zip hi) (T := T) (K := K) (E := C) (by omega) mC'
      have hs1 := hide (fun q => sameStrings_eq (.slice a2 n2 d2) (.slice a1 n1 d1) _ (w20.drewN q) (hq2.2.2.drewN q) (hq1.2.2.drewN q) (by rw [idsL_length]; exact hl))
      have hs2 := hide (fun q => sameStrings_eq (.slice a3 n3 d3) (.slice a1 n1 d1) _ (w20.drewN q) (hq3.2.2.drewN q) (hq1.2.2.drewN q) (by rw [idsL_length]; exact hl))
      have B20 := hide (Below.then B19.out hb19)
      clear hr5 hb19 hq5 hq1 hq2 hq3 e2 e3 hl Q1 Q2 Q3 R19 B19 mT2 mT2' mR mR'
      cases b3
      · obtain rfl := hn1 rfl
        go_wp2_with fail
        refine (hs1.out 0).mono ?_
        rintro e w21 ⟨rfl, q21, rfl⟩
        go_wp2_with fail
        refine (hs2.out _).mono ?_
        rintro e w22 ⟨rfl, q22, rfl⟩
        go_wp2
        go_ret
        exact ⟨rfl, below_drewN B20.out _⟩
      · clear hn1
        go_wp2_with fail
        refine (hs1.out 0).mono ?_
        rintro e w21 ⟨rfl, q21, rfl⟩
        go_wp2_with fail
        refine (hs2.out _).mono ?_
        rintro e w22 ⟨rfl, q22, rfl⟩
        go_wp2
        go_ret
        exact ⟨rfl, below_drewN B20.out _⟩

end Go.Proofs.Qxb6608735a
