import Derived.Test.Qxb6608735aTop4
import Derived.Test.Qxb6608735aW19
import Derived.Deep.CutBlock
import Derived.Deep.DeepCutAuto
import Derived.Deep.RegionHeld3
import Derived.Maps.RangeWalk
import Derived.Carry
namespace Go.Proofs.Qxb6608735a
open Go.RowKit
set_option linter.unusedVariables false

set_option maxHeartbeats 40000000 in
set_option maxRecDepth 100000 in
theorem law9 (vL vO vK vlo vhi vT vD vC : Value) (L : List ByteArray) (O K lo hi : List Int) (T D C : List ByteArray) (w : World)
    (hL : Strs w vL L) (hO : I32s w vO O) (hK : I64s w vK K) (hlo : I32s w vlo lo) (hhi : I32s w vhi hi) (hT : Strs w vT T) (hD : Strs w vD D) (hC : Strs w vC C)
    (zL : ∀ s ∈ L, s.size ≤ maxLen) (zT : ∀ s ∈ T, s.size ≤ maxLen) (zD : ∀ s ∈ D, s.size ≤ maxLen) (zC : ∀ s ∈ C, s.size ≤ maxLen)
    (mL : L.length ≤ 9223372036854775807) (mO : O.length ≤ 9223372036854775807) (mK : K.length ≤ 9223372036854775807) (mlo : lo.length ≤ 9223372036854775807) (mhi : hi.length ≤ 9223372036854775807) (mT : T.length ≤ 9223372036854775807) (mD : D.length ≤ 9223372036854775807) (mC : C.length ≤ 9223372036854775807)
    (wO : ∀ o ∈ O, -2147483648 ≤ o ∧ o ≤ 2147483647) (wlo : ∀ o ∈ lo, -2147483648 ≤ o ∧ o ≤ 2147483647) (whi : ∀ o ∈ hi, -2147483648 ≤ o ∧ o ≤ 2147483647) :
    Calls Try.prog 9 #[vL, vO, vK, vlo, vhi, vT, vD, vC] w fun e w' => Yes w e w' := by
  have HL := hide hL
  have HO := hide hO
  have HK := hide hK
  have Hlo := hide hlo
  have Hhi := hide hhi
  have HT := hide hT
  have HD := hide hD
  have HC := hide hC
  have HB33 := hide (bytes39 vL vO vK vlo vhi vT vD vC w L hL mL zL O hO mO K hK mK lo hlo mlo hi hhi mhi T hT mT zT D hD mD zD C hC mC zC)
  obtain ⟨aO, cO, rfl, hcO, jO⟩ := hO.open1
  obtain ⟨aK, cK, rfl, hcK, jK⟩ := hK.open1
  obtain ⟨alo, clo, rfl, hclo, jlo⟩ := hlo.open1
  obtain ⟨ahi, chi, rfl, hchi, jhi⟩ := hhi.open1
  obtain ⟨aC, cC, rfl, hcC, jC⟩ := hC.open1
  have ZL := hide zL
  have ZT := hide zT
  have ZD := hide zD
  have ZC := hide zC
  have WO := hide wO
  have Wlo := hide wlo
  have Whi := hide whi
  clear hL hO hK hlo hhi hT hD hC jO jK jlo jhi jC zL zT zD zC wO wlo whi
  go_enter Try.func9, Try.ntmps9
  go_wp2_with fail
  refine HB33.out.mono ?_
  rintro e w1 ⟨b, rfl, rfl, hb⟩
  clear HB33
  cases b with
  | false =>
    go_wp2
    go_ret
    exact ⟨rfl, Below.refl _ _⟩
  | true =>
    obtain ⟨bL, bT, bD, bC⟩ := hb rfl
    clear hb
    by_cases c1 : 4096 < O.length
    · go_wp2
      go_ret
      exact ⟨rfl, Below.refl _ _⟩
    by_cases c2 : 4096 < K.length
    · go_wp2
      go_ret
      exact ⟨rfl, Below.refl _ _⟩
    by_cases c3 : 4096 < lo.length
    · go_wp2
      go_ret
      exact ⟨rfl, Below.refl _ _⟩
    by_cases c4 : 4096 < hi.length
    · go_wp2
      go_ret
      exact ⟨rfl, Below.refl _ _⟩
    go_wp2_with fail
    refine (strBytes_any vL L _ w1 HL.out (by omega) ZL.out (by omega) (by omega)).mono ?_
    rintro e w2 ⟨t1, rfl, rfl, p1, p1', q1⟩
    go_wp2_with fail
    refine (strBytes_any vT T _ w2 HT.out (by omega) ZT.out (by omega) (by omega)).mono ?_
    rintro e w1 ⟨t2, rfl, rfl, p2, p2', q2⟩
    go_wp2_with fail
    refine (strBytes_any vD D _ w1 HD.out (by omega) ZD.out (by omega) (by omega)).mono ?_
    rintro e w2 ⟨t3, rfl, rfl, p3, p3', q3⟩
    go_wp2_with fail
    refine (strBytes_any _ C _ w2 HC.out (by omega) ZC.out (by omega) (by omega)).mono ?_
    rintro e w1 ⟨t4, rfl, rfl, p4, p4', q4⟩
    by_cases c5 : 1048576 < t4
    · go_wp2
      go_ret
      exact ⟨rfl, Below.refl _ _⟩
    have c5' : t4 ≤ 1048576 := by omega
    obtain ⟨nC, r4⟩ := q4 c5'
    obtain ⟨nD, r3⟩ := q3 (by omega)
    obtain ⟨nT, r2⟩ := q2 (by omega)
    obtain ⟨nL, r1⟩ := q1 (by omega)
    clear q1 q2 q3 q4 bL bT bD bC mL mO mK mlo mhi mT mD mC c5' ZL ZT ZD ZC
    go_upto_if 84 with fail
    have hmk := make_run 41 21 1 4 _ Try.underlying41 Try.info21 (by omega)
    have hmklo := hmk lo.length (by omega)
    have hmkhi := hmk hi.length (by omega)
    clear hmk
    go_cut [3] (fun s wx => ∃ a c, s = .slice a lo.length c ∧ lo.length ≤ c ∧ I32s wx s lo ∧ Below w1.heap.size w1 wx)
    case first => as_aux_lemma =>
      cases alo with
      | none =>
        go_wp2
        go_meet
        case rel => exact ⟨_, _, rfl, hclo, Hlo.out, Below.refl _ _⟩
      | some x =>
        obtain ⟨cs, hr, hl⟩ := made_row w1 (madeCells #[Value.int .i32 0] lo.length) 21
        rw [size_madeCells] at hl
        have HR := hide hr
        have HLc := hide hl
        clear hr hl
        go_wp2_with (refine wpList_copy_i32 rfl _ _ rfl w1.heap.size lo.length cs (by exact HR.out) HLc.out (some x) clo lo rfl (Hlo.out.below ((Below.refl _ _).alloc (Nat.le_refl _) _)) rfl rfl w1.heap.size w1 ((Below.refl _ _).alloc (Nat.le_refl _) _) (Nat.le_refl _) ?_; intro w2 hi2 hb2; have HI2 := hide hi2; have HB2 := hide hb2; clear hi2 hb2)
        go_meet
        case rel => exact ⟨_, _, rfl, Nat.le_refl _, HI2.out, HB2.out⟩
    case rest => as_aux_lemma =>
    obtain ⟨alo2, clo2, rfl, hclo2, hlo2, hb2⟩ := hcut
    have Hlo2 := hide hlo2
    have HB2 := hide hb2
    clear hlo2 hb2
    go_upto_if 93 with fail
    go_cut [4] (fun s wx => ∃ a c, s = .slice a hi.length c ∧ hi.length ≤ c ∧ I32s wx s hi ∧ Below wc.heap.size wc wx)
    case first => as_aux_lemma =>
      cases ahi with
      | none =>
        go_wp2
        go_meet
        case rel => exact ⟨_, _, rfl, hchi, Hhi.out.below HB2.out, Below.refl _ _⟩
      | some x =>
        obtain ⟨cs, hr, hl⟩ := made_row wc (madeCells #[Value.int .i32 0] hi.length) 21
        rw [size_madeCells] at hl
        have HR := hide hr
        have HLc := hide hl
        clear hr hl
        go_wp2_with (refine wpList_copy_i32 rfl _ _ rfl wc.heap.size hi.length cs (by exact HR.out) HLc.out (some x) chi hi rfl ((Hhi.out.below HB2.out).below ((Below.refl _ _).alloc (Nat.le_refl _) _)) rfl rfl wc.heap.size wc ((Below.refl _ _).alloc (Nat.le_refl _) _) (Nat.le_refl _) ?_; intro w2 hi2 hb2; have HI2 := hide hi2; have HB3 := hide hb2; clear hi2 hb2)
        go_meet
        case rel => exact ⟨_, _, rfl, Nat.le_refl _, HI2.out, HB3.out⟩
    case rest => as_aux_lemma =>
    obtain ⟨ahi2, chi2, rfl, hchi2, hhi2, hb3⟩ := hcut
    have HB := hide (Below.then HB2.out hb3)
    have HI := hide (show Inputs wc vL (.slice aO O.length cO) (.slice aK K.length cK) (.slice alo2 lo.length clo2) (.slice ahi2 hi.length chi2) vT vD (.slice aC C.length cC) L O K lo hi T D C from
      ⟨HL.out.below HB.out, HO.out.below HB.out, HK.out.below HB.out, Hlo2.out.below hb3, hhi2, HT.out.below HB.out, HD.out.below HB.out, HC.out.below HB.out⟩)
    clear hhi2 hb3 Hlo2 HB2 HL HO HK Hlo Hhi HT HD HC hmklo hmkhi hclo hchi
    go_wp2_with fail
    refine (premise_any _ _ _ _ _ _ _ L O K lo hi T D wc HI.out.iL HI.out.iO HI.out.iK HI.out.ilo HI.out.ihi HI.out.iT HI.out.iD nL (by omega) (by omega) (by omega) (by omega) nT nD WO.out Wlo.out Whi.out).mono ?_
    rintro e w2 ⟨⟨hf, bx, rfl, hx, hbx⟩ | rfl, hb2⟩
    case inr =>
      have HB2 := hide (Below.then HB.out hb2)
      clear hb2
      go_wp2
      go_ret
      exact ⟨rfl, HB2.out⟩
    case inl =>
    have HF := hide hf
    have HX := hide hx
    have HI2 := hide (HI.out.below hb2)
    have HB2 := hide (Below.then HB.out hb2)
    clear hf hx hbx hb2 HI HB
    go_wp2_with fail
    refine (held_any _ O w2 HI2.out.iO (by omega)).mono ?_
    rintro e w3 ⟨vp, vw, rfl, hp, hw, hb3⟩
    have HP := hide hp
    have HW := hide hw
    have HX3 := hide (HX.out.below HX.out.lt hb3)
    have HI3 := hide (HI2.out.below hb3)
    have HB3 := hide (Below.then HB2.out hb3)
    clear hp hw hb3 HX HI2 HB2
    go_wp2_with fail
    refine (names_any _ L w3 HI3.out.iL (by omega)).mono ?_
    rintro e w4 ⟨vn, rfl, hn, hb4⟩
    obtain ⟨an, cn, rfl, hcn, jn⟩ := hn.opened
    have HP4 := hide (HP.out.below hb4)
    have HW4 := hide (HW.out.below hb4)
    have HX4 := hide (HX3.out.below HX3.out.lt hb4)
    have HI4 := hide (HI3.out.below hb4)
    have HB4 := hide (Below.then HB3.out hb4)
    clear hn hb4 hcn jn HP HW HX3 HI3 HB3
    go_wp2_with fail
    refine (nameIndex_any _ L w4 HI4.out.iL (by omega) HF.out.nodup).mono ?_
    rintro e w5 ⟨im, rfl, him, himb, hb5⟩
    have HM5 := hide him
    have HP5 := hide (HP4.out.below hb5)
    have HW5 := hide (HW4.out.below hb5)
    have HX5 := hide (HX4.out.below HX4.out.lt hb5)
    have HI5 := hide (HI4.out.below hb5)
    have HB5 := hide (Below.then HB4.out hb5)
    clear him himb hb5 HP4 HW4 HX4 HI4 HB4
    go_wp2_with fail
    refine (newAtoms_row _ _ _ _ w5).mono ?_
    rintro e w6 ⟨ab, rfl, hra, hab, hb6⟩
    have HRA6 := hide hra
    have HM6 := hide (HM5.out.below HM5.out.lt hb6)
    have HP6 := hide (HP5.out.below hb6)
    have HW6 := hide (HW5.out.below hb6)
    have HX6 := hide (HX5.out.below HX5.out.lt hb6)
    have HI6 := hide (HI5.out.below hb6)
    have HB6 := hide (Below.then HB5.out hb6)
    clear hra hab hb6 HM5 HP5 HW5 HX5 HI5 HB5
    go_wp2_with fail
    refine (copyStrings_any _ D w6 HI6.out.iD (by omega)).mono ?_
    rintro e w7 ⟨vi, rfl, hvi, hb7⟩
    have HVI7 := hide hvi
    have HRA7 := hide (HRA6.out.below HRA6.out.lt hb7)
    have HM7 := hide (HM6.out.below HM6.out.lt hb7)
    have HP7 := hide (HP6.out.below hb7)
    have HW7 := hide (HW6.out.below hb7)
    have HX7 := hide (HX6.out.below HX6.out.lt hb7)
    have HI7 := hide (HI6.out.below hb7)
    have HB7 := hide (Below.then HB6.out hb7)
    clear hvi hb7 HRA6 HM6 HP6 HW6 HX6 HI6 HB6
    go_wp2_with fail
    refine (copyInt64_any _ K w7 HI7.out.iK (by omega)).mono ?_
    rintro e w8 ⟨vl, rfl, hvl, hb8⟩
    have HVL8 := hide hvl
    have HVI8 := hide (HVI7.out.below hb8)
    have HRA8 := hide (HRA7.out.below HRA7.out.lt hb8)
    have HM8 := hide (HM7.out.below HM7.out.lt hb8)
    have HP8 := hide (HP7.out.below hb8)
    have HW8 := hide (HW7.out.below hb8)
    have HX8 := hide (HX7.out.below HX7.out.lt hb8)
    have HI8 := hide (HI7.out.below hb8)
    have HB8 := hide (Below.then HB7.out hb8)
    clear hvl hb8 HVI7 HRA7 HM7 HP7 HW7 HX7 HI7 HB7
    go_wp2_with fail
    refine (names_any _ T w8 HI8.out.iT (by omega)).mono ?_
    rintro e w9 ⟨vo, rfl, hvo, hb9⟩
    have HVO9 := hide hvo
    have HVL9 := hide (HVL8.out.below hb9)
    have HVI9 := hide (HVI8.out.below hb9)
    have HRA9 := hide (HRA8.out.below HRA8.out.lt hb9)
    have HM9 := hide (HM8.out.below HM8.out.lt hb9)
    have HP9 := hide (HP8.out.below hb9)
    have HW9 := hide (HW8.out.below hb9)
    have HX9 := hide (HX8.out.below HX8.out.lt hb9)
    have HI9 := hide (HI8.out.below hb9)
    have HB9 := hide (Below.then HB8.out hb9)
    clear hvo hb9 HVL8 HVI8 HRA8 HM8 HP8 HW8 HX8 HI8 HB8
    have hzl : (lo.zip hi).length = lo.length := by rw [List.length_zip, HF.out.even]; omega
    go_wp2_with fail
    refine (newHolding_any ab im L O K (lo.zip hi) T D _ _ _ _ _ _ _ _ w9 ((HRA9.out.cell 1).trans rfl) HM9.out HRA9.out HVI9.out HP9.out HW9.out (by rw [zip_fst HF.out.even]; exact HI9.out.ilo) (by rw [zip_snd HF.out.even]; exact HI9.out.ihi) HVL9.out HVO9.out (by omega) (by omega)).mono ?_
    rintro e w10 ⟨hb, nb, cb, vh, va, rfl, hhold, hb10⟩
    have HH10 := hide hhold
    have HX10 := hide (HX9.out.below HX9.out.lt hb10)
    have HI10 := hide (HI9.out.below hb10)
    have HB10 := hide (Below.then HB9.out hb10)
    clear hhold hb10 hzl HVO9 HVL9 HVI9 HRA9 HM9 HP9 HW9 HX9 HI9 HB9
    go_upto_region 21 with fail
    have hal : Below w10.heap.size w10 (w10.alloc (.cells #[.pointer (some ⟨hb, 0, none⟩)] 32)) := (Below.refl _ _).alloc (Nat.le_refl _) _
    have RD := hide (show Ready (w10.alloc (.cells #[.pointer (some ⟨hb, 0, none⟩)] 32)) vL (.slice aO O.length cO) (.slice aK K.length cK) (.slice alo2 lo.length clo2) (.slice ahi2 hi.length chi2) vT vD (.slice aC C.length cC) L O K lo hi T D C bx w10.heap.size hb ab nb cb im vh va vl vo vi from
      ⟨HI10.out.below hal, HX10.out.below HX10.out.lt hal, HH10.out.below hal, by rw [World.cell?_alloc_at _ _ _ _ rfl]; rfl⟩)
    have HBr := hide (Below.then HB10.out hal)
    have mC : C.length ≤ 1099511627776 := by omega
    have mC' : C.length ≤ 8192 := by omega
    clear hal HH10 HX10 HI10 HB10
    generalize hxe : w10.heap.size = hx at *
    clear hxe
    have hbox := RD.out.box
    go_wp2_with fail
    clear hbox
    refine (newKept_at hb _).mono ?_
    rintro e w11 ⟨kb, rfl, hk, hb11⟩
    have HK := hide hk
    clear hk
    have R11 := hide (RD.out.below hb11)
    have B11 := hide (Below.then HBr.out hb11)
    clear hb11  RD HBr
    have hmap := fun (w : World) => run_makeMap (P := Try.prog) 50 w
    go_wp2_with fail
    clear hmap
    have hal : Below w11.heap.size w11 (w11.alloc (.map #[] 0)) := (Below.refl _ _).alloc (Nat.le_refl _) _
    refine (newAtoms_row _ _ _ _ _).mono ?_
    rintro e we ⟨cab, rfl, hcr, hcab, hbe⟩
    have hbb := Below.then hal hbe
    have hne : Hid (ab ≠ cab) := by
      have h1 : ab < w11.heap.size := cell_lt R11.out.hold.index
      have h2 := hal.size
      show ab ≠ cab
      omega
    have HCR := hide hcr
    have R12 := hide (R11.out.below hbb)
    have B12 := hide (Below.then B11.out hbb)
    have HK1 := hide (HK.out.below hbb)
    clear hcr hcab hbe hbb hal HK R11 B11
    go_wp2_with fail
    refine (keptHolding_any kb hb _ HK1.out).mono ?_
    rintro e x1 ⟨rfl, hz1⟩
    have R13 := hide (R12.out.below hz1)
    have B13 := hide (Below.then B12.out hz1)
    have HCR1 := hide (HCR.out.below HCR.out.lt hz1)
    clear hz1 HK1 R12 B12 HCR
    go_wp2_with fail
    refine (names_any _ C _ R13.out.ins.iC mC).mono ?_
    rintro e x2 ⟨y2, rfl, hy2, hz2⟩
    obtain ⟨ay2, ny2, cy2, rfl⟩ := hy2.lay
    have NV := hide hy2
    clear hy2
    have R14 := hide (R13.out.below hz2)
    have B14 := hide (Below.then B13.out hz2)
    have HCR2 := hide (HCR1.out.below HCR1.out.lt hz2)
    clear hz2  R13 B13 HCR1
    go_wp2_with fail
    refine (names_any _ C _ R14.out.ins.iC mC).mono ?_
    rintro e x3 ⟨y3, rfl, hy3, hz3⟩
    obtain ⟨ay3, ny3, cy3, rfl⟩ := hy3.lay
    clear hy3
    have R15 := hide (R14.out.below hz3)
    have B15 := hide (Below.then B14.out hz3)
    have HCR3 := hide (HCR2.out.below HCR2.out.lt hz3)
    have NV1 := hide (NV.out.below hz3)
    clear hz3  R14 B14 HCR2 NV
    go_wp2_with fail
    refine (newCondition_any _ _ _ _ _ _ _ _ _ _ _).mono ?_
    rintro e x4 ⟨rfl, hz4⟩
    have R16 := hide (R15.out.below hz4)
    have B16 := hide (Below.then B15.out hz4)
    have HCR4 := hide (HCR3.out.below HCR3.out.lt hz4)
    have NV2 := hide (NV1.out.below hz4)
    clear hz4  R15 B15 HCR3 NV1
    go_wp2_with fail
    refine (via_other R16.out HF.out nL (by omega) (by omega) (by omega) nT nD C mC' cab _ hne.out HCR4.out _ _ _ _ _ _ _ _ _ NV2.out).mono ?_
    rintro e x5 ⟨hr5, hz5⟩
    obtain ⟨a1, n1, d1, b1, rfl, hq1⟩ := ViaRes.as hr5
    have Q1 := hide hq1
    clear hq1 hr5
    have R17 := hide (R16.out.below hz5)
    have B17 := hide (Below.then B16.out hz5)
    clear hz5 HCR4 NV2 hne R16 B16
    go_wp2_with fail
    refine (model_chain bx _ _ _ _ _ _ L O K lo hi T D C _ R17.out.index R17.out.ins.iO R17.out.ins.iK R17.out.ins.ilo R17.out.ins.ihi R17.out.ins.iT R17.out.ins.iC HF.out nL (by omega) (by omega) (by omega) nT mC' WO.out).mono ?_
    rintro e w19 ⟨hr5, hb19⟩
    obtain ⟨a5, n5, d5, b5, rfl, hq5⟩ := ChainRes.as hr5
    obtain rfl : b5 = b1 := hq5.1.trans Q1.out.1.symm
    have hq1 := Q1.out.below hb19
    have R18 := hide (R17.out.below hb19)
    have B19 := hide (Below.then B17.out hb19)
    have hl := accL_short (L := L) (O := O) (A := lo.zip hi) (T := T) (K := K) (E := C) (by omega) mC'
    have HI5 := hide (fun q => idsOf_any _ _ _ D (w19.drewN q) (hq5.2.2.drewN q) (R18.out.ins.iD.drewN q) hl nD (acc_keys HF.out))
    have Q1b := hide hq1
    have HLs := hide hl
    clear hr5 hb19 hq5 hq1 R17 R18 B17 Q1 hl
    cases b5
    all_goals
      go_wp2_with fail
      refine (HI5.out 0).mono ?_
      rintro e w20 ⟨v5, rfl, hv5, hb20⟩
      have hs := sameStrings_eq (.slice a1 n1 d1) v5 _ w20 (Q1b.out.2.2.below hb20) hv5 (by rw [idsL_length]; exact HLs.out)
      have HS := hide hs
      have B20 := hide (Below.then B19.out hb20)
      clear hs hv5 hb20
      go_wp2_with fail
      refine HS.out.mono ?_
      rintro e w21 ⟨rfl, q21, rfl⟩
      go_wp2
      go_ret
      exact ⟨rfl, below_drewN B20.out _⟩

end Go.Proofs.Qxb6608735a
