import Derived.Test.Qxb6608735aPlain5
import Derived.Test.Qxb6608735aW19
import Derived.Deep.CutBlock
import Derived.Deep.DeepCutAuto
import Derived.Deep.RegionHeld3
import Derived.Maps.RangeWalk
import Derived.Carry
namespace Go.Proofs.Qxb6608735a
open Go.RowKit
set_option linter.unusedVariables false

set_option maxHeartbeats 40000000 in
set_option maxRecDepth 100000 in
theorem law10 (vL vO vK vlo vhi vT vD : Value) (L : List ByteArray) (O K lo hi : List Int) (T D : List ByteArray) (w : World)
    (hL : Strs w vL L) (hO : I32s w vO O) (hK : I64s w vK K) (hlo : I32s w vlo lo) (hhi : I32s w vhi hi) (hT : Strs w vT T) (hD : Strs w vD D)
    (zL : ∀ s ∈ L, s.size ≤ maxLen) (zT : ∀ s ∈ T, s.size ≤ maxLen) (zD : ∀ s ∈ D, s.size ≤ maxLen)
    (mL : L.length ≤ 9223372036854775807) (mO : O.length ≤ 9223372036854775807) (mK : K.length ≤ 9223372036854775807) (mlo : lo.length ≤ 9223372036854775807) (mhi : hi.length ≤ 9223372036854775807) (mT : T.length ≤ 9223372036854775807) (mD : D.length ≤ 9223372036854775807)
    (wO : ∀ o ∈ O, -2147483648 ≤ o ∧ o ≤ 2147483647) (wlo : ∀ o ∈ lo, -2147483648 ≤ o ∧ o ≤ 2147483647) (whi : ∀ o ∈ hi, -2147483648 ≤ o ∧ o ≤ 2147483647) :
    Calls Try.prog 10 #[vL, vO, vK, vlo, vhi, vT, vD] w fun e w' => Yes w e w' := by
  obtain ⟨C, hCn⟩ : ∃ C : List ByteArray, C = [] := ⟨_, rfl⟩
  have hC : Strs w (.slice none 0 0) C := by subst hCn; exact ⟨_, _, rfl, Nat.le_refl _, rfl, fun h => absurd h (by simp)⟩
  have nC : C.length ≤ 4096 := by subst hCn; simp
  clear hCn
  have HL := hide hL
  have HO := hide hO
  have HK := hide hK
  have Hlo := hide hlo
  have Hhi := hide hhi
  have HT := hide hT
  have HD := hide hD
  have HC := hide hC
  have HB33 := hide (bytes42 vL vO vK vlo vhi vT vD w L hL mL zL O hO mO K hK mK lo hlo mlo hi hhi mhi T hT mT zT D hD mD zD)
  obtain ⟨aO, cO, rfl, hcO, jO⟩ := hO.open1
  obtain ⟨aK, cK, rfl, hcK, jK⟩ := hK.open1
  obtain ⟨alo, clo, rfl, hclo, jlo⟩ := hlo.open1
  obtain ⟨ahi, chi, rfl, hchi, jhi⟩ := hhi.open1
  have ZL := hide zL
  have ZT := hide zT
  have ZD := hide zD
  have WO := hide wO
  have Wlo := hide wlo
  have Whi := hide whi
  clear hL hO hK hlo hhi hT hD hC jO jK jlo jhi zL zT zD wO wlo whi
  go_enter Try.func10, Try.ntmps10
  go_wp2_with fail
  refine HB33.out.mono ?_
  rintro e w1 ⟨b, rfl, rfl, hb⟩
  clear HB33
  cases b with
  | false =>
    go_wp2
    go_ret
    exact ⟨rfl, Below.refl _ _⟩
  | true =>
    obtain ⟨bL, bT, bD⟩ := hb rfl
    clear hb
    by_cases c1 : 4096 < O.length
    · go_wp2
      go_ret
      exact ⟨rfl, Below.refl _ _⟩
    by_cases c2 : 4096 < K.length
    · go_wp2
      go_ret
      exact ⟨rfl, Below.refl _ _⟩
    by_cases c3 : 4096 < lo.length
    · go_wp2
      go_ret
      exact ⟨rfl, Below.refl _ _⟩
    by_cases c4 : 4096 < hi.length
    · go_wp2
      go_ret
      exact ⟨rfl, Below.refl _ _⟩
    go_wp2_with fail
    refine (strBytes_any vL L _ w1 HL.out (by omega) ZL.out (by omega) (by omega)).mono ?_
    rintro e w2 ⟨t1, rfl, rfl, p1, p1', q1⟩
    go_wp2_with fail
    refine (strBytes_any vT T _ w2 HT.out (by omega) ZT.out (by omega) (by omega)).mono ?_
    rintro e w1 ⟨t2, rfl, rfl, p2, p2', q2⟩
    go_wp2_with fail
    refine (strBytes_any vD D _ w1 HD.out (by omega) ZD.out (by omega) (by omega)).mono ?_
    rintro e w2 ⟨t4, rfl, rfl, p4, p4', q4⟩
    rename World => w1
    by_cases c5 : 1048576 < t4
    · go_wp2
      go_ret
      exact ⟨rfl, Below.refl _ _⟩
    have c5' : t4 ≤ 1048576 := by omega
    obtain ⟨nD, r4⟩ := q4 c5'
    obtain ⟨nT, r2⟩ := q2 (by omega)
    obtain ⟨nL, r1⟩ := q1 (by omega)
    clear q1 q2 q4 bL bT bD mL mO mK mlo mhi mT mD c5' ZL ZT ZD
    go_upto_if 88 with fail
    have hmk := make_run 41 21 1 4 _ Try.underlying41 Try.info21 (by omega)
    have hmklo := hmk lo.length (by omega)
    have hmkhi := hmk hi.length (by omega)
    clear hmk
    go_cut [3] (fun s wx => ∃ a c, s = .slice a lo.length c ∧ lo.length ≤ c ∧ I32s wx s lo ∧ Below w1.heap.size w1 wx)
    case first => as_aux_lemma =>
      cases alo with
      | none =>
        go_wp2
        go_meet
        case rel => exact ⟨_, _, rfl, hclo, Hlo.out, Below.refl _ _⟩
      | some x =>
        obtain ⟨cs, hr, hl⟩ := made_row w1 (madeCells #[Value.int .i32 0] lo.length) 21
        rw [size_madeCells] at hl
        have HR := hide hr
        have HLc := hide hl
        clear hr hl
        go_wp2_with (refine wpList_copy_i32 rfl _ _ rfl w1.heap.size lo.length cs (by exact HR.out) HLc.out (some x) clo lo rfl (Hlo.out.below ((Below.refl _ _).alloc (Nat.le_refl _) _)) rfl rfl w1.heap.size w1 ((Below.refl _ _).alloc (Nat.le_refl _) _) (Nat.le_refl _) ?_; intro w2 hi2 hb2; have HI2 := hide hi2; have HB2 := hide hb2; clear hi2 hb2)
        go_meet
        case rel => exact ⟨_, _, rfl, Nat.le_refl _, HI2.out, HB2.out⟩
    case rest => as_aux_lemma =>
    obtain ⟨alo2, clo2, rfl, hclo2, hlo2, hb2⟩ := hcut
    have Hlo2 := hide hlo2
    have HB2 := hide hb2
    clear hlo2 hb2
    go_upto_if 97 with fail
    go_cut [4] (fun s wx => ∃ a c, s = .slice a hi.length c ∧ hi.length ≤ c ∧ I32s wx s hi ∧ Below wc.heap.size wc wx)
    case first => as_aux_lemma =>
      cases ahi with
      | none =>
        go_wp2
        go_meet
        case rel => exact ⟨_, _, rfl, hchi, Hhi.out.below HB2.out, Below.refl _ _⟩
      | some x =>
        obtain ⟨cs, hr, hl⟩ := made_row wc (madeCells #[Value.int .i32 0] hi.length) 21
        rw [size_madeCells] at hl
        have HR := hide hr
        have HLc := hide hl
        clear hr hl
        go_wp2_with (refine wpList_copy_i32 rfl _ _ rfl wc.heap.size hi.length cs (by exact HR.out) HLc.out (some x) chi hi rfl ((Hhi.out.below HB2.out).below ((Below.refl _ _).alloc (Nat.le_refl _) _)) rfl rfl wc.heap.size wc ((Below.refl _ _).alloc (Nat.le_refl _) _) (Nat.le_refl _) ?_; intro w2 hi2 hb2; have HI2 := hide hi2; have HB3 := hide hb2; clear hi2 hb2)
        go_meet
        case rel => exact ⟨_, _, rfl, Nat.le_refl _, HI2.out, HB3.out⟩
    case rest => as_aux_lemma =>
    obtain ⟨ahi2, chi2, rfl, hchi2, hhi2, hb3⟩ := hcut
    have HB := hide (Below.then HB2.out hb3)
    have HI := hide (show Inputs wc vL (.slice aO O.length cO) (.slice aK K.length cK) (.slice alo2 lo.length clo2) (.slice ahi2 hi.length chi2) vT vD (.slice none 0 0) L O K lo hi T D C from
      ⟨HL.out.below HB.out, HO.out.below HB.out, HK.out.below HB.out, Hlo2.out.below hb3, hhi2, HT.out.below HB.out, HD.out.below HB.out, HC.out.below HB.out⟩)
    clear hhi2 hb3 Hlo2 HB2 HL HO HK Hlo Hhi HT HD HC hmklo hmkhi hclo hchi
    go_wp2_with fail
    refine (premise_any _ _ _ _ _ _ _ L O K lo hi T D wc HI.out.iL HI.out.iO HI.out.iK HI.out.ilo HI.out.ihi HI.out.iT HI.out.iD nL (by omega) (by omega) (by omega) (by omega) nT nD WO.out Wlo.out Whi.out).mono ?_
    rintro e w2 ⟨⟨hf, bx, rfl, hx, hbx⟩ | rfl, hb2⟩
    case inr =>
      have HB2 := hide (Below.then HB.out hb2)
      clear hb2
      go_wp2
      go_ret
      exact ⟨rfl, HB2.out⟩
    case inl =>
    have HF := hide hf
    have HX := hide hx
    have HI2 := hide (HI.out.below hb2)
    have HB2 := hide (Below.then HB.out hb2)
    clear hf hx hbx hb2 HI HB
    go_wp2_with fail
    refine (held_any _ O w2 HI2.out.iO (by omega)).mono ?_
    rintro e w3 ⟨vp, vw, rfl, hp, hw, hb3⟩
    have HP := hide hp
    have HW := hide hw
    have HX3 := hide (HX.out.below HX.out.lt hb3)
    have HI3 := hide (HI2.out.below hb3)
    have HB3 := hide (Below.then HB2.out hb3)
    clear hp hw hb3 HX HI2 HB2
    go_wp2_with fail
    refine (names_any _ L w3 HI3.out.iL (by omega)).mono ?_
    rintro e w4 ⟨vn, rfl, hn, hb4⟩
    obtain ⟨an, cn, rfl, hcn, jn⟩ := hn.opened
    have HP4 := hide (HP.out.below hb4)
    have HW4 := hide (HW.out.below hb4)
    have HX4 := hide (HX3.out.below HX3.out.lt hb4)
    have HI4 := hide (HI3.out.below hb4)
    have HB4 := hide (Below.then HB3.out hb4)
    clear hn hb4 hcn jn HP HW HX3 HI3 HB3
    go_wp2_with fail
    refine (nameIndex_any _ L w4 HI4.out.iL (by omega) HF.out.nodup).mono ?_
    rintro e w5 ⟨im, rfl, him, himb, hb5⟩
    have HM5 := hide him
    have HP5 := hide (HP4.out.below hb5)
    have HW5 := hide (HW4.out.below hb5)
    have HX5 := hide (HX4.out.below HX4.out.lt hb5)
    have HI5 := hide (HI4.out.below hb5)
    have HB5 := hide (Below.then HB4.out hb5)
    clear him himb hb5 HP4 HW4 HX4 HI4 HB4
    go_wp2_with fail
    refine (newAtoms_row _ _ _ _ w5).mono ?_
    rintro e w6 ⟨ab, rfl, hra, hab, hb6⟩
    have HRA6 := hide hra
    have HM6 := hide (HM5.out.below HM5.out.lt hb6)
    have HP6 := hide (HP5.out.below hb6)
    have HW6 := hide (HW5.out.below hb6)
    have HX6 := hide (HX5.out.below HX5.out.lt hb6)
    have HI6 := hide (HI5.out.below hb6)
    have HB6 := hide (Below.then HB5.out hb6)
    clear hra hab hb6 HM5 HP5 HW5 HX5 HI5 HB5
    go_wp2_with fail
    refine (copyStrings_any _ D w6 HI6.out.iD (by omega)).mono ?_
    rintro e w7 ⟨vi, rfl, hvi, hb7⟩
    have HVI7 := hide hvi
    have HRA7 := hide (HRA6.out.below HRA6.out.lt hb7)
    have HM7 := hide (HM6.out.below HM6.out.lt hb7)
    have HP7 := hide (HP6.out.below hb7)
    have HW7 := hide (HW6.out.below hb7)
    have HX7 := hide (HX6.out.below HX6.out.lt hb7)
    have HI7 := hide (HI6.out.below hb7)
    have HB7 := hide (Below.then HB6.out hb7)
    clear hvi hb7 HRA6 HM6 HP6 HW6 HX6 HI6 HB6
    go_wp2_with fail
    refine (copyInt64_any _ K w7 HI7.out.iK (by omega)).mono ?_
    rintro e w8 ⟨vl, rfl, hvl, hb8⟩
    have HVL8 := hide hvl
    have HVI8 := hide (HVI7.out.below hb8)
    have HRA8 := hide (HRA7.out.below HRA7.out.lt hb8)
    have HM8 := hide (HM7.out.below HM7.out.lt hb8)
    have HP8 := hide (HP7.out.below hb8)
    have HW8 := hide (HW7.out.below hb8)
    have HX8 := hide (HX7.out.below HX7.out.lt hb8)
    have HI8 := hide (HI7.out.below hb8)
    have HB8 := hide (Below.then HB7.out hb8)
    clear hvl hb8 HVI7 HRA7 HM7 HP7 HW7 HX7 HI7 HB7
    go_wp2_with fail
    refine (names_any _ T w8 HI8.out.iT (by omega)).mono ?_
    rintro e w9 ⟨vo, rfl, hvo, hb9⟩
    have HVO9 := hide hvo
    have HVL9 := hide (HVL8.out.below hb9)
    have HVI9 := hide (HVI8.out.below hb9)
    have HRA9 := hide (HRA8.out.below HRA8.out.lt hb9)
    have HM9 := hide (HM8.out.below HM8.out.lt hb9)
    have HP9 := hide (HP8.out.below hb9)
    have HW9 := hide (HW8.out.below hb9)
    have HX9 := hide (HX8.out.below HX8.out.lt hb9)
    have HI9 := hide (HI8.out.below hb9)
    have HB9 := hide (Below.then HB8.out hb9)
    clear hvo hb9 HVL8 HVI8 HRA8 HM8 HP8 HW8 HX8 HI8 HB8
    have hzl : (lo.zip hi).length = lo.length := by rw [List.length_zip, HF.out.even]; omega
    go_wp2_with fail
    refine (newHolding_any ab im L O K (lo.zip hi) T D _ _ _ _ _ _ _ _ w9 ((HRA9.out.cell 1).trans rfl) HM9.out HRA9.out HVI9.out HP9.out HW9.out (by rw [zip_fst HF.out.even]; exact HI9.out.ilo) (by rw [zip_snd HF.out.even]; exact HI9.out.ihi) HVL9.out HVO9.out (by omega) (by omega)).mono ?_
    rintro e w10 ⟨hb, nb, cb, vh, va, rfl, hhold, hb10⟩
    have HH10 := hide hhold
    have HX10 := hide (HX9.out.below HX9.out.lt hb10)
    have HI10 := hide (HI9.out.below hb10)
    have HB10 := hide (Below.then HB9.out hb10)
    clear hhold hb10 hzl HVO9 HVL9 HVI9 HRA9 HM9 HP9 HW9 HX9 HI9 HB9
    go_upto_region 21 with fail
    have hal : Below w10.heap.size w10 (w10.alloc (.cells #[.pointer (some ⟨hb, 0, none⟩)] 32)) := (Below.refl _ _).alloc (Nat.le_refl _) _
    have RD := hide (show Ready (w10.alloc (.cells #[.pointer (some ⟨hb, 0, none⟩)] 32)) vL (.slice aO O.length cO) (.slice aK K.length cK) (.slice alo2 lo.length clo2) (.slice ahi2 hi.length chi2) vT vD (.slice none 0 0) L O K lo hi T D C bx w10.heap.size hb ab nb cb im vh va vl vo vi from
      ⟨HI10.out.below hal, HX10.out.below HX10.out.lt hal, HH10.out.below hal, by rw [World.cell?_alloc_at _ _ _ _ rfl]; rfl⟩)
    have HBr := hide (Below.then HB10.out hal)
    have mC : C.length ≤ 1099511627776 := by omega
    have mC' : C.length ≤ 8192 := by omega
    clear hal HH10 HX10 HI10 HB10
    generalize hxe : w10.heap.size = hx at *
    clear hxe
    have hbox := RD.out.box
    go_wp2_with fail
    clear hbox
    refine (newKept_at hb _).mono ?_
    rintro e w11 ⟨kb, rfl, hk, hb11⟩
    have HK := hide hk
    clear hk
    have R11 := hide (RD.out.below hb11)
    have B11 := hide (Below.then HBr.out hb11)
    clear hb11  RD HBr
    obtain ⟨aL, cL, hLe, hcL, jL⟩ := Sl.open1 (show Sl w11 vL 1 L.length (L.map Value.string) from R11.out.ins.iL)
    subst hLe
    have JL := hide jL
    clear jL
    obtain ⟨aT, cT, hTe, hcT, jT⟩ := Sl.open1 (show Sl w11 vT 1 T.length (T.map Value.string) from R11.out.ins.iT)
    subst hTe
    have JT := hide jT
    clear jT
    obtain ⟨aD, cD, hDe, hcD, jD⟩ := Sl.open1 (show Sl w11 vD 1 D.length (D.map Value.string) from R11.out.ins.iD)
    subst hDe
    have JD := hide jD
    clear jD
    obtain ⟨aO', cO', hOe, hcO', jO⟩ := Sl.open1 (show Sl w11 (.slice aO O.length cO) 1 O.length (O.map (Value.int .i32)) from R11.out.ins.iO)
    cases hOe
    have JO := hide jO
    clear jO
    obtain ⟨aK', cK', hKe, hcK', jK⟩ := Sl.open1 (show Sl w11 (.slice aK K.length cK) 1 K.length (K.map (Value.int .i64)) from R11.out.ins.iK)
    cases hKe
    have JK := hide jK
    clear jK
    obtain ⟨alo', clo', hloe, hclo', jlo⟩ := Sl.open1 (show Sl w11 (.slice alo2 lo.length clo2) 1 lo.length (lo.map (Value.int .i32)) from R11.out.ins.ilo)
    cases hloe
    have Jlo := hide jlo
    clear jlo
    obtain ⟨ahi', chi', hhie, hchi', jhi⟩ := Sl.open1 (show Sl w11 (.slice ahi2 hi.length chi2) 1 hi.length (hi.map (Value.int .i32)) from R11.out.ins.ihi)
    cases hhie
    have Jhi := hide jhi
    clear jhi
    go_wp2_with fail
    go_loopw [24] (fun i wr => ∃ k : Nat, k ≤ L.length ∧ i = .int .i64 k ∧ Below w11.heap.size w11 wr) (fun i _ => L.length - (intOf i).toNat)
    case atStart => exact ⟨0, Nat.zero_le _, rfl, Below.refl _ _⟩
    case round =>
    obtain ⟨k, hk, rfl, hbel⟩ := hrel
    have HBe := hide hbel
    clear hbel
    by_cases hlt : k < L.length
    · as_aux_lemma =>
      obtain ⟨s, hs⟩ := get_of_lt (l := L) (k := k) rfl hlt
      obtain ⟨b, off, hab, hbl, hc⟩ := JL.out k s hs
      subst hab
      have hcr : wr.cell? ⟨b, off + k, none⟩ = some (.string s) := (HBe.out.cell (p := ⟨b, off + k, none⟩) hbl).trans hc
      have E1 := hide (one_at HF.out hs)
      have hal : Below wr.heap.size wr (wr.alloc (.cells #[.string s] 9)) := (Below.refl _ _).alloc (Nat.le_refl _) _
      have HS := hide (show Strs (wr.alloc (.cells #[.string s] 9)) (.slice (some ⟨wr.heap.size, 0, none⟩) 1 1) [s] from sl_new wr #[.string s] 9 rfl)
      have BW := hide (Below.then HBe.out hal)
      have R12 := hide (R11.out.below BW.out)
      have KA := hide (HK.out.below BW.out)
      clear hs hc hal
      go_wp2_with fail
      clear hcr
      refine (split_any bx _ L [s] _ R12.out.index HS.out (by simp) nL).mono ?_
      rintro e x1 ⟨vs1, vs2, rfl, hs1, hs2, hbs⟩
      obtain ⟨as1, ns1, cs1, rfl⟩ := hs1.lay
      obtain ⟨as2, ns2, cs2, rfl⟩ := hs2.lay
      have HS1 := hide hs1
      have HS2 := hide hs2
      clear hs1 hs2
      have HSa := hide (HS.out.below hbs)
      have R13 := hide (R12.out.below hbs)
      have KB := hide (KA.out.below hbs)
      have BW1 := hide (Below.then BW.out hbs)
      clear hbs  HS R12 KA BW
      go_wp2_with fail
      refine (keptHolding_any kb hb _ KB.out).mono ?_
      rintro e x2 ⟨rfl, hz⟩
      have HSb := hide (HSa.out.below hz)
      have R14 := hide (R13.out.below hz)
      have HS1a := hide (HS1.out.below hz)
      have HS2a := hide (HS2.out.below hz)
      have BW2 := hide (Below.then BW1.out hz)
      clear hz KB HSa R13 HS1 HS2 BW1
      go_wp2_with fail
      refine (names_any _ [s] _ HSb.out (by simp)).mono ?_
      rintro e x3 ⟨y3, rfl, hy3, hz⟩
      obtain ⟨ay3, ny3, cy3, rfl⟩ := hy3.lay
      clear hy3
      have R15 := hide (R14.out.below hz)
      have HS1b := hide (HS1a.out.below hz)
      have HS2b := hide (HS2a.out.below hz)
      have BW3 := hide (Below.then BW2.out hz)
      clear hz HSb R14 HS1a HS2a BW2
      go_wp2_with fail
      refine (newCondition_any _ _ _ _ _ _ _ _ _ _ _).mono ?_
      rintro e x4 ⟨rfl, hz⟩
      have R16 := hide (R15.out.below hz)
      have HS1c := hide (HS1b.out.below hz)
      have HS2c := hide (HS2b.out.below hz)
      have BW4 := hide (Below.then BW3.out hz)
      clear hz  R15 HS1b HS2b BW3
      go_wp2_with fail
      refine (via_same R16.out HF.out nL (by omega) (by omega) (by omega) nT nD [s] (by simp) _ _ _ _ _ _ _ _ _ HS1c.out HS2c.out).mono ?_
      rintro e x5 ⟨hr5, hz⟩
      obtain ⟨a1, n1, d1, b1, rfl, hq1⟩ := ViaRes.as hr5
      rw [E1.out] at hq1
      have Q1 := hide hq1
      have BW5 := hide (Below.then BW4.out hz)
      clear hq1 hr5 hz R16 BW4 HS1c HS2c E1
      by_cases hkO : k < O.length
      · obtain ⟨o, ho⟩ := get_of_lt (l := O) rfl hkO
        obtain ⟨bO, offO, haO, hblO, hcO'⟩ := JO.out k o ho
        subst haO
        have gO : x5.cell? ⟨bO, offO + k, none⟩ = some (.int .i32 o) := (BW5.out.cell (p := ⟨bO, offO + k, none⟩) hblO).trans hcO'
        have HOk := hide ho
        clear ho hcO' hblO
        by_cases ho1 : -1 ≤ o
        · by_cases ho2 : 0 ≤ o
          · as_aux_lemma =>
            obtain ⟨p, rfl⟩ := Int.eq_ofNat_of_zero_le ho2
            have hpl : p < lo.length := by
              have := HF.out.owner _ (List.mem_of_getElem? HOk.out)
              omega
            obtain ⟨l, hl⟩ := get_of_lt (l := lo) rfl hpl
            obtain ⟨h, hh⟩ := get_of_lt (l := hi) (k := p) HF.out.even.symm hpl
            obtain ⟨hc1, hc2, hc3, hc4⟩ := HF.out.chain p l h hl hh
            obtain ⟨l, rfl⟩ := Int.eq_ofNat_of_zero_le hc1
            obtain ⟨h, rfl⟩ := Int.eq_ofNat_of_zero_le (Int.le_trans hc1 hc2)
            obtain ⟨bl, offl, hal, hbll, hcl⟩ := Jlo.out p _ hl
            obtain ⟨bh, offh, hah, hblh, hch⟩ := Jhi.out p _ hh
            subst hal
            subst hah
            have gl : x5.cell? ⟨bl, offl + p, none⟩ = some (.int .i32 (l : Int)) := (BW5.out.cell (p := ⟨bl, offl + p, none⟩) hbll).trans hcl
            have GH := hide (show x5.cell? ⟨bh, offh + p, none⟩ = some (.int .i32 (h : Int)) from (BW5.out.cell (p := ⟨bh, offh + p, none⟩) hblh).trans hch)
            have hblh5 : bh < x5.heap.size := Nat.lt_of_lt_of_le hblh BW5.out.size
            have hq1 := Q1.out
            rw [at_held HOk.out hl hh] at hq1
            obtain ⟨hb0, hn0, hgot0⟩ := hq1
            have hb1 : b1 = true := hb0
            have hgot : Strs x5 (.slice a1 n1 d1) (idsL D (seg K l h)) := hgot0
            clear hb0
            subst hb1
            have HG := hide hgot
            have hph : p < hi.length := by rw [← HF.out.even]; exact hpl
            have hlh : l ≤ h := by omega
            have hhK : h ≤ K.length := by omega
            clear hgot hn0 hgot0 hc4 hl hh hcl hch hbll hblh Q1 hc1 hc2 hc3 ho1 ho2
            go_wp2_with fail
            clear gl gO
            go_loopw [31, 33] (fun v i wr => ∃ (tt : Nat) (cs : List Value), l ≤ tt ∧ tt ≤ h ∧ i = .int .i32 tt ∧ wr.ownsRow x5.heap.size 9 1 v (tt - l) cs ∧ cs = (idsL D (seg K l tt)).map Value.string ∧ Below x5.heap.size x5 wr) (fun _ i _ => h - (intOf i).toNat)
            case atStart => exact ⟨l, [], Nat.le_refl _, hlh, rfl, by rw [Nat.sub_self]; exact World.ownsRow_nil _ _ _ _, by rw [seg_nil]; rfl, Below.refl _ _⟩
            case round =>
              obtain ⟨tt, cs, ht1, ht2, rfl, hown, hcs, hb6⟩ := hrel
              have gh : wr.cell? ⟨bh, offh + p, none⟩ = some (.int .i32 (h : Int)) := (hb6.cell (p := ⟨bh, offh + p, none⟩) hblh5).trans GH.out
              have HCS := hide hcs
              have HB6 := hide hb6
              have hsz := hb6.size
              have HLP := hide (ownsRow_lt hown)
              clear hcs hb6
              by_cases hlt2 : tt < h
              · as_aux_lemma =>
                obtain ⟨z, hz⟩ := get_of_lt (l := K) (k := tt) rfl (by omega)
                obtain ⟨bK, offK, haK, hblK, hcK1⟩ := JK.out tt z hz
                subst haK
                have BWr := hide (Below.then BW5.out HB6.out)
                have gK : wr.cell? ⟨bK, offK + tt, none⟩ = some (.int .i64 z) := (BWr.out.cell (p := ⟨bK, offK + tt, none⟩) hblK).trans hcK1
                obtain ⟨k0, k1⟩ := HF.out.keys z (List.mem_of_getElem? hz)
                obtain ⟨j, hj, hjl, hDj⟩ := idAt_get k0 k1
                obtain ⟨bD, offD, haD, hblD, hcD1⟩ := JD.out j _ hDj
                subst haD
                obtain ⟨sj, HSs⟩ : ∃ sj, Hid (sj = idAt D z) := ⟨_, rfl⟩
                rw [← HSs.out] at hcD1
                have gD : wr.cell? ⟨bD, offD + j, none⟩ = some (.string sj) := (BWr.out.cell (p := ⟨bD, offD + j, none⟩) hblD).trans hcD1
                have hj0 : (0 : Int) ≤ (j : Int) := by omega
                have hj1 : (j : Int) < (D.length : Int) := by omega
                have HZ := hide hz
                have htK : (tt : Int) < (K.length : Int) := by omega
                clear hz hcK1 hcD1 hDj k0 k1 hblK hblD
                go_wp2_with (at_builtin; refine wpList_append_sl _ rfl _ _ 22 rfl x5.heap.size 9 (.string ByteArray.empty) 1 16 Try.underlying22 Try.info9 rfl (by omega) u31 (tt - l) cs rfl (hown.alloc _) (.slice (some ⟨wr.heap.size, 0, none⟩) 1 1) 1 [.string sj] rfl (sl_new wr #[.string sj] 9 rfl) (by intro u hu; rw [List.mem_singleton.1 hu]; rfl) (by unfold maxLen; omega) (by omega) (by simp; omega) ?_)
                intro v1 wn hown1 hgrow1 hat1
                have HO1 := hide hown1
                have HG1 := hide hgrow1
                clear hown1 hgrow1 hat1
                go_wp2
                go_roundw
                case rel =>
                  refine ⟨tt + 1, cs ++ [.string sj], by omega, by omega, by go_num, ?_, ?_, (HB6.out.alloc hsz _).grown HG1.out (by simp; omega) (fun q hq => (HLP.out q hq).1)⟩
                  · rw [show tt + 1 - l = (tt - l) + 1 by omega]; exact HO1.out
                  · rw [HCS.out, seg_snoc ht1 HZ.out, HSs.out]; simp [idsL]
                case measure => simp [intOf]; omega
              · as_aux_lemma =>
                have e : tt = h := by omega
                subst e
                have hw := hide (show Strs wr u31 (idsL D (seg K l tt)) by
                  have h1 := ownsRow_sl hown
                  rw [HCS.out] at h1
                  unfold Strs
                  rw [idsL_length, seg_len ht1 hhK]
                  exact h1)
                have HGr := hide (HG.out.below HB6.out)
                have mS : (idsL D (seg K l tt)).length ≤ 1099511627776 := by rw [idsL_length, seg_len ht1 hhK]; omega
                clear HCS HLP hown
                go_wp2_with fail
                refine (sameStrings_eq _ _ _ _ HGr.out hw.out mS).mono ?_
                rintro e x6 ⟨rfl, q6, rfl⟩
                go_wp2
                go_roundw
                case rel => exact ⟨k + 1, by omega, by go_num, below_drewN (Below.then BW5.out HB6.out) _⟩
                case measure => simp [intOf]; omega
          · as_aux_lemma =>
            have e : o = -1 := by omega
            subst e
            have hq1 := Q1.out
            rw [at_free HOk.out] at hq1
            obtain ⟨hb0, hn0, hgot0⟩ := hq1
            have hb1 : b1 = true := hb0
            have hgot : Strs x5 (.slice a1 n1 d1) [] := hgot0
            clear hb0
            subst hb1
            have HG := hide hgot
            clear hgot hn0 hgot0 Q1
            go_wp2_with fail
            refine (sameStrings_eq _ _ [] _ HG.out (Strs.none _) (by simp)).mono ?_
            rintro e x6 ⟨rfl, q6, rfl⟩
            go_wp2
            go_roundw
            case rel => exact ⟨k + 1, by omega, by go_num, below_drewN BW5.out _⟩
            case measure => simp [intOf]; omega
        · as_aux_lemma =>
          have hq1 := Q1.out
          rw [at_low HOk.out (by omega)] at hq1
          obtain ⟨hb0, hn0, hgot0⟩ := hq1
          have hb1 : b1 = false := hb0
          have hgot : Strs x5 (.slice a1 n1 d1) [] := hgot0
          clear hb0
          subst hb1
          have HG := hide hgot
          clear hgot hn0 hgot0 Q1
          go_wp2_with fail
          refine (sameStrings_eq _ _ [] _ HG.out (Strs.none _) (by simp)).mono ?_
          rintro e x6 ⟨rfl, q6, rfl⟩
          go_wp2
          go_roundw
          case rel => exact ⟨k + 1, by omega, by go_num, below_drewN BW5.out _⟩
          case measure => simp [intOf]; omega
      · as_aux_lemma =>
        have hq1 := Q1.out
        rw [at_none (by omega)] at hq1
        obtain ⟨hb0, hn0, hgot0⟩ := hq1
        have hb1 : b1 = false := hb0
        have hgot : Strs x5 (.slice a1 n1 d1) [] := hgot0
        clear hb0
        subst hb1
        have HG := hide hgot
        clear hgot hn0 hgot0 Q1
        go_wp2_with fail
        refine (sameStrings_eq _ _ [] _ HG.out (Strs.none _) (by simp)).mono ?_
        rintro e x6 ⟨rfl, q6, rfl⟩
        go_wp2
        go_roundw
        case rel => exact ⟨k + 1, by omega, by go_num, below_drewN BW5.out _⟩
        case measure => simp [intOf]; omega
    · as_aux_lemma =>
      have e : k = L.length := by omega
      subst e
      go_wp2_with fail
      go_loopw [34] (fun i wr => ∃ k : Nat, k ≤ T.length ∧ i = .int .i64 k ∧ Below w11.heap.size w11 wr) (fun i _ => T.length - (intOf i).toNat)
      case atStart => exact ⟨0, Nat.zero_le _, rfl, HBe.out⟩
      case round =>
      clear HBe
      obtain ⟨k, hk2, rfl, hbel⟩ := hrel
      have HBe := hide hbel
      clear hbel
      by_cases hlt : k < T.length
      · as_aux_lemma =>
        obtain ⟨s, hs⟩ := get_of_lt (l := T) (k := k) rfl hlt
        obtain ⟨b, off, hab, hbl, hc⟩ := JT.out k s hs
        subst hab
        have hcr : wr.cell? ⟨b, off + k, none⟩ = some (.string s) := (HBe.out.cell (p := ⟨b, off + k, none⟩) hbl).trans hc
        have E1 := hide (one_other HF.out hs)
        have EN := hide (HF.out.other s (List.mem_of_getElem? hs))
        have hal : Below wr.heap.size wr (wr.alloc (.cells #[.string s] 9)) := (Below.refl _ _).alloc (Nat.le_refl _) _
        have HS := hide (show Strs (wr.alloc (.cells #[.string s] 9)) (.slice (some ⟨wr.heap.size, 0, none⟩) 1 1) [s] from sl_new wr #[.string s] 9 rfl)
        have BW := hide (Below.then HBe.out hal)
        have R12 := hide (R11.out.below BW.out)
        have KA := hide (HK.out.below BW.out)
        clear hs hc hal
        go_wp2_with fail
        clear hcr
        refine (keptHolding_any kb hb _ KA.out).mono ?_
        rintro e x2 ⟨rfl, hz⟩
        have HSb := hide (HS.out.below hz)
        have R14 := hide (R12.out.below hz)
        have BW2 := hide (Below.then BW.out hz)
        clear hz KA HS R12 BW

        go_wp2_with fail
        refine (names_any _ [s] _ HSb.out (by simp)).mono ?_
        rintro e x3 ⟨y3, rfl, hy3, hz⟩
        obtain ⟨ay3, ny3, cy3, rfl⟩ := hy3.lay
        clear hy3
        have R15 := hide (R14.out.below hz)
        have HSc := hide (HSb.out.below hz)
        have BW3 := hide (Below.then BW2.out hz)
        clear hz  R14 HSb BW2

        go_wp2_with fail
        refine (names_any _ [s] _ HSc.out (by simp)).mono ?_
        rintro e x3b ⟨y4, rfl, hy4, hz⟩
        obtain ⟨ay4, ny4, cy4, rfl⟩ := hy4.lay
        have NV := hide hy4
        clear hy4
        have R15b := hide (R15.out.below hz)
        have BW3b := hide (Below.then BW3.out hz)
        clear hz HSc R15 BW3

        go_wp2_with fail
        refine (newCondition_any _ _ _ _ _ _ _ _ _ _ _).mono ?_
        rintro e x4 ⟨rfl, hz⟩
        have R16 := hide (R15b.out.below hz)
        have NV2 := hide (NV.out.below hz)
        have BW4 := hide (Below.then BW3b.out hz)
        clear hz  R15b NV BW3b

        go_wp2_with fail
        refine (via_same R16.out HF.out nL (by omega) (by omega) (by omega) nT nD [s] (by simp) _ _ _ _ _ _ _ _ _ (by rw [posL_other EN.out]; exact I64s.none _) (by rw [othL_other EN.out]; exact NV2.out)).mono ?_
        rintro e x5 ⟨hr5, hz⟩
        obtain ⟨a1, n1, d1, b1, rfl, hq1⟩ := ViaRes.as hr5
        rw [E1.out] at hq1
        obtain ⟨hb0, hn0, -⟩ := hq1
        have hb1 : b1 = true := hb0
        have hn1 : n1 = 0 := hn0
        clear hb0 hn0
        subst hb1
        subst hn1
        have BW5 := hide (Below.then BW4.out hz)
        clear hr5 hz R16 BW4 NV2 E1
        go_wp2
        go_roundw
        case rel => exact ⟨k + 1, by omega, by go_num, BW5.out⟩
        case measure => simp [intOf]; omega
      · as_aux_lemma =>
        go_wp2
        go_ret
        exact ⟨rfl, Below.then B11.out HBe.out⟩

end Go.Proofs.Qxb6608735a
