import Derived.Test.Qxb6608735aW10
namespace Go.Proofs.Qxb6608735a
open Go.RowKit
set_option linter.unusedVariables false

set_option maxHeartbeats 2000000 in
/-- A condition of the holding's own atoms: the path by places. -/
theorem condChain_same {w : World} {hb ab : Nat} {L : List ByteArray} {O K : List Int} {A : List (Int × Int)} {T D : List ByteArray} {nb cb im : Nat} {vh va vl vo vi : Value} (h : HoldAt w hb ab L O K A T D nb cb im vh va vl vo vi) (v v2 v3 : Value) (P : List Nat) (C2 : List ByteArray) (hv2 : I64s w v2 (P.map (fun p : Nat => (p : Int)))) (hv3 : Names w v3 C2)
    (hm : O.length ≤ 4096) (hmA : A.length ≤ 4096) (hmL : L.length ≤ 4096) (hmT : T.length ≤ 4096) (hmK : K.length ≤ 4096) (hmP : P.length ≤ 8192) (hmC : C2.length ≤ 8192) (hO : ∀ o ∈ O, o < A.length) (hA : ∀ x ∈ A, 0 ≤ x.1 ∧ x.1 ≤ x.2 ∧ x.2 ≤ K.length) :
    Calls Try.prog 44 #[.agg #[.pointer (some ⟨hb, 0, none⟩)], .agg #[v, .pointer (some ⟨ab, 0, none⟩), v2, v3]] w fun e w' => ChainRes (condL O K A T P C2) e w' ∧ Below w.heap.size w w' := by
  have H := hide h
  have l1 := cell_lt h.num
  have l2 := cell_lt h.atoms
  have c1 := h.num
  have c2 := h.atoms
  have c3 := h.others
  clear h
  obtain ⟨a2, cap2, rfl, hcap2, hcell2⟩ := hv2.open1
  obtain ⟨a3, cap3, rfl, hcap3, hcell3⟩ := hv3.opened
  clear hv2 hv3
  have HO := hide hO
  have HA := hide hA
  clear hO hA
  rw [List.length_map] at *
  generalize hn2 : P.length = n2 at *
  generalize hn3 : C2.length = n3 at *
  have HN2 := hide hn2
  have HN3 := hide hn3
  have HC2 := hide hcell2
  have HC3 := hide hcell3
  clear hn2 hn3 hcell2 hcell3
  generalize hW : (w.alloc (.cells #[.pointer (some ⟨hb, 0, none⟩)] 32)).alloc (.cells #[v, .pointer (some ⟨ab, 0, none⟩), .slice a2 n2 cap2, .slice a3 n3 cap3] 60) = W
  have hbW : Below w.heap.size w W := by rw [← hW]; exact ((Below.refl _ _).alloc (Nat.le_refl _) _).alloc (by simp) _
  have hsW : W.heap.size = w.heap.size + 2 := by rw [← hW]; simp
  have k1 : W.cell? ⟨w.heap.size, 0, none⟩ = some (.pointer (some ⟨hb, 0, none⟩)) := by rw [← hW]; simp
  have k2 : ∀ j, W.cell? ⟨w.heap.size + 1, j, none⟩ = #[v, .pointer (some ⟨ab, 0, none⟩), .slice a2 n2 cap2, .slice a3 n3 cap3][j]? := by rw [← hW]; intro j; exact World.cell?_alloc_at _ _ _ _ (by simp)
  have k4 := k2 1
  have k5 := k2 2
  have k6 := k2 3
  simp only [List.getElem?_toArray, List.getElem?_cons_zero, List.getElem?_cons_succ] at k4 k5 k6
  have d1 := cell_below c1 hbW
  have d2 := cell_below c2 hbW
  have d3 := cell_below c3 hbW
  have hq : ∀ q, (binOp .neq 46 (.pointer (some ⟨ab, 0, none⟩)) (.pointer (some ⟨ab, 0, none⟩))).run Try.prog (W.drewN q) = .ok (.bool false) (W.drewN q) := fun q => neq_same _ _
  have HBW := hide hbW
  have HSW := hide hsW
  have HD3 := hide d3
  clear hbW k2 c1 c2 hsW c3 d3
  go_enter Try.func44, Try.ntmps44
  go_wp2
  clear hW
  go_quiet (fail)
  go_wp2
  clear hq
  go_loopw [6, 38] (fun ch i wr => ∃ (k : Nat) (l : List Int), k ≤ n2 ∧ i = .int .i64 k ∧ I64s wr ch l ∧ accL (atL O K A) (P.take k) = some l ∧ Below W.heap.size W wr) (fun _ i _ => n2 - (intOf i).toNat)
  case atStart => exact ⟨0, [], Nat.zero_le _, rfl, nil64 _, by simp [accL], below_drewN (Below.refl _ _) _⟩
  case round =>
    obtain ⟨k, l, hk, rfl, hl, hacc, hbr⟩ := hrel
    have hsz : w.heap.size + 1 < wr.heap.size := by have := hbr.size; have := HSW.out; omega
    have hlen := accL_length (atL O K A) K.length atL_length P k l (by rw [HN2.out]; exact hk) hacc
    have hlen2 : k * K.length ≤ 8192 * 4096 := Nat.mul_le_mul (by omega) hmK
    have HK1 := hide k1
    have HK6 := hide k6
    have HL1 := hide l1
    clear k1 k4 k5 k6 d1 d2 l1 l2
    have HBR := hide hbr
    have HI := hide hl
    have HACC := hide hacc
    clear hbr hl hacc
    have g0 : wr.cell? ⟨w.heap.size, 0, none⟩ = some (.pointer (some ⟨hb, 0, none⟩)) := (HBR.out.cell (p := ⟨w.heap.size, 0, none⟩) (by rw [HSW.out]; show w.heap.size < _; omega)).trans HK1.out
    by_cases hlt : k < n2
    · obtain ⟨p, hp⟩ := get_of_lt HN2.out hlt
      obtain ⟨b, off, rfl, hbl, g1⟩ := HC2.out k (p : Int) (by simp [hp])
      have g1' : wr.cell? ⟨b, off + k, none⟩ = some (.int .i64 (p : Int)) := ((HBR.out.cell (p := ⟨b, off + k, none⟩) (by rw [HSW.out]; show b < _; omega)).trans (HBW.out.cell (p := ⟨b, off + k, none⟩) hbl)).trans g1
      have HP := hide hp
      have HD := hide ((H.out.below HBW.out).below HBR.out)
      clear hp g1
      go_wp2_with fail
      refine (at_any HD.out p hm hmA HO.out HA.out).mono ?_
      rintro e w1 ⟨hres, hb1⟩
      have HB2 := hide hb1
      have HB3 := hide (HBR.out.trans (hb1.mono HBR.out.size))
      clear hb1
      cases hr : atL O K A p with
      | none =>
        rw [hr] at hres
        cases hres
        have HR := hide hr
        clear hr
        go_wp2
        go_ret2
        refine ⟨?_, HBW.out.trans (HB3.out.mono HBW.out.size)⟩
        rw [condL_none (accL_none_take _ HP.out HR.out)]; rfl
      | some m =>
        rw [hr] at hres
        obtain ⟨v1, rfl, hv1⟩ := hres
        have hml := atL_length p m hr
        have HR := hide hr
        have HV1 := hide hv1
        clear hr hv1
        go_wp2_with fail
        refine (merge_any u6 v1 l m w1 (HI.out.below HB2.out) HV1.out (by omega)).mono ?_
        rintro e w2 ⟨v2, rfl, hv2, hb4⟩
        have HV2 := hide hv2
        have HB4 := hide hb4
        clear hv2 hb4
        go_wp2
        go_roundw
        case rel =>
          refine ⟨k + 1, mrg l m, by omega, by go_num, HV2.out, ?_, HB3.out.trans (HB4.out.mono HB3.out.size)⟩
          rw [accL_take _ HP.out, HACC.out, HR.out]; rfl
        case measure => simp [intOf]; omega
    · have h1 := HACC.out
      rw [take_all HN2.out (by omega)] at h1
      have HALL := hide h1
      have g6 : wr.cell? ⟨w.heap.size + 1, 3, none⟩ = some (.slice a3 n3 cap3) := (HBR.out.cell (p := ⟨w.heap.size + 1, 3, none⟩) (by rw [HSW.out]; show w.heap.size + 1 < _; omega)).trans HK6.out
      clear h1
      go_wp2
      rename World => w0
      clear g6
      go_loopw [58] (fun i wr => ∃ k3 : Nat, k3 ≤ n3 ∧ i = .int .i64 k3 ∧ (∀ s ∈ C2.take k3, (pos T s).isSome = true) ∧ Below w0.heap.size w0 wr) (fun i _ => n3 - (intOf i).toNat)
      case atStart => exact ⟨0, Nat.zero_le _, rfl, by simp, Below.refl _ _⟩
      case round =>
        obtain ⟨k3, hk3, rfl, hin, hb0⟩ := hrel
        have hsz' : w.heap.size + 1 < wr.heap.size := by have := hb0.size; omega
        have hszl : w.heap.size < wr.heap.size := by omega
        have hszb : hb < wr.heap.size := by have := HL1.out; omega
        have g0' : wr.cell? ⟨w.heap.size, 0, none⟩ = some (.pointer (some ⟨hb, 0, none⟩)) := cell_below g0 hb0
        have g4 : wr.cell? ⟨hb, 4, none⟩ = some vo := cell_below (cell_below HD3.out HBR.out) hb0
        have HIN := hide hin
        have HB0 := hide hb0
        clear hin hb0 g0
        by_cases hlt3 : k3 < n3
        · obtain ⟨z, hz⟩ := get_of_lt HN3.out hlt3
          obtain ⟨b, off, rfl, hbl, g1, g2⟩ := HC3.out k3 z hz
          have g1' : wr.cell? ⟨b, off + k3 * 2, none⟩ = some (.string ⟨#[]⟩) := cell_below (cell_below (cell_below g1 HBW.out) HBR.out) HB0.out
          have g2' : wr.cell? ⟨b, off + k3 * 2 + 1, none⟩ = some (.string z) := cell_below (cell_below (cell_below g2 HBW.out) HBR.out) HB0.out
          have HZ := hide hz
          have HD := hide ((((H.out.below HBW.out).below HBR.out).below HB0.out).below ((Below.refl _ _).alloc (Nat.le_refl _) (.cells #[.string ⟨#[]⟩, .string z] 91)))
          clear hz g1 g2
          go_wp2
          go_region_with (go_at_call 50; refine (contains_any vo T z _ ?_ ?_).mono ?_; exact (HD.out.drewN 1).isOthers; omega; rintro e w1 ⟨rfl, hb1⟩)
          all_goals
            simp only [List.getElem_toArray, List.getElem_cons_succ, List.getElem_cons_zero]
            go_frame
            have hb2 : Below wr.heap.size wr w1 := ((Below.refl _ _).alloc (Nat.le_refl _) _).trans ((below_drewN (Below.refl _ _) 1).trans (hb1.mono (by simp)))
            have HB2 := hide (HB0.out.trans (hb2.mono HB0.out.size))
            clear hb1 hb2
            cases hc : (pos T z).isSome with
            | false =>
              have HCC := hide hc
              have hc2 : (pos T z).isNone = true := by cases hp : pos T z <;> simp_all
              simp only [hc2]
              clear hc2 hc
              go_wp2
              go_ret2
              refine ⟨?_, HBW.out.trans ((HBR.out.trans (HB2.out.mono HBR.out.size)).mono HBW.out.size)⟩
              rw [condL_not HALL.out (List.mem_of_getElem? HZ.out) HCC.out]; rfl
            | true =>
              have HCC := hide hc
              have hc2 : (pos T z).isNone = false := by cases hp : pos T z <;> simp_all
              simp only [hc2]
              clear hc2 hc
              go_wp2
              go_roundw
              case rel =>
                refine ⟨k3 + 1, by omega, by go_num, ?_, HB2.out⟩
                rw [take_snoc HZ.out]
                intro s hs
                rcases List.mem_append.1 hs with hs | hs
                · exact HIN.out s hs
                · rw [List.mem_singleton.1 hs]; exact HCC.out
              case measure => simp [intOf]; omega
        · go_wp2
          go_ret2
          have h2 := HIN.out
          rw [take_all HN3.out (by omega)] at h2
          refine ⟨?_, HBW.out.trans ((HBR.out.trans (HB0.out.mono HBR.out.size)).mono HBW.out.size)⟩
          rw [condL_some HALL.out h2]
          exact ⟨_, rfl, HI.out.below HB0.out⟩

end Go.Proofs.Qxb6608735a
