import Derived.Test.Qxb6608735aW8
import Derived.Test.Qxb6608735aPlain2
namespace Go.Proofs.Qxb6608735a
open Go.RowKit
set_option linter.unusedVariables false

set_option maxHeartbeats 1000000 in
theorem chain_any {w : World} {hb ab : Nat} {L : List ByteArray} {O K : List Int} {A : List (Int × Int)} {T D : List ByteArray} {nb cb im : Nat} {vh va vl vo vi : Value} (h : HoldAt w hb ab L O K A T D nb cb im vh va vl vo vi) (v : Value) (C : List ByteArray) (hv : Names w v C)
    (hm : O.length ≤ 4096) (hmA : A.length ≤ 4096) (hmL : L.length ≤ 4096) (hmT : T.length ≤ 4096) (hmK : K.length ≤ 4096) (hmC : C.length ≤ 8192) (hO : ∀ o ∈ O, o < A.length) (hA : ∀ x ∈ A, 0 ≤ x.1 ∧ x.1 ≤ x.2 ∧ x.2 ≤ K.length) :
    Calls Try.prog 47 #[.agg #[.pointer (some ⟨hb, 0, none⟩)], v] w fun e w' => ChainRes (accL (lookL L O K A T) C) e w' ∧ Below w.heap.size w w' := by
  have H := hide h
  obtain ⟨a, cap, rfl, hcap, hcell⟩ := hv.opened
  clear h hv
  have HO := hide hO
  have HA := hide hA
  clear hO hA
  generalize hn : C.length = n at *
  have HN := hide hn
  have HC := hide hcell
  clear hn hcell
  generalize hW : w.alloc (.cells #[.pointer (some ⟨hb, 0, none⟩)] 32) = W
  have HW := hide hW
  have hbW : Below w.heap.size w W := by rw [← hW]; exact (Below.refl _ _).alloc (Nat.le_refl _) _
  have hsW : W.heap.size = w.heap.size + 1 := by rw [← hW]; simp
  have hcW : W.cell? ⟨w.heap.size, 0, none⟩ = some (.pointer (some ⟨hb, 0, none⟩)) := by rw [← hW]; simp
  have HBW := hide hbW
  have HSW := hide hsW
  have HCW := hide hcW
  clear hbW hsW hcW
  go_enter Try.func47, Try.ntmps47
  go_wp2
  clear hW
  go_loopw [6, 13] (fun ch i wr => ∃ (k : Nat) (l : List Int), k ≤ n ∧ i = .int .i64 k ∧ I64s wr ch l ∧ accL (lookL L O K A T) (C.take k) = some l ∧ Below W.heap.size W wr) (fun _ i _ => n - (intOf i).toNat)
  case atStart => exact ⟨0, [], Nat.zero_le _, rfl, nil64 _, by simp [accL], Below.refl _ _⟩
  case round =>
    obtain ⟨k, l, hk, rfl, hl, hacc, hbr⟩ := hrel
    have hsz : w.heap.size < wr.heap.size := by have := hbr.size; have := HSW.out; omega
    have hlen := accL_length (lookL L O K A T) K.length lookL_length C k l (by rw [HN.out]; exact hk) hacc
    have hlen2 : k * K.length ≤ 8192 * 4096 := Nat.mul_le_mul (by omega) hmK
    have HBR := hide hbr
    have HI := hide hl
    have HACC := hide hacc
    clear hbr hl hacc
    by_cases hlt : k < n
    · obtain ⟨z, hz⟩ := get_of_lt HN.out hlt
      obtain ⟨b, off, rfl, hbl, g1, g2⟩ := HC.out k z hz
      have hWr : ∀ q j, q < w.heap.size → wr.cell? ⟨q, j, none⟩ = w.cell? ⟨q, j, none⟩ := fun q j hq => (HBR.out.cell (p := ⟨q, j, none⟩) (by rw [HSW.out]; show q < _; omega)).trans (HBW.out.cell (p := ⟨q, j, none⟩) hq)
      have g1' := (hWr b (off + k * 2) hbl).trans g1
      have g2' := (hWr b (off + k * 2 + 1) hbl).trans g2
      have g3 : wr.cell? ⟨w.heap.size, 0, none⟩ = some (.pointer (some ⟨hb, 0, none⟩)) := (HBR.out.cell (p := ⟨w.heap.size, 0, none⟩) (by rw [HSW.out]; show w.heap.size < _; omega)).trans HCW.out
      have HZ := hide hz
      have hd := ((H.out.below HBW.out).below HBR.out).below ((Below.refl _ _).alloc (Nat.le_refl _) (.cells #[.string ⟨#[]⟩, .string z] 91))
      have HD := hide hd
      clear hz g1 g2 hWr hd
      go_wp2_with fail
      refine (find_any HD.out z hm hmA hmL hmT HO.out HA.out).mono ?_
      rintro e w1 ⟨hres, hb1⟩
      have hb2 : Below wr.heap.size wr w1 := ((Below.refl _ _).alloc (Nat.le_refl _) _).trans (hb1.mono (by simp))
      have hb3 : Below W.heap.size W w1 := HBR.out.trans (hb2.mono HBR.out.size)
      have HB2 := hide hb2
      have HB3 := hide hb3
      clear hb1 hb2 hb3
      cases hr : lookL L O K A T z with
      | none =>
        rw [hr] at hres
        cases hres
        have HR := hide hr
        clear hr
        go_wp2
        go_ret2
        refine ⟨?_, HBW.out.trans (HB3.out.mono HBW.out.size)⟩
        rw [accL_none_take _ HZ.out HR.out]; rfl
      | some m =>
        rw [hr] at hres
        obtain ⟨v1, rfl, hv1⟩ := hres
        have hml := lookL_length z m hr
        have HR := hide hr
        have HV1 := hide hv1
        clear hr hv1
        go_wp2_with fail
        refine (merge_any u6 v1 l m w1 (HI.out.below HB2.out) HV1.out (by omega)).mono ?_
        rintro e w2 ⟨v2, rfl, hv2, hb4⟩
        have HV2 := hide hv2
        have HB4 := hide hb4
        clear hv2 hb4
        go_wp2
        go_roundw
        case rel =>
          refine ⟨k + 1, mrg l m, by omega, by go_num, HV2.out, ?_, HB3.out.trans (HB4.out.mono HB3.out.size)⟩
          rw [accL_take _ HZ.out, HACC.out, HR.out]; rfl
        case measure => simp [intOf]; omega
    · go_wp2
      go_ret2
      refine ⟨?_, HBW.out.trans (HBR.out.mono HBW.out.size)⟩
      have h1 := HACC.out
      rw [take_all HN.out (by omega)] at h1
      rw [h1]
      exact ⟨_, rfl, HI.out⟩

end Go.Proofs.Qxb6608735a
