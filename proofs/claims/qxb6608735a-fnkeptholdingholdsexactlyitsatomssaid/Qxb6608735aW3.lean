import Derived.Test.Qxb6608735aRowsOwn
namespace Go.Proofs.Qxb6608735a
open Go.RowKit
set_option linter.unusedVariables false

set_option maxHeartbeats 1000000 in
/-- zzHeld. -/
theorem held_any (v : Value) (O : List Int) (w : World) (h : I32s w v O) (hm : O.length ≤ 4096) :
    Calls Try.prog 22 #[v] w fun e w' => ∃ v1 v2, e = .returned (.tuple #[v1, v2]) ∧ I32s w' v1 ((heldL O).map (·.1)) ∧ I32s w' v2 ((heldL O).map (·.2)) ∧ Below w.heap.size w w' := by
  obtain ⟨a, cap, rfl, hcap, hcell⟩ := h.open1
  clear h
  generalize hn : O.length = n at *
  have HN := hide hn
  have HC := hide hcell
  clear hn hcell
  obtain ⟨i0, hi, hz0, hz1, hz2⟩ := info_parts Try.info21
  go_enter Try.func22, Try.ntmps22
  go_wp2
  go_loopw [4, 5, 6] (fun p o i wr => ∃ k : Nat, k ≤ n ∧ i = .int .i64 k ∧ wr.ownsRow w.heap.size 21 1 p (heldL (O.take k)).length (((heldL (O.take k)).map (·.1)).map (Value.int .i32)) ∧
      wr.ownsRow w.heap.size 21 1 o (heldL (O.take k)).length (((heldL (O.take k)).map (·.2)).map (Value.int .i32)) ∧ (∀ g, p.ownBlock = some g → o.ownBlock ≠ some g) ∧ Below w.heap.size w wr)
    (fun _ _ i _ => n - (intOf i).toNat)
  case atStart => exact ⟨0, Nat.zero_le _, rfl, World.ownsRow_nil _ _ _ _, World.ownsRow_nil _ _ _ _, (fun g hg => by cases hg), Below.refl _ _⟩
  case round =>
    obtain ⟨k, hk, rfl, hop, hoo, hap, hb⟩ := hrel
    have HP := hide hop
    have HO := hide hoo
    have HA := hide hap
    have HB := hide hb
    clear hop hoo hap hb
    by_cases hlt : k < n
    · obtain ⟨z, hz⟩ := get_of_lt HN.out hlt
      obtain ⟨b, off, rfl, hbl, hc⟩ := HC.out k z hz
      have hcr : wr.cell? ⟨b, off + k, none⟩ = some (.int .i32 z) := (HB.out.cell (p := ⟨b, off + k, none⟩) hbl).trans hc
      have HZ := hide hz
      clear hz hc
      by_cases hx : -2 ≤ z
      · obtain ⟨N, ps, os, HE1, HE2, HE3⟩ : ∃ N ps os, Hid (N = (heldL (O.take k)).length) ∧ Hid (ps = ((heldL (O.take k)).map (·.1)).map (Value.int .i32)) ∧ Hid (os = ((heldL (O.take k)).map (·.2)).map (Value.int .i32)) := ⟨_, _, _, rfl, rfl, rfl⟩
        have hNk : N ≤ k := by
          rw [HE1.out]
          exact Nat.le_trans (heldL_length (O.take k)) (List.length_take_le _ _)
        have hop : wr.ownsRow w.heap.size 21 1 u4 N ps := by rw [HE1.out, HE2.out]; exact HP.out
        have hoo : wr.ownsRow w.heap.size 21 1 u5 N os := by rw [HE1.out, HE3.out]; exact HO.out
        have hsz := HB.out.size
        go_wp2_with (at_builtin; refine wpList_append_lies _ rfl _ _ 41 rfl w.heap.size 21 i0 (.int .i32 0) 1 4 Try.underlying41 hi hz0 hz1 hz2 rfl (by omega) _ _ _ rfl (hop.alloc _) ⟨wr.heap.size, 0, none⟩ 1 1 [.int .i32 (k : Int)] rfl rfl (cell_one_new _ _ _) (ints_oneCell .i32 [(k : Int)]) (by omega) (by unfold maxLen; omega) (by omega) (by simp; omega) (wr.heap.size + 1) (by simp) ?_)
        intro g1 c1 w1 hown1 hgrow1 hat1 hlt1
        have hlo := ownsRow_lt hoo
        have hlp := ownsRow_lt hop
        have hb1 : Below w.heap.size w w1 := (HB.out.alloc hsz _).grown hgrow1 (by simp; omega) (fun q hq => (hlp q hq).1)
        have hoo1 : w1.ownsRow w.heap.size 21 1 u5 N os := ownsRow_grown (hoo.alloc _) hgrow1 (fun q hq e => HA.out q e hq)
        have hcr1 : w1.cell? ⟨b, off + k, none⟩ = some (.int .i32 z) := (hb1.cell (p := ⟨b, off + k, none⟩) hbl).trans ((HB.out.cell (p := ⟨b, off + k, none⟩) hbl).symm.trans hcr)
        have hsz1 := hgrow1.size
        have hap1 : ∀ q, u5.ownBlock = some q → q ≠ g1 := by
          intro q hq e
          rcases hat1 with h | h
          · exact HA.out g1 h (e ▸ hq)
          · have := (hlo q hq).2
            omega
        have HO1 := hide hown1
        have HG1 := hide hgrow1
        have HAT1 := hide hat1
        have HLO := hide hlo
        have HLP := hide hlp
        have HAP1 := hide hap1
        simp at hsz1
        clear hown1 hgrow1 hat1 hlo hlp hcr hop hoo hap1
        go_wp2_with (at_builtin; refine wpList_append_lies _ rfl _ _ 41 rfl w.heap.size 21 i0 (.int .i32 0) 1 4 Try.underlying41 hi hz0 hz1 hz2 rfl (by omega) _ _ _ rfl (hoo1.alloc _) ⟨w1.heap.size, 0, none⟩ 1 1 [.int .i32 z] rfl rfl (cell_one_new _ _ _) (ints_oneCell .i32 [z]) (by omega) (by unfold maxLen; omega) (by omega) (by simp; omega) (w1.heap.size + 1) (by simp) ?_)
        intro g2 c2 w2 hown2 hgrow2 hat2 hlt2
        have HO2 := hide hown2
        have HG2 := hide hgrow2
        have HAT2 := hide hat2
        have HB1 := hide hb1
        clear hown2 hgrow2 hat2 hb1
        go_wp2
        go_roundw
        case rel =>
          have hst := heldL_take HZ.out
          rw [if_pos hx] at hst
          have hgne : g2 ≠ g1 := by
            rcases HAT2.out with h | h
            · exact HAP1.out g2 h
            · omega
          refine ⟨k + 1, by omega, by go_num, ?_, ?_, ?_, ?_⟩
          · rw [hst, HE1.out]
            have := ownsRow_grown (HO1.out.alloc _) HG2.out (fun q hq e => by
              cases hq
              exact HAP1.out g1 e rfl)
            rw [HE1.out, HE2.out] at this
            simpa using this
          · rw [hst, HE1.out]
            have := HO2.out
            rw [HE1.out, HE3.out] at this
            simpa using this
          · intro q hq e
            cases hq
            cases e
            exact hgne rfl
          · exact (HB1.out.alloc (by omega) _).grown HG2.out (by simp; omega) (fun q hq => (HLO.out q hq).1)
        case measure => simp [intOf]; omega
      · go_wp2
        go_roundw
        case rel =>
          refine ⟨k + 1, by omega, by go_num, ?_, ?_, HA.out, HB.out⟩
          · rw [heldL_take HZ.out, if_neg hx, List.append_nil]; exact HP.out
          · rw [heldL_take HZ.out, if_neg hx, List.append_nil]; exact HO.out
        case measure => simp [intOf]; omega
    · go_wp2
      go_ret2
      have h1 := HP.out
      have h2 := HO.out
      rw [take_all HN.out (by omega)] at h1 h2
      refine ⟨_, _, rfl, ?_, ?_, HB.out⟩
      · have := ownsRow_sl h1
        unfold I32s
        simpa using this
      · have := ownsRow_sl h2
        unfold I32s
        simpa using this

end Go.Proofs.Qxb6608735a
