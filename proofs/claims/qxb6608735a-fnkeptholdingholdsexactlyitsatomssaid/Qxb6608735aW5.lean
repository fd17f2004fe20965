import Derived.Test.Qxb6608735aAppend
import Derived.Deep.RegionHeld3
import Derived.Maps.RangeWalk
namespace Go.Proofs.Qxb6608735a
open Go.RowKit
set_option linter.unusedVariables false

/-- The length in a slice's header: for a loop's measure. -/
def lenIn : Value → Nat | .slice _ n _ => n | _ => 0
theorem lenIn_slice (a : Option Addr) (n c : Nat) : lenIn (.slice a n c) = n := rfl

/-- 'a[1:]'. -/
theorem I64s.tail {w : World} {a : Option Addr} {cap : Nat} {z : Int} {zs : List Int} (h : I64s w (.slice a (zs.length + 1) cap) (z :: zs)) :
    I64s w (.slice (if cap = 1 then a else a.map (·.add 1)) zs.length (cap - 1)) zs := by
  obtain ⟨a', cap', hv, hc, hl, hx⟩ := h
  cases hv
  simp only [List.length_cons] at hc hx
  obtain ⟨b, off, rfl, hb, hcell⟩ := hx (by omega)
  refine ⟨_, _, rfl, by omega, by simp, fun h0 => ?_⟩
  have : ¬ cap = 1 := by omega
  simp only [this, if_false, Option.map_some, Addr.add_lit]
  refine ⟨b, off + 1, rfl, hb, fun j hj => ?_⟩
  have := hcell (j + 1) (by omega)
  rw [show off + 1 + j = off + (j + 1) from by omega, this]
  simp

/-- 'a[1:]', its value a letter. -/
theorem I64s.tailRun {w : World} {a : Option Addr} {cap : Nat} {z : Int} {zs : List Int} (h : I64s w (.slice a (zs.length + 1) cap) (z :: zs)) :
    ∃ v, I64s w v zs ∧ lenIn v = zs.length ∧ ∀ w', (Instr.slice 23 (.slice a (zs.length + 1) cap) (some (.int .i64 1)) none none).run Try.prog w' = .ok v w' := by
  refine ⟨_, h.tail, rfl, fun w' => ?_⟩
  have hb := run_sliceBound (P := Try.prog) w' .i64 1 (zs.length + 1) .sliceB (by omega) (by omega)
  simp [Instr.slice, run_underlying Try.underlying23, Instr.sliceBounds, hb]

theorem I64s.head {w : World} {a : Option Addr} {n cap : Nat} {z : Int} {zs : List Int} (h : I64s w (.slice a n cap) (z :: zs)) : n = zs.length + 1 ∧ zs.length + 1 ≤ cap ∧ ∃ b off, a = some ⟨b, off, none⟩ ∧ b < w.heap.size ∧ w.cell? ⟨b, off, none⟩ = some (.int .i64 z) := by
  obtain ⟨a', cap', hv, hc, hl, hx⟩ := h
  cases hv
  simp only [List.length_cons] at hc hx
  obtain ⟨b, off, rfl, hb, hcell⟩ := hx (by omega)
  exact ⟨rfl, hc, b, off, rfl, hb, by have := hcell 0 (by omega); simpa using this⟩

theorem i64s_oneCell (zs : List Int) : ∀ u ∈ zs.map (Value.int .i64), u.oneCell' = true := ints_oneCell .i64 zs

set_option maxHeartbeats 1000000 in
theorem merge_any (v u : Value) (A B : List Int) (w : World) (h : I64s w v A) (g : I64s w u B) (hm : A.length + B.length ≤ 1099511627776) :
    Calls Try.prog 49 #[v, u] w fun e w' => ∃ v', e = .returned v' ∧ I64s w' v' (mrg A B) ∧ Below w.heap.size w w' := by
  have H := hide h
  have G := hide g
  obtain ⟨a, cap, rfl, hcap, hj1⟩ := h.open1
  obtain ⟨a', cap', rfl, hcap', hj2⟩ := g.open1
  clear h g hj1 hj2
  by_cases hA0 : A = []
  · subst hA0
    go_enter Try.func49, Try.ntmps49
    go_wp2
    go_ret
    exact ⟨_, rfl, by rw [mrg_nil]; exact G.out, Below.refl _ _⟩
  by_cases hB0 : B = []
  · subst hB0
    have hne : ((A.length : Int) == 0) = false := by
      have := List.length_pos_iff.2 hA0
      simp; exact hA0
    go_enter Try.func49, Try.ntmps49
    go_wp2
    go_ret
    exact ⟨_, rfl, by rw [mrg_nil']; exact H.out, Below.refl _ _⟩
  generalize hn : A.length = n at *
  generalize hn' : B.length = n' at *
  have hne : ((n : Int) == 0) = false := by
    have := List.length_pos_iff.2 hA0
    simp; omega
  have hne' : ((n' : Int) == 0) = false := by
    have := List.length_pos_iff.2 hB0
    simp; omega
  have hmk : ∀ w, (Instr.makeSlice 23 (.int .i64 0) (.int .i64 ((n : Int) + (n' : Int)))).run Try.prog w = .ok (.slice (some ⟨w.heap.size, 0, none⟩) 0 (n + n')) (w.alloc (.cells (madeCells #[.int .i64 0] ((n + n') * 1)) 2)) := by
    intro w
    obtain ⟨i, hi, h1, h2, h3⟩ := info_parts Try.info2
    have := run_make (P := Try.prog) w 23 2 i _ Try.underlying23 hi h1 .i64 .i64 0 ((n : Int) + (n' : Int)) (by omega) (by omega) (by rw [h3]; omega) (by omega)
    rw [this, h2, show ((n : Int) + (n' : Int)).toNat = n + n' from by omega]
    rfl
  go_enter Try.func49, Try.ntmps49
  go_wp2
  go_loopw [0, 1, 5] (fun va vb vm wr => ∃ (A' B' : List Int) (m : Nat) (xs : List Int), I64s w va A' ∧ I64s w vb B' ∧ wr.ownsRow w.heap.size 2 1 vm m (xs.map (Value.int .i64)) ∧ xs ++ mrg A' B' = mrg A B ∧ m + A'.length + B'.length ≤ n + n' ∧ Below w.heap.size w wr)
    (fun va vb _ _ => lenIn va + lenIn vb)
  case atStart =>
    exact ⟨A, B, 0, [], H.out, G.out, World.ownsRow_made w _ (n + n') (Nat.le_refl _) (by unfold maxLen; omega) (by simp [size_madeCells]), by simp, by omega, (Below.refl _ _).alloc (Nat.le_refl _) _⟩
  case round =>
    obtain ⟨A', B', m, xs, ha, hb, hown, hx, hml, hbel⟩ := hrel
    obtain ⟨aa, ca, rfl, hca, hj1⟩ := ha.open1
    obtain ⟨ab, cb, rfl, hcb, hj2⟩ := hb.open1
    clear hj1 hj2
    have HA := hide ha
    have HB := hide hb
    have HX := hide hx
    have HBEL := hide hbel
    clear ha hb hx hbel
    cases A' with
    | nil =>
      simp only [List.length_nil] at *
      have hmx : m = xs.length := by have := hown.1; simpa using this.symm
      have HMX := hide hmx
      clear hmx
      have hsz := HBEL.out.size
      have hlp := hide (ownsRow_lt hown)
      go_wp2_with (at_builtin; refine wpList_append_sl _ rfl _ _ 23 rfl w.heap.size 2 (.int .i64 0) 1 8 Try.underlying23 Try.info2 rfl (by omega) u5 m (xs.map (Value.int .i64)) rfl hown (.slice aa 0 ca) 0 [] rfl (HA.out.below (HBEL.out)) (ints_oneCell .i64 []) (by unfold maxLen; omega) (by omega) hsz ?_)
      intro v1 w1 hown1 hgrow1 hat1
      have hb1 : Below w.heap.size w w1 := HBEL.out.grown hgrow1 hsz (fun q hq => (hlp.out q hq).1)
      have hsz1 := hb1.size
      have hlp1 := hide (ownsRow_lt hown1)
      have HO1 := hide hown1
      clear hgrow1 hat1
      go_wp2_with (at_builtin; refine wpList_append_sl _ rfl _ _ 23 rfl w.heap.size 2 (.int .i64 0) 1 8 Try.underlying23 Try.info2 rfl (by omega) _ _ _ rfl HO1.out _ _ _ rfl (HB.out.below hb1) (ints_oneCell .i64 _) (by unfold maxLen; omega) (by omega) hsz1 ?_)
      intro v2 w2 hown2 hgrow2 hat2
      have hb2 : Below w.heap.size w w2 := hb1.grown hgrow2 hsz1 (fun q hq => (hlp1.out q hq).1)
      have HO2 := hide hown2
      have HB2 := hide hb2
      clear hown2 hgrow2 hat2 hb2
      go_wp2
      go_ret
      refine ⟨_, rfl, ?_, HB2.out⟩
      rw [← HX.out]
      have := ownsRow_sl HO2.out
      unfold I64s
      rw [mrg_nil]
      rw [HMX.out] at this
      simpa using this
    | cons x A1 =>
      cases B' with
      | nil =>
        simp only [List.length_nil, List.length_cons] at *
        have hmx : m = xs.length := by have := hown.1; simpa using this.symm
        have HMX := hide hmx
        clear hmx
        have hsz := HBEL.out.size
        have hlp := hide (ownsRow_lt hown)
        go_wp2_with (at_builtin; refine wpList_append_sl _ rfl _ _ 23 rfl w.heap.size 2 (.int .i64 0) 1 8 Try.underlying23 Try.info2 rfl (by omega) u5 m (xs.map (Value.int .i64)) rfl hown (.slice aa (A1.length + 1) ca) (A1.length + 1) ((x :: A1).map (Value.int .i64)) rfl (HA.out.below (HBEL.out)) (ints_oneCell .i64 _) (by unfold maxLen; omega) (by omega) hsz ?_)
        intro v1 w1 hown1 hgrow1 hat1
        have hb1 : Below w.heap.size w w1 := HBEL.out.grown hgrow1 hsz (fun q hq => (hlp.out q hq).1)
        have hsz1 := hb1.size
        have hlp1 := hide (ownsRow_lt hown1)
        have HO1 := hide hown1
        clear hgrow1 hat1
        go_wp2_with (at_builtin; refine wpList_append_sl _ rfl _ _ 23 rfl w.heap.size 2 (.int .i64 0) 1 8 Try.underlying23 Try.info2 rfl (by omega) v1 (m + (A1.length + 1)) _ rfl HO1.out (.slice ab 0 cb) 0 [] rfl (HB.out.below hb1) (ints_oneCell .i64 []) (by unfold maxLen; omega) (by omega) hsz1 ?_)
        intro v2 w2 hown2 hgrow2 hat2
        have hb2 : Below w.heap.size w w2 := hb1.grown hgrow2 hsz1 (fun q hq => (hlp1.out q hq).1)
        have HO2 := hide hown2
        have HB2 := hide hb2
        clear hown2 hgrow2 hat2 hb2
        go_wp2
        go_ret
        refine ⟨_, rfl, ?_, HB2.out⟩
        rw [← HX.out]
        have := ownsRow_sl HO2.out
        unfold I64s
        rw [mrg_nil']
        rw [HMX.out] at this
        simpa using this
      | cons y B1 =>
        obtain ⟨_, hca1, ba, oa, rfl, hba, hcx⟩ := HA.out.head
        obtain ⟨_, hcb1, bb, ob, rfl, hbb, hcy⟩ := HB.out.head
        have hcx' : wr.cell? ⟨ba, oa, none⟩ = some (.int .i64 x) := (HBEL.out.cell (p := ⟨ba, oa, none⟩) hba).trans hcx
        have hcy' : wr.cell? ⟨bb, ob, none⟩ = some (.int .i64 y) := (HBEL.out.cell (p := ⟨bb, ob, none⟩) hbb).trans hcy
        clear hcx hcy
        simp only [List.length_cons] at *
        obtain ⟨va, hva, hla, hsa⟩ := HA.out.tailRun
        obtain ⟨vb, hvb, hlb, hsb⟩ := HB.out.tailRun
        have HVA := hide hva
        have HVB := hide hvb
        have HLA := hide hla
        have HLB := hide hlb
        clear hva hvb hla hlb
        by_cases hxy : x < y
        · go_wp2
          go_quiet (fail)
          go_wp2
          go_region_law ((refine step_append_sl _ (by rfl) _ _ 23 (by rfl) w.heap.size 2 (.int .i64 0) 1 8 Try.underlying23 Try.info2 rfl (by omega) u5 m (xs.map (Value.int .i64)) (by rfl) (by exact hown.alloc _) (.slice (some ⟨wr.heap.size, 0, none⟩) 1 1) 1 [.int .i64 x] (by rfl) (by exact sl_new wr #[.int .i64 x] 2 rfl) (ints_oneCell .i64 [x]) (by unfold maxLen; omega) (by omega) (by simp; have := HBEL.out.size; omega) ?_; intro v1 w1 hown1 hgrow1 hat1))
          have HO := hide hown1
          have HG := hide hgrow1
          clear hown1 hgrow1 hat1
          simp only [List.getElem_toArray, List.getElem_cons_succ, List.getElem_cons_zero]
          go_frame
          go_wp2
          go_roundw
          case rel => exact ⟨A1, y :: B1, m + 1, xs ++ [x], HVA.out, HB.out, by have := HO.out; simpa using this, by rw [← HX.out, mrg_lt _ _ hxy]; simp, by simp only [List.length_cons]; omega, ((below_drewN HBEL.out _).alloc HBEL.out.size _).grown HG.out (by simp; have := HBEL.out.size; omega) (fun q hq => (ownsRow_lt hown q hq).1)⟩
          case measure => have h1 := HLA.out; have h2 := HLB.out; simp only [lenIn_slice]; omega
        · by_cases hyx : y < x
          · go_wp2
            go_quiet (fail)
            go_wp2
            go_quiet (fail)
            go_wp2
            go_region_law ((refine step_append_sl _ (by rfl) _ _ 23 (by rfl) w.heap.size 2 (.int .i64 0) 1 8 Try.underlying23 Try.info2 rfl (by omega) u5 m (xs.map (Value.int .i64)) (by rfl) (by exact hown.alloc _) (.slice (some ⟨wr.heap.size, 0, none⟩) 1 1) 1 [.int .i64 y] (by rfl) (by exact sl_new wr #[.int .i64 y] 2 rfl) (ints_oneCell .i64 [y]) (by unfold maxLen; omega) (by omega) (by simp; have := HBEL.out.size; omega) ?_; intro v1 w1 hown1 hgrow1 hat1))
            have HO := hide hown1
            have HG := hide hgrow1
            clear hown1 hgrow1 hat1
            simp only [List.getElem_toArray, List.getElem_cons_succ, List.getElem_cons_zero]
            go_frame
            go_wp2
            go_roundw
            case rel => exact ⟨x :: A1, B1, m + 1, xs ++ [y], HA.out, HVB.out, by have := HO.out; simpa using this, by rw [← HX.out, mrg_gt _ _ hyx]; simp, by simp only [List.length_cons]; omega, ((below_drewN HBEL.out _).alloc HBEL.out.size _).grown HG.out (by simp; have := HBEL.out.size; omega) (fun q hq => (ownsRow_lt hown q hq).1)⟩
            case measure => have h1 := HLA.out; have h2 := HLB.out; simp only [lenIn_slice]; omega
          · go_wp2
            go_quiet (fail)
            go_wp2
            go_quiet (fail)
            go_wp2
            go_region_law ((refine step_append_sl _ (by rfl) _ _ 23 (by rfl) w.heap.size 2 (.int .i64 0) 1 8 Try.underlying23 Try.info2 rfl (by omega) u5 m (xs.map (Value.int .i64)) (by rfl) (by exact hown.alloc _) (.slice (some ⟨wr.heap.size, 0, none⟩) 1 1) 1 [.int .i64 x] (by rfl) (by exact sl_new wr #[.int .i64 x] 2 rfl) (ints_oneCell .i64 [x]) (by unfold maxLen; omega) (by omega) (by simp; have := HBEL.out.size; omega) ?_; intro v1 w1 hown1 hgrow1 hat1))
            have HO := hide hown1
            have HG := hide hgrow1
            clear hown1 hgrow1 hat1
            simp only [List.getElem_toArray, List.getElem_cons_succ, List.getElem_cons_zero]
            go_frame
            go_wp2
            go_roundw
            case rel => exact ⟨A1, B1, m + 1, xs ++ [x], HVA.out, HVB.out, by have := HO.out; simpa using this, by rw [← HX.out, mrg_eq _ _ (by omega) (by omega)]; simp, by omega, ((below_drewN HBEL.out _).alloc HBEL.out.size _).grown HG.out (by simp; have := HBEL.out.size; omega) (fun q hq => (ownsRow_lt hown q hq).1)⟩
            case measure => have h1 := HLA.out; have h2 := HLB.out; simp only [lenIn_slice]; omega

end Go.Proofs.Qxb6608735a
