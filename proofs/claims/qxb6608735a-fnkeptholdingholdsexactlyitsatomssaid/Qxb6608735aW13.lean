import Derived.Test.Qxb6608735aW12
namespace Go.Proofs.Qxb6608735a
open Go.RowKit
set_option linter.unusedVariables false

theorem heldCells_take {H : List (Int × Int)} {k : Nat} {z : Int × Int} (h : H[k]? = some z) : heldCells (H.take (k + 1)) = heldCells (H.take k) ++ [.int .i32 z.1, .int .i32 z.2] := by
  unfold heldCells; rw [take_snoc h]; simp
theorem appCells_take {H : List (Int × Int)} {k : Nat} {z : Int × Int} (h : H[k]? = some z) : appCells (H.take (k + 1)) = appCells (H.take k) ++ [.int .i64 0, .int .i32 z.1, .int .i32 z.2] := by
  unfold appCells; rw [take_snoc h]; simp

theorem three_cells (X : World) (N C H : Array Value) (tn tc th : TypeId) (j : Nat) :
    (((X.alloc (.cells N tn)).alloc (.cells C tc)).alloc (.cells H th)).cell? ⟨X.heap.size, j, none⟩ = N[j]? ∧
    (((X.alloc (.cells N tn)).alloc (.cells C tc)).alloc (.cells H th)).cell? ⟨X.heap.size + 1, j, none⟩ = C[j]? ∧
    (((X.alloc (.cells N tn)).alloc (.cells C tc)).alloc (.cells H th)).cell? ⟨X.heap.size + 1 + 1, j, none⟩ = H[j]? := by
  refine ⟨?_, ?_, ?_⟩
  · rw [World.cell?_alloc_past _ _ _ (by simp; omega), World.cell?_alloc_past _ _ _ (by simp), World.cell?_alloc_at _ _ _ _ rfl]
  · rw [World.cell?_alloc_past _ _ _ (by simp), World.cell?_alloc_at _ _ _ _ (by simp)]
  · rw [World.cell?_alloc_at _ _ _ _ (by simp)]

/-- What newHolding lays at its end. -/
theorem holdAt_mk (ab im : Nat) (L : List ByteArray) (O K : List Int) (A : List (Int × Int)) (T D : List ByteArray) (vi vh va vl vo : Value) (X : World) (r : List Value)
    (hix : X.cell? ⟨ab, 1, none⟩ = some (.map (some im))) (him : IdxMap nameKey X im L) (hra : ∃ cs, Row X ab 76 cs) (hi : Strs X vi D) (hh : Helds X vh (heldL O)) (ha : Apps X va A) (hl : I64s X vl K) (ho : Names X vo T) :
    HoldAt (((X.alloc (.cells (.pointer (some ⟨ab, 0, none⟩) :: vi :: r).toArray 84)).alloc (.cells #[va, vl] 98)).alloc (.cells #[.pointer (some ⟨X.heap.size, 0, none⟩), vh, .pointer none, .pointer (some ⟨X.heap.size + 1, 0, none⟩), vo] 88))
      (X.heap.size + 1 + 1) ab L O K A T D X.heap.size (X.heap.size + 1) im vh va vl vo vi := by
  have hb : Below X.heap.size X (((X.alloc (.cells (.pointer (some ⟨ab, 0, none⟩) :: vi :: r).toArray 84)).alloc (.cells #[va, vl] 98)).alloc (.cells #[.pointer (some ⟨X.heap.size, 0, none⟩), vh, .pointer none, .pointer (some ⟨X.heap.size + 1, 0, none⟩), vo] 88)) :=
    (((Below.refl _ _).alloc (Nat.le_refl _) _).alloc (by simp) _).alloc (by simp; omega) _
  have h3 := three_cells X (.pointer (some ⟨ab, 0, none⟩) :: vi :: r).toArray #[va, vl] #[.pointer (some ⟨X.heap.size, 0, none⟩), vh, .pointer none, .pointer (some ⟨X.heap.size + 1, 0, none⟩), vo] 84 98 88
  obtain ⟨cs, hra⟩ := hra
  exact ⟨by rw [(h3 0).2.2]; simp, by rw [(h3 1).2.2]; simp, by rw [(h3 2).2.2]; simp, by rw [(h3 3).2.2]; simp, by rw [(h3 4).2.2]; simp, by rw [(h3 0).1]; simp, by rw [(h3 1).1]; simp, by rw [(h3 0).2.1]; simp, by rw [(h3 1).2.1]; simp,
    cell_below hix hb, him.below him.lt hb, hh.below hb, ha.below hb, hl.below hb, ho.below hb, hi.below hb, cs, hra.below hra.lt hb⟩

set_option maxHeartbeats 2000000 in
theorem newHolding_any (ab im : Nat) (L : List ByteArray) (O K : List Int) (A : List (Int × Int)) (T D : List ByteArray) (vi vp vw vlo vhi vl vo : Value) (cs0 : List Value) (w : World)
    (hix : w.cell? ⟨ab, 1, none⟩ = some (.map (some im))) (him : IdxMap nameKey w im L) (hra : Row w ab 76 cs0) (hi : Strs w vi D) (hp : I32s w vp ((heldL O).map (·.1))) (hw : I32s w vw ((heldL O).map (·.2)))
    (hlo : I32s w vlo (A.map (·.1))) (hhi : I32s w vhi (A.map (·.2))) (hl : I64s w vl K) (ho : Names w vo T) (hmO : O.length ≤ 4096) (hmA : A.length ≤ 4096) :
    Calls Try.prog 26 #[.pointer (some ⟨ab, 0, none⟩), vi, vp, vw, vlo, vhi, vl, vo] w fun e w' => ∃ hb nb cb vh va, e = .returned (.agg #[.pointer (some ⟨hb, 0, none⟩)]) ∧ HoldAt w' hb ab L O K A T D nb cb im vh va vl vo vi ∧ Below w.heap.size w w' := by
  have HI := hide hi
  have HL := hide hl
  have HO := hide ho
  have HIX := hide hix
  have HIM := hide him
  have HRA := hide hra
  obtain ⟨ai, ci, rfl, hci, hj1⟩ := hi.open1
  obtain ⟨al, cl, rfl, hcl, hj2⟩ := hl.open1
  obtain ⟨ao, co, rfl, hco, hj3⟩ := ho.opened
  obtain ⟨ap, cp, rfl, hcp, hcellp⟩ := hp.open1
  obtain ⟨aw, cw, rfl, hcw, hcellw⟩ := hw.open1
  obtain ⟨alo, clo, rfl, hclo, hcelllo⟩ := hlo.open1
  obtain ⟨ahi, chi, rfl, hchi, hcellhi⟩ := hhi.open1
  clear hj1 hj2 hj3 hi hl ho hp hw hlo hhi hix him hra
  have hHl := heldL_length O
  simp only [List.length_map] at *
  generalize hH : heldL O = H at *
  have HH := hide hH
  clear hH
  generalize hn : H.length = n at *
  generalize hm : A.length = m at *
  have HN := hide hn
  have HM := hide hm
  have HCP := hide hcellp
  have HCW := hide hcellw
  have HCLO := hide hcelllo
  have HCHI := hide hcellhi
  clear hn hm hcellp hcellw hcelllo hcellhi
  have hmk1 := make_run 85 93 2 8 _ Try.underlying85 Try.info93 (by omega) n (by omega)
  have hmk2 := make_run 94 96 3 16 _ Try.underlying94 Try.info96 (by omega) m (by omega)
  go_enter Try.func26, Try.ntmps26
  go_wp2
  go_loopw [18, 26] (fun _ i wr => ∃ (k : Nat) (cs : List Value), k ≤ n ∧ i = .int .i64 k ∧ Row wr (w.heap.size + 1) 93 cs ∧ cs.length = n * 2 ∧ cs.take (k * 2) = heldCells (H.take k) ∧ Row wr w.heap.size 32 [.pointer none] ∧ wr.heap.size = w.heap.size + 2 ∧ Below w.heap.size w wr) (fun _ i _ => n - (intOf i).toNat)
  case atStart =>
    obtain ⟨cs, hr, hl⟩ : ∃ cs, Row ((w.alloc (.cells #[.pointer none] 32)).alloc (.cells (madeCells #[.int .i32 0, .int .i32 0] (n * 2)) 93)) (w.heap.size + 1) 93 cs ∧ cs.length = n * 2 := by
      refine ⟨(madeCells #[.int .i32 0, .int .i32 0] (n * 2)).toList, ?_, made_len _ _⟩
      have := Row.made (w.alloc (.cells #[.pointer none] 32)) (madeCells #[.int .i32 0, .int .i32 0] (n * 2)) 93
      simpa using this
    exact ⟨0, cs, Nat.zero_le _, rfl, hr, hl, by simp [heldCells], (Row.made w #[.pointer none] 32).alloc _, by simp, ((Below.refl _ _).alloc (Nat.le_refl _) _).alloc (by simp) _⟩
  case round =>
    obtain ⟨k, cs, hk, rfl, hr, hl, ht, hr0, hsz, hb⟩ := hrel
    have HT := hide ht
    have HLc := hide hl
    have HR := hide hr
    have HB := hide hb
    have HR0 := hide hr0
    have HSZ := hide hsz
    clear ht hl hr hb hr0 hsz
    by_cases hlt : k < n
    · obtain ⟨z, hz⟩ := get_of_lt HN.out hlt
      obtain ⟨b1, off1, rfl, hbl1, g1⟩ := HCP.out k z.1 (by simp [hz])
      obtain ⟨b2, off2, rfl, hbl2, g2⟩ := HCW.out k z.2 (by simp [hz])
      have g1' : wr.cell? ⟨b1, off1 + k, none⟩ = some (.int .i32 z.1) := cell_below g1 HB.out
      have g2' : wr.cell? ⟨b2, off2 + k, none⟩ = some (.int .i32 z.2) := cell_below g2 HB.out
      obtain ⟨o, ho⟩ := get_of_lt (k := k * 2) HLc.out (by omega)
      obtain ⟨o2, ho2⟩ := get_of_lt (k := k * 2 + 1) HLc.out (by omega)
      have hco : wr.cell? ⟨w.heap.size + 1, k * 2, none⟩ = some o := (HR.out.cell _).trans ho
      have hfo : wr.frozen? ⟨w.heap.size + 1, k * 2, none⟩ = false := HR.out.frozen _
      have hco2 : wr.cell? ⟨w.heap.size + 1, k * 2 + 1, none⟩ = some o2 := (HR.out.cell _).trans ho2
      have hfo2 : wr.frozen? ⟨w.heap.size + 1, k * 2 + 1, none⟩ = false := HR.out.frozen _
      have HZ := hide hz
      have hk' : (0 : Int) ≤ (k : Int) := by omega
      have hlt' : (k : Int) < (n : Int) := by omega
      clear hz g1 g2 ho ho2
      obtain ⟨z1, z2⟩ := z
      simp only at *
      go_wp2
      go_region
      all_goals
        go_wp2
        go_roundw
        case rel =>
          refine ⟨k + 1, (cs.set (k * 2) (.int .i32 z1)).set (k * 2 + 1) (.int .i32 z2), by omega, by go_num, (HR.out.set _ _).set _ _, by simpa using HLc.out, ?_, (HR0.out.other (by simp) _).other (by simp) _, by simpa [World.setCell] using HSZ.out, ((HB.out.drew).setCell (by simp) _).setCell (by simp) _⟩
          rw [set_take2 _ _ HT.out (by rw [HLc.out]; omega), heldCells_take HZ.out]
        case measure => simp [intOf]; omega
    · have h1 := HT.out
      rw [take_all HN.out (by omega), take_all HLc.out (by omega)] at h1
      have HE1 := hide h1
      clear h1
      go_wp2
      rename World => w0
      go_loopw [20, 47] (fun _ i wr => ∃ (k : Nat) (ds : List Value), k ≤ m ∧ i = .int .i64 k ∧ Row wr w0.heap.size 96 ds ∧ ds.length = m * 3 ∧ ds.take (k * 3) = appCells (A.take k) ∧ wr.heap.size = w0.heap.size + 1 ∧ Below w0.heap.size w0 wr) (fun _ i _ => m - (intOf i).toNat)
      case atStart =>
        exact ⟨0, _, Nat.zero_le _, rfl, Row.made _ _ _, made_len _ _, by simp [appCells], by simp, (Below.refl _ _).alloc (Nat.le_refl _) _⟩
      case round =>
        obtain ⟨k2, ds, hk2, rfl, hr2, hl2, ht2, hsz2, hb2⟩ := hrel
        have HT2 := hide ht2
        have HL2 := hide hl2
        have HR2 := hide hr2
        have HB2 := hide hb2
        have HSZ2 := hide hsz2
        clear ht2 hl2 hr2 hb2 hsz2
        by_cases hlt2 : k2 < m
        · obtain ⟨z, hz⟩ := get_of_lt HM.out hlt2
          obtain ⟨b1, off1, rfl, hbl1, g1⟩ := HCLO.out k2 z.1 (by simp [hz])
          obtain ⟨b2, off2, rfl, hbl2, g2⟩ := HCHI.out k2 z.2 (by simp [hz])
          have g1' : wr.cell? ⟨b1, off1 + k2, none⟩ = some (.int .i32 z.1) := cell_below (cell_below g1 HB.out) HB2.out
          have g2' : wr.cell? ⟨b2, off2 + k2, none⟩ = some (.int .i32 z.2) := cell_below (cell_below g2 HB.out) HB2.out
          obtain ⟨o, ho⟩ := get_of_lt (k := k2 * 3) HL2.out (by omega)
          obtain ⟨o2, ho2⟩ := get_of_lt (k := k2 * 3 + 1) HL2.out (by omega)
          obtain ⟨o3, ho3⟩ := get_of_lt (k := k2 * 3 + 2) HL2.out (by omega)
          have hco : wr.cell? ⟨w0.heap.size, k2 * 3, none⟩ = some o := (HR2.out.cell _).trans ho
          have hfo : wr.frozen? ⟨w0.heap.size, k2 * 3, none⟩ = false := HR2.out.frozen _
          have hco2 : wr.cell? ⟨w0.heap.size, k2 * 3 + 1, none⟩ = some o2 := (HR2.out.cell _).trans ho2
          have hfo2 : wr.frozen? ⟨w0.heap.size, k2 * 3 + 1, none⟩ = false := HR2.out.frozen _
          have hco3 : wr.cell? ⟨w0.heap.size, k2 * 3 + 1 + 1, none⟩ = some o3 := (HR2.out.cell _).trans ho3
          have hfo3 : wr.frozen? ⟨w0.heap.size, k2 * 3 + 1 + 1, none⟩ = false := HR2.out.frozen _
          have HZ := hide hz
          have hk2' : (0 : Int) ≤ (k2 : Int) := by omega
          have hlt2' : (k2 : Int) < (m : Int) := by omega
          clear hz g1 g2 ho ho2 ho3
          obtain ⟨z1, z2⟩ := z
          simp only at *
          go_wp2
          go_region
          all_goals
            go_wp2
            go_roundw
            case rel =>
              refine ⟨k2 + 1, ((ds.set (k2 * 3) (.int .i64 0)).set (k2 * 3 + 1) (.int .i32 z1)).set (k2 * 3 + 2) (.int .i32 z2), by omega, by go_num, ((HR2.out.set _ _).set _ _).set _ _, by simpa using HL2.out, ?_, by simpa [World.setCell] using HSZ2.out, (((HB2.out.drew).setCell (Nat.le_refl _) _).setCell (Nat.le_refl _) _).setCell (Nat.le_refl _) _⟩
              rw [set_take3 _ _ _ HT2.out (by rw [HL2.out]; omega), appCells_take HZ.out]
            case measure => simp [intOf]; omega
        · have h2 := HT2.out
          rw [take_all HM.out (by omega), take_all HL2.out (by omega)] at h2
          have HE2 := hide h2
          have hc0 : wr.cell? ⟨w.heap.size, 0, none⟩ = some (.pointer none) := cell_below (HR0.out.cell 0) HB2.out
          have hf0 : wr.frozen? ⟨w.heap.size, 0, none⟩ = false := ((HB2.out.frozen (p := ⟨w.heap.size, 0, none⟩) HR0.out.lt)).trans (HR0.out.frozen 0)
          have hlt0 : w.heap.size < wr.heap.size := Nat.lt_of_lt_of_le HR0.out.lt HB2.out.size
          have hlt1 : w.heap.size < wr.heap.size + 1 := by omega
          have hlt2' : w.heap.size < wr.heap.size + 1 + 1 := by omega
          have hlt3' : w.heap.size < wr.heap.size + 2 := by omega
          clear h2
          go_wp2
          have hbW : Below w.heap.size w wr := HB.out.trans (HB2.out.mono HB.out.size)
          have hbX : Below w.heap.size w (wr.setCell ⟨w.heap.size, 0, none⟩ (.pointer (some ⟨wr.heap.size + 1 + 1, 0, none⟩))) := hbW.setCell (Nat.le_refl _) _
          have hsX : (wr.setCell ⟨w.heap.size, 0, none⟩ (.pointer (some ⟨wr.heap.size + 1 + 1, 0, none⟩))).heap.size = wr.heap.size := by simp [World.setCell]
          have hrh : Row (wr.setCell ⟨w.heap.size, 0, none⟩ (.pointer (some ⟨wr.heap.size + 1 + 1, 0, none⟩))) (w.heap.size + 1) 93 cs := (HR.out.below HR.out.lt HB2.out).other (by simp) _
          have hra : Row (wr.setCell ⟨w.heap.size, 0, none⟩ (.pointer (some ⟨wr.heap.size + 1 + 1, 0, none⟩))) w0.heap.size 96 ds := HR2.out.other (by simp; have := HR0.out.lt; omega) _
          have hc0 : (wr.setCell ⟨w.heap.size, 0, none⟩ (.pointer (some ⟨wr.heap.size + 1 + 1, 0, none⟩))).cell? ⟨w.heap.size, 0, none⟩ = some (.pointer (some ⟨wr.heap.size + 1 + 1, 0, none⟩)) := by
            have := ((HR0.out.below HR0.out.lt HB2.out).set 0 (.pointer (some ⟨wr.heap.size + 1 + 1, 0, none⟩))).cell 0
            simpa using this
          have hmkk := holdAt_mk ab im L O K A T D (.slice ai D.length ci) (.slice (some ⟨w.heap.size + 1, 0, none⟩) n n) (.slice (some ⟨w0.heap.size, 0, none⟩) m m) (.slice al K.length cl) (.slice ao T.length co)
            (wr.setCell ⟨w.heap.size, 0, none⟩ (.pointer (some ⟨wr.heap.size + 1 + 1, 0, none⟩))) [.slice none 0 0, .slice none 0 0, .slice none 0 0, .slice none 0 0, .pointer none, .int .u64 0, .pointer none, .int .u64 0, .nilFunc]
            (cell_below HIX.out hbX) (HIM.out.below HIM.out.lt hbX) ⟨cs0, HRA.out.below HRA.out.lt hbX⟩ (HI.out.below hbX)
            (by rw [HH.out]; unfold Helds; rw [HN.out, ← HE1.out]; exact hrh.sl HLc.out) (by unfold Apps; rw [HM.out, ← HE2.out]; exact hra.sl HL2.out) (HL.out.below hbX) (HO.out.below hbX)
          rw [hsX] at hmkk
          have hbf := ((hbX.alloc (by rw [hsX]; omega) (.cells #[.pointer (some ⟨ab, 0, none⟩), .slice ai D.length ci, .slice none 0 0, .slice none 0 0, .slice none 0 0, .slice none 0 0, .pointer none, .int .u64 0, .pointer none, .int .u64 0, .nilFunc] 84)).alloc (by simp [hsX]; omega) (.cells #[.slice (some ⟨w0.heap.size, 0, none⟩) m m, .slice al K.length cl] 98)).alloc (by simp [hsX]; omega) (.cells #[.pointer (some ⟨wr.heap.size, 0, none⟩), .slice (some ⟨w.heap.size + 1, 0, none⟩) n n, .pointer none, .pointer (some ⟨wr.heap.size + 1, 0, none⟩), .slice ao T.length co] 88)
          refine bodyPost_ret (v := .agg #[.pointer (some ⟨wr.heap.size + 1 + 1, 0, none⟩)]) ?_ rfl ⟨_, _, _, _, _, rfl, hmkk, hbf⟩
          clear hmkk hbf hrh hra hbX hbW
          simp [results, Try.results26, go_sem, hc0, hsX, hlt0, hlt1, hlt3']

end Go.Proofs.Qxb6608735a
