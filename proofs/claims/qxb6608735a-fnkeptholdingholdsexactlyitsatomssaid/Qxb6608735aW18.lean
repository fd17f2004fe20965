import Derived.Test.Qxb6608735aTop2
import Derived.Deep.RegionHeld3
import Derived.Maps.RangeWalk
namespace Go.Proofs.Qxb6608735a
open Go.RowKit
set_option linter.unusedVariables false

/-- The id that a key names. -/
def idAt (D : List ByteArray) (z : Int) : ByteArray := D.getD (wrap32 z).toNat ⟨#[]⟩
def idsL (D : List ByteArray) (l : List Int) : List ByteArray := l.map (idAt D)

theorem idAt_get {D : List ByteArray} {z : Int} (h0 : 0 ≤ wrap32 z) (h1 : wrap32 z < D.length) : ∃ j : Nat, wrap32 z = j ∧ j < D.length ∧ D[j]? = some (idAt D z) := by
  obtain ⟨j, hj⟩ := Int.eq_ofNat_of_zero_le h0
  refine ⟨j, hj, by omega, ?_⟩
  unfold idAt
  rw [hj, Int.toNat_natCast, List.getD_eq_getElem?_getD, List.getElem?_eq_getElem (by omega)]
  rfl

set_option maxHeartbeats 400000 in
theorem mappingOf_any (z : Int) (w : World) : Calls Try.prog 46 #[.int .i64 z] w fun e w' => e = .returned (.int .i64 (wrap32 z)) ∧ w' = w := by
  have h := wrap64_wrap32 z
  go_enter Try.func46, Try.ntmps46
  go_wp2
  go_ret
  exact ⟨ret_int (by simp [h]), rfl⟩

set_option maxHeartbeats 2000000 in
theorem ids_any {w : World} {hb ab : Nat} {L : List ByteArray} {O K : List Int} {A : List (Int × Int)} {T D : List ByteArray} {nb cb im : Nat} {vh va vl vo vi : Value} (h : HoldAt w hb ab L O K A T D nb cb im vh va vl vo vi)
    (v : Value) (l : List Int) (hv : I64s w v l) (hm : l.length ≤ 1099511627776) (mD : D.length ≤ 4096) (hk : ∀ z ∈ l, 0 ≤ wrap32 z ∧ wrap32 z < D.length) :
    Calls Try.prog 43 #[.agg #[.pointer (some ⟨hb, 0, none⟩)], v] w fun e w' => ∃ v', e = .returned v' ∧ Strs w' v' (idsL D l) ∧ Below w.heap.size w w' := by
  have g1 := h.num
  have g2 := h.ids
  have l1 := cell_lt g1
  have l2 := cell_lt g2
  obtain ⟨aD, cD, rfl, hcD, hcellD⟩ := h.isIds.open1
  clear h
  obtain ⟨a, cap, rfl, hcap, hcell⟩ := hv.open1
  clear hv
  by_cases hl0 : l.length = 0
  · have : l = [] := List.eq_nil_of_length_eq_zero hl0
    subst this
    go_enter Try.func43, Try.ntmps43
    go_wp2
    go_ret
    exact ⟨_, rfl, ⟨_, _, rfl, Nat.le_refl _, rfl, fun h => absurd h (by simp [idsL])⟩, (Below.refl _ _).alloc (Nat.le_refl _) _⟩
  · generalize hn : l.length = n at *
    generalize hnD : D.length = nD at *
    have HN := hide hn
    have HND := hide hnD
    have HC := hide hcell
    have HCD := hide hcellD
    have HK := hide hk
    clear hn hnD hcell hcellD hk
    have hmk := make_run 22 9 1 16 _ Try.underlying22 Try.info9 (by omega) n hm
    have hnz : ((n : Int) == 0) = false := by simp; omega
    go_enter Try.func43, Try.ntmps43
    go_wp2
    go_loopw [6, 7, 16] (fun _ _ i wr => ∃ (k : Nat) (cs : List Value), k ≤ n ∧ i = .int .i64 k ∧ Row wr (w.heap.size + 1) 9 cs ∧ cs.length = n ∧ cs.take k = (idsL D (l.take k)).map Value.string ∧ Row wr w.heap.size 32 [.pointer (some ⟨hb, 0, none⟩)] ∧ Below w.heap.size w wr) (fun _ _ i _ => n - (intOf i).toNat)
    case atStart =>
      obtain ⟨cs, hr, hl⟩ := made_row (w.alloc (.cells #[.pointer (some ⟨hb, 0, none⟩)] 32)) (madeCells #[.string ByteArray.empty] (n * 1)) 9
      exact ⟨0, cs, Nat.zero_le _, rfl, by simpa using hr, by rw [hl, size_madeCells]; omega, by simp [idsL], by simpa using (Row.made w #[.pointer (some ⟨hb, 0, none⟩)] 32).alloc _, ((Below.refl _ _).alloc (Nat.le_refl _) _).alloc (by simp) _⟩
    case round =>
      obtain ⟨k, cs, hkn, rfl, hr, hl, ht, hr0, hbel⟩ := hrel
      have HT := hide ht
      have HL := hide hl
      have HR := hide hr
      have HR0 := hide hr0
      have HB := hide hbel
      clear ht hl hr hr0 hbel
      by_cases hlt : k < n
      · obtain ⟨z, hz⟩ := get_of_lt HN.out hlt
        obtain ⟨b, off, rfl, hbl, hc⟩ := HC.out k z hz
        have hcr : wr.cell? ⟨b, off + k, none⟩ = some (.int .i64 z) := (HB.out.cell (p := ⟨b, off + k, none⟩) hbl).trans hc
        obtain ⟨k0, k1⟩ := HK.out z (List.mem_of_getElem? hz)
        obtain ⟨j, hj, hjl, hDj⟩ := idAt_get k0 (by rw [HND.out]; exact k1)
        obtain ⟨bD, offD, rfl, hbD, hcD1⟩ := HCD.out j _ hDj
        obtain ⟨s, HSs⟩ : ∃ s, Hid (s = idAt D z) := ⟨_, rfl⟩
        rw [← HSs.out] at hcD1
        have hcD' : wr.cell? ⟨bD, offD + j, none⟩ = some (.string s) := (HB.out.cell (p := ⟨bD, offD + j, none⟩) hbD).trans hcD1
        have e1 : wr.cell? ⟨w.heap.size, 0, none⟩ = some (.pointer (some ⟨hb, 0, none⟩)) := HR0.out.cell 0
        have e2 : wr.cell? ⟨hb, 0, none⟩ = some (.pointer (some ⟨nb, 0, none⟩)) := cell_below g1 HB.out
        have e3 : wr.cell? ⟨nb, 1, none⟩ = some (.slice (some ⟨bD, offD, none⟩) nD cD) := cell_below g2 HB.out
        obtain ⟨o, ho⟩ := get_of_lt (k := k) HL.out hlt
        have hco : wr.cell? ⟨w.heap.size + 1, k, none⟩ = some o := (HR.out.cell k).trans ho
        have hfo : wr.frozen? ⟨w.heap.size + 1, k, none⟩ = false := HR.out.frozen k
        have hw : Hid (∀ x, Calls Try.prog 46 #[.int .i64 z] x fun e w' => e = .returned (.int .i64 (j : Int)) ∧ w' = x) := fun x => by rw [← hj]; exact mappingOf_any z x
        have hkk : (0 : Int) ≤ (k : Int) := by omega
        have hkl : (k : Int) < (n : Int) := by omega
        have hj0 : (0 : Int) ≤ (j : Int) := by omega
        have hj1 : (j : Int) < (nD : Int) := by omega
        have q1 : w.heap.size + 1 ≠ w.heap.size := by omega
        have q2 : w.heap.size + 1 ≠ hb := by omega
        have q3 : w.heap.size + 1 ≠ nb := by omega
        have q4 : w.heap.size + 1 ≠ bD := by omega
        have HZ := hide hz
        clear hz ho hc hDj hcD1 k0 k1 hj
        go_wp2
        go_region_held3 (fun w' => w'.cell? ⟨w.heap.size, 0, none⟩ = some (.pointer (some ⟨hb, 0, none⟩)) ∧ w'.cell? ⟨hb, 0, none⟩ = some (.pointer (some ⟨nb, 0, none⟩)) ∧ w'.cell? ⟨nb, 1, none⟩ = some (.slice (some ⟨bD, offD, none⟩) nD cD) ∧ w'.cell? ⟨bD, offD + j, none⟩ = some (.string s))
          (go_keep) (first | (go_at_call 46; refine (hw.out _).mono ?_; rintro e x ⟨rfl, rfl⟩))
        all_goals
          go_wp2
          go_roundw
          case rel =>
            refine ⟨k + 1, cs.set k (.string s), by omega, by go_num, HR.out.set k _, by simpa using HL.out, ?_, HR0.out.other (by simp) _, HB.out.drew.setCell (by simp) _⟩
            rw [set_take1 _ HT.out (by rw [HL.out]; exact hlt), take_snoc HZ.out, HSs.out]; simp [idsL]
          case measure => simp [intOf]; omega
      · go_wp2
        go_ret
        refine ⟨_, rfl, ?_, HB.out⟩
        have h1 := HT.out
        rw [take_all HN.out (by omega), take_all HL.out (by omega)] at h1
        have := HR.out.sl (size := 1) (n := n) (by rw [HL.out]; omega)
        unfold Strs
        rw [← h1, show (idsL D l).length = n from by unfold idsL; rw [List.length_map, HN.out]]
        exact this

set_option maxHeartbeats 1000000 in
theorem idsOf_any (v u : Value) (l : List Int) (D : List ByteArray) (w : World) (hv : I64s w v l) (hu : Strs w u D) (hm : l.length ≤ 1099511627776) (mD : D.length ≤ 4096) (hk : ∀ z ∈ l, 0 ≤ wrap32 z ∧ wrap32 z < D.length) :
    Calls Try.prog 37 #[v, u] w fun e w' => ∃ v', e = .returned v' ∧ Strs w' v' (idsL D l) ∧ Below w.heap.size w w' := by
  obtain ⟨a, cap, rfl, hcap, hcell⟩ := hv.open1
  obtain ⟨aD, cD, rfl, hcD, hcellD⟩ := hu.open1
  clear hv hu
  generalize hn : l.length = n at *
  generalize hnD : D.length = nD at *
  have HN := hide hn
  have HND := hide hnD
  have HC := hide hcell
  have HCD := hide hcellD
  have HK := hide hk
  clear hn hnD hcell hcellD hk
  go_enter Try.func37, Try.ntmps37
  go_wp2
  go_loopw [5, 6] (fun o i wr => ∃ (k : Nat) (cs : List Value), k ≤ n ∧ i = .int .i64 k ∧ wr.ownsRow w.heap.size 9 1 o k cs ∧ cs = (idsL D (l.take k)).map Value.string ∧ Below w.heap.size w wr) (fun _ i _ => n - (intOf i).toNat)
  case atStart => exact ⟨0, [], Nat.zero_le _, rfl, World.ownsRow_nil _ _ _ _, by simp [idsL], Below.refl _ _⟩
  case round =>
    obtain ⟨k, cs, hkn, rfl, hown, hcs, hbel⟩ := hrel
    have HCS := hide hcs
    have HB := hide hbel
    have hsz := hbel.size
    have HLP := hide (ownsRow_lt hown)
    clear hcs hbel
    by_cases hlt : k < n
    · obtain ⟨z, hz⟩ := get_of_lt HN.out hlt
      obtain ⟨b, off, rfl, hbl, hc⟩ := HC.out k z hz
      have hcr : wr.cell? ⟨b, off + k, none⟩ = some (.int .i64 z) := (HB.out.cell (p := ⟨b, off + k, none⟩) hbl).trans hc
      obtain ⟨k0, k1⟩ := HK.out z (List.mem_of_getElem? hz)
      obtain ⟨j, hj, hjl, hDj⟩ := idAt_get k0 (by rw [HND.out]; exact k1)
      obtain ⟨bD, offD, rfl, hbD, hcD1⟩ := HCD.out j _ hDj
      obtain ⟨s, HSs⟩ : ∃ s, Hid (s = idAt D z) := ⟨_, rfl⟩
      rw [← HSs.out] at hcD1
      have hcD' : wr.cell? ⟨bD, offD + j, none⟩ = some (.string s) := (HB.out.cell (p := ⟨bD, offD + j, none⟩) hbD).trans hcD1
      have hj0 : (0 : Int) ≤ (j : Int) := by omega
      have hj1 : (j : Int) < (nD : Int) := by omega
      have HZ := hide hz
      clear hz hc hDj hcD1 k0 k1
      go_wp2_with (at_builtin; refine wpList_append_sl _ rfl _ _ 22 rfl w.heap.size 9 (.string ByteArray.empty) 1 16 Try.underlying22 Try.info9 rfl (by omega) u5 k cs rfl (hown.alloc _) (.slice (some ⟨wr.heap.size, 0, none⟩) 1 1) 1 [.string s] rfl (sl_new wr #[.string s] 9 rfl) (by intro u hu; rw [List.mem_singleton.1 hu]; rfl) (by unfold maxLen; omega) (by omega) (by simp; omega) ?_)
      intro v1 w1 hown1 hgrow1 hat1
      have HO1 := hide hown1
      have HG1 := hide hgrow1
      clear hown1 hgrow1 hat1
      go_wp2
      go_roundw
      case rel =>
        refine ⟨k + 1, cs ++ [.string s], by omega, by go_num, HO1.out, ?_, (HB.out.alloc hsz _).grown HG1.out (by simp; omega) (fun q hq => (HLP.out q hq).1)⟩
        rw [HCS.out, take_snoc HZ.out, HSs.out]; simp [idsL]
      case measure => simp [intOf]; omega
    · go_wp2
      go_ret
      refine ⟨_, rfl, ?_, HB.out⟩
      have e : k = n := by omega
      subst e
      have h1 := HCS.out
      rw [take_all HN.out (Nat.le_refl _)] at h1
      have := ownsRow_sl hown
      unfold Strs
      rw [← h1, show (idsL D l).length = k from by unfold idsL; rw [List.length_map, HN.out]]
      exact this

set_option maxHeartbeats 1000000 in
theorem via_any {w : World} {hb ab : Nat} {L : List ByteArray} {O K : List Int} {A : List (Int × Int)} {T D : List ByteArray} {nb cb im : Nat} {vh va vl vo vi : Value} (h : HoldAt w hb ab L O K A T D nb cb im vh va vl vo vi)
    (a1 : Option Addr) (n1 c1 : Nat) (p : Option Addr) (a2 : Option Addr) (n2 c2 : Nat) (a3 : Option Addr) (n3 c3 : Nat) (r : Option (List Int))
    (hc : ∀ w1, Below w.heap.size w w1 → Calls Try.prog 44 #[.agg #[.pointer (some ⟨hb, 0, none⟩)], .agg #[.slice a1 n1 c1, .pointer p, .slice a2 n2 c2, .slice a3 n3 c3]] w1 fun e w' => ChainRes r e w' ∧ Below w1.heap.size w1 w')
    (hm : (r.getD []).length ≤ 1099511627776) (mD : D.length ≤ 4096) (hk : ∀ z ∈ r.getD [], 0 ≤ wrap32 z ∧ wrap32 z < D.length) :
    Calls Try.prog 36 #[.agg #[.pointer (some ⟨hb, 0, none⟩)], .agg #[.slice a1 n1 c1, .pointer p, .slice a2 n2 c2, .slice a3 n3 c3]] w fun e w' => ∃ v', e = .returned (.tuple #[v', .bool r.isSome]) ∧ Strs w' v' (idsL D (r.getD [])) ∧ Below w.heap.size w w' := by
  have HC := hide hc
  have H := hide h
  have HM := hide hm
  have HK := hide hk
  clear hc h hm hk
  go_enter Try.func36, Try.ntmps36
  go_wp2_with fail
  have hbW : Below w.heap.size w ((w.alloc (.cells #[.pointer (some ⟨hb, 0, none⟩)] 32)).alloc (.cells #[.slice a1 n1 c1, .pointer p, .slice a2 n2 c2, .slice a3 n3 c3] 60)) := ((Below.refl _ _).alloc (Nat.le_refl _) _).alloc (by simp) _
  have hbx : ((w.alloc (.cells #[.pointer (some ⟨hb, 0, none⟩)] 32)).alloc (.cells #[.slice a1 n1 c1, .pointer p, .slice a2 n2 c2, .slice a3 n3 c3] 60)).cell? ⟨w.heap.size, 0, none⟩ = some (.pointer (some ⟨hb, 0, none⟩)) := by
    rw [World.cell?_alloc_past _ _ _ (by simp), World.cell?_alloc_at _ _ _ _ rfl]; rfl
  refine (HC.out _ hbW).mono ?_
  rintro e w1 ⟨hres, hb1⟩
  have hbx1 := cell_below hbx hb1
  have HB1 := hide (hbW.trans (hb1.mono hbW.size))
  clear hb1 hbW hbx
  obtain ⟨ar, nr, cr, br, rfl, hr⟩ := ChainRes.as hres
  have HR := hide hr
  clear hres hr
  go_wp2_with fail
  refine (ids_any (H.out.below HB1.out) _ _ HR.out.2.2 HM.out mD HK.out).mono ?_
  rintro e w2 ⟨v', rfl, hv', hb2⟩
  have HV := hide hv'
  have HB2 := hide (Below.then HB1.out hb2)
  clear hv' hb2
  go_wp2
  go_ret2
  have e := HR.out.1
  subst e
  exact ⟨_, rfl, HV.out, HB2.out⟩

set_option maxHeartbeats 400000 in
theorem newKept_any (hb : Nat) (w : World) :
    Calls Try.prog 40 #[.agg #[.pointer (some ⟨hb, 0, none⟩)]] w fun e w' => ∃ kb, e = .returned (.pointer (some ⟨kb, 0, none⟩)) ∧ w'.cell? ⟨kb, 1, none⟩ = some (.pointer (some ⟨hb, 0, none⟩)) ∧ w.heap.size ≤ kb ∧ Below w.heap.size w w' := by
  go_enter Try.func40, Try.ntmps40
  go_wp2
  go_ret
  refine ⟨_, rfl, ?_, by simp, ((Below.refl _ _).alloc (Nat.le_refl _) _).alloc (by simp) _⟩
  rw [World.cell?_alloc_at _ _ _ _ (by simp)]
  rfl

set_option maxHeartbeats 400000 in
theorem keptHolding_any (kb hb : Nat) (w : World) (hk : w.cell? ⟨kb, 1, none⟩ = some (.pointer (some ⟨hb, 0, none⟩))) :
    Calls Try.prog 41 #[.pointer (some ⟨kb, 0, none⟩)] w fun e w' => e = .returned (.agg #[.pointer (some ⟨hb, 0, none⟩)]) ∧ Below w.heap.size w w' := by
  have hlt := cell_lt hk
  go_enter Try.func41, Try.ntmps41
  go_wp2
  refine bodyPost_ret (v := .agg #[.pointer (some ⟨hb, 0, none⟩)]) (by simp [results, Try.results41, go_sem]) rfl ⟨rfl, (Below.refl _ _).alloc (Nat.le_refl _) _⟩

end Go.Proofs.Qxb6608735a
