import Derived.Test.Qxb6608735aRowsOwn
namespace Go.Proofs.Qxb6608735a
open Go.RowKit
set_option linter.unusedVariables false

theorem made_row (w : World) (c : Array Value) (e : TypeId) : ∃ cs, Row (w.alloc (.cells c e)) w.heap.size e cs ∧ cs.length = c.size := ⟨_, Row.made w c e, by simp⟩

set_option maxHeartbeats 400000 in
theorem copyStrings_any (v : Value) (ss : List ByteArray) (w : World) (h : Strs w v ss) (hm : ss.length ≤ 1099511627776) :
    Calls Try.prog 16 #[v] w fun e w' => ∃ v', e = .returned v' ∧ Strs w' v' ss ∧ Below w.heap.size w w' := by
  have H := hide h
  obtain ⟨a, cap, rfl, hcap, hcell⟩ := h.open1
  clear h
  have hnil := fun (w : World) => Lib.run_eql_slice_nil (P := Try.prog) w 22 9 a ss.length cap 0 0 Try.underlying22
  by_cases ha : a = none
  · subst ha
    go_enter Try.func16, Try.ntmps16
    go_wp2
    go_ret
    refine ⟨_, rfl, ?_, Below.refl _ _⟩
    have h0 : ss.length = 0 := by
      rcases Nat.eq_zero_or_pos ss.length with h | h
      · exact h
      · obtain ⟨z, hz⟩ := get_of_lt rfl h
        obtain ⟨b, off, hb, _⟩ := hcell 0 z hz
        cases hb
    have : ss = [] := List.eq_nil_of_length_eq_zero h0
    subst this
    exact ⟨_, _, rfl, Nat.le_refl _, rfl, fun h => absurd h (by simp)⟩
  · have ha' : a.isNone = false := by cases a <;> simp_all
    generalize hn : ss.length = n at *
    have HN := hide hn
    have HC := hide hcell
    clear hn hcell ha
    have hmk := make_run 22 9 1 16 _ Try.underlying22 Try.info9 (by omega) n hm
    go_enter Try.func16, Try.ntmps16
    go_wp2
    go_loopw [4] (fun i wr => ∃ (k : Nat) (cs : List Value), k ≤ n ∧ i = .int .i64 k ∧ Row wr w.heap.size 9 cs ∧ cs.length = n ∧ cs.take k = (ss.take k).map Value.string ∧ Below w.heap.size w wr) (fun i _ => n - (intOf i).toNat)
    case atStart =>
      obtain ⟨cs, hr, hl⟩ := made_row w (madeCells #[.string ByteArray.empty] (n * 1)) 9
      exact ⟨0, cs, Nat.zero_le _, rfl, by simpa using hr, by rw [hl, size_madeCells]; omega, by simp, (Below.refl _ _).alloc (Nat.le_refl _) _⟩
    case round =>
      obtain ⟨k, cs, hk, rfl, hr, hl, ht, hb⟩ := hrel
      have HT := hide ht
      have HL := hide hl
      have HR := hide hr
      have HB := hide hb
      clear ht hl hr hb
      by_cases hlt : k < n
      · obtain ⟨z, hz⟩ := get_of_lt HN.out hlt
        obtain ⟨b, off, rfl, hbl, hc⟩ := HC.out k z hz
        have hcr : wr.cell? ⟨b, off + k, none⟩ = some (.string z) := (HB.out.cell (p := ⟨b, off + k, none⟩) hbl).trans hc
        obtain ⟨o, ho⟩ := get_of_lt (k := k) HL.out hlt
        have hco : wr.cell? ⟨w.heap.size, k, none⟩ = some o := (HR.out.cell k).trans ho
        have hfo : wr.frozen? ⟨w.heap.size, k, none⟩ = false := HR.out.frozen k
        have HZ := hide hz
        clear hz ho hc
        go_wp2
        go_roundw
        case rel =>
          refine ⟨k + 1, cs.set k (.string z), by omega, by go_num, HR.out.set k _, by simpa using HL.out, ?_, HB.out.setCell (Nat.le_refl _) _⟩
          rw [set_take1 _ HT.out (by rw [HL.out]; exact hlt), take_snoc HZ.out]; simp
        case measure => simp [intOf]; omega
      · go_wp2
        go_ret
        refine ⟨_, rfl, ?_, HB.out⟩
        have h1 := HT.out
        rw [take_all HN.out (by omega), take_all HL.out (by omega)] at h1
        have := HR.out.sl (size := 1) (n := n) (by rw [HL.out]; omega)
        unfold Strs
        rw [← h1, HN.out]
        exact this

set_option maxHeartbeats 400000 in
theorem copyInt64_any (v : Value) (ss : List Int) (w : World) (h : I64s w v ss) (hm : ss.length ≤ 1099511627776) :
    Calls Try.prog 27 #[v] w fun e w' => ∃ v', e = .returned v' ∧ I64s w' v' ss ∧ Below w.heap.size w w' := by
  have H := hide h
  obtain ⟨a, cap, rfl, hcap, hcell⟩ := h.open1
  clear h
  have hnil := fun (w : World) => Lib.run_eql_slice_nil (P := Try.prog) w 23 2 a ss.length cap 0 0 Try.underlying23
  by_cases ha : a = none
  · subst ha
    go_enter Try.func27, Try.ntmps27
    go_wp2
    go_ret
    refine ⟨_, rfl, ?_, Below.refl _ _⟩
    have h0 : ss.length = 0 := by
      rcases Nat.eq_zero_or_pos ss.length with h | h
      · exact h
      · obtain ⟨z, hz⟩ := get_of_lt rfl h
        obtain ⟨b, off, hb, _⟩ := hcell 0 z hz
        cases hb
    have : ss = [] := List.eq_nil_of_length_eq_zero h0
    subst this
    exact ⟨_, _, rfl, Nat.le_refl _, rfl, fun h => absurd h (by simp)⟩
  · have ha' : a.isNone = false := by cases a <;> simp_all
    generalize hn : ss.length = n at *
    have HN := hide hn
    have HC := hide hcell
    clear hn hcell ha
    have hmk := make_run 23 2 1 8 _ Try.underlying23 Try.info2 (by omega) n hm
    go_enter Try.func27, Try.ntmps27
    go_wp2
    go_loopw [4] (fun i wr => ∃ (k : Nat) (cs : List Value), k ≤ n ∧ i = .int .i64 k ∧ Row wr w.heap.size 2 cs ∧ cs.length = n ∧ cs.take k = (ss.take k).map (Value.int .i64) ∧ Below w.heap.size w wr) (fun i _ => n - (intOf i).toNat)
    case atStart =>
      obtain ⟨cs, hr, hl⟩ := made_row w (madeCells #[.int .i64 0] (n * 1)) 2
      exact ⟨0, cs, Nat.zero_le _, rfl, by simpa using hr, by rw [hl, size_madeCells]; omega, by simp, (Below.refl _ _).alloc (Nat.le_refl _) _⟩
    case round =>
      obtain ⟨k, cs, hk, rfl, hr, hl, ht, hb⟩ := hrel
      have HT := hide ht
      have HL := hide hl
      have HR := hide hr
      have HB := hide hb
      clear ht hl hr hb
      by_cases hlt : k < n
      · obtain ⟨z, hz⟩ := get_of_lt HN.out hlt
        obtain ⟨b, off, rfl, hbl, hc⟩ := HC.out k z hz
        have hcr : wr.cell? ⟨b, off + k, none⟩ = some (.int .i64 z) := (HB.out.cell (p := ⟨b, off + k, none⟩) hbl).trans hc
        obtain ⟨o, ho⟩ := get_of_lt (k := k) HL.out hlt
        have hco : wr.cell? ⟨w.heap.size, k, none⟩ = some o := (HR.out.cell k).trans ho
        have hfo : wr.frozen? ⟨w.heap.size, k, none⟩ = false := HR.out.frozen k
        have HZ := hide hz
        clear hz ho hc
        go_wp2
        go_roundw
        case rel =>
          refine ⟨k + 1, cs.set k (.int .i64 z), by omega, by go_num, HR.out.set k _, by simpa using HL.out, ?_, HB.out.setCell (Nat.le_refl _) _⟩
          rw [set_take1 _ HT.out (by rw [HL.out]; exact hlt), take_snoc HZ.out]; simp
        case measure => simp [intOf]; omega
      · go_wp2
        go_ret
        refine ⟨_, rfl, ?_, HB.out⟩
        have h1 := HT.out
        rw [take_all HN.out (by omega), take_all HL.out (by omega)] at h1
        have := HR.out.sl (size := 1) (n := n) (by rw [HL.out]; omega)
        unfold I64s
        rw [← h1, HN.out]
        exact this


set_option maxHeartbeats 400000 in
/-- zzNames: each string as a name without a domain. -/
theorem names_any (v : Value) (ss : List ByteArray) (w : World) (h : Strs w v ss) (hm : ss.length ≤ 1099511627776) :
    Calls Try.prog 24 #[v] w fun e w' => ∃ v', e = .returned v' ∧ Names w' v' ss ∧ Below w.heap.size w w' := by
  obtain ⟨a, cap, rfl, hcap, hcell⟩ := h.open1
  clear h
  generalize hn : ss.length = n at *
  have HN := hide hn
  have HC := hide hcell
  clear hn hcell
  have hmk := make_run 48 91 2 32 _ Try.underlying48 Try.info91 (by omega) n hm
  go_enter Try.func24, Try.ntmps24
  go_wp2
  go_loopw [4] (fun i wr => ∃ (k : Nat) (cs : List Value), k ≤ n ∧ i = .int .i64 k ∧ Row wr w.heap.size 91 cs ∧ cs.length = n * 2 ∧ cs.take (k * 2) = nameCells (ss.take k) ∧ Below w.heap.size w wr) (fun i _ => n - (intOf i).toNat)
  case atStart =>
    obtain ⟨cs, hr, hl⟩ := made_row w (madeCells #[.string ByteArray.empty, .string ByteArray.empty] (n * 2)) 91
    exact ⟨0, cs, Nat.zero_le _, rfl, hr, by rw [hl, size_madeCells], by simp [nameCells], (Below.refl _ _).alloc (Nat.le_refl _) _⟩
  case round =>
    obtain ⟨k, cs, hk, rfl, hr, hl, ht, hb⟩ := hrel
    have HT := hide ht
    have HL := hide hl
    have HR := hide hr
    have HB := hide hb
    clear ht hl hr hb
    by_cases hlt : k < n
    · obtain ⟨z, hz⟩ := get_of_lt HN.out hlt
      obtain ⟨b, off, rfl, hbl, hc⟩ := HC.out k z hz
      have hcr : wr.cell? ⟨b, off + k, none⟩ = some (.string z) := (HB.out.cell (p := ⟨b, off + k, none⟩) hbl).trans hc
      obtain ⟨o, ho⟩ := get_of_lt (k := k * 2) HL.out (by omega)
      obtain ⟨o2, ho2⟩ := get_of_lt (k := k * 2 + 1) HL.out (by omega)
      have hco : wr.cell? ⟨w.heap.size, k * 2, none⟩ = some o := (HR.out.cell _).trans ho
      have hfo : wr.frozen? ⟨w.heap.size, k * 2, none⟩ = false := HR.out.frozen _
      have hco2 : wr.cell? ⟨w.heap.size, k * 2 + 1, none⟩ = some o2 := (HR.out.cell _).trans ho2
      have hfo2 : wr.frozen? ⟨w.heap.size, k * 2 + 1, none⟩ = false := HR.out.frozen _
      have HZ := hide hz
      clear hz ho hc ho2
      go_wp2
      go_roundw
      case rel =>
        refine ⟨k + 1, (cs.set (k * 2) (.string ⟨#[]⟩)).set (k * 2 + 1) (.string z), by omega, by go_num, (HR.out.set _ _).set _ _, by simpa using HL.out, ?_, (HB.out.setCell (Nat.le_refl _) _).setCell (Nat.le_refl _) _⟩
        rw [set_take2 _ _ HT.out (by rw [HL.out]; omega), take_snoc HZ.out, nameCells_snoc]
      case measure => simp [intOf]; omega
    · go_wp2
      go_ret
      refine ⟨_, rfl, ?_, HB.out⟩
      have h1 := HT.out
      rw [take_all HN.out (by omega), take_all HL.out (by omega)] at h1
      have := HR.out.sl (size := 2) (n := n) HL.out
      unfold Names
      rw [← h1, HN.out]
      exact this

end Go.Proofs.Qxb6608735a
