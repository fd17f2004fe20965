import Derived.Test.Qxb6608735aW11
import Derived.Test.Qxb6608735aAppend
namespace Go.Proofs.Qxb6608735a
open Go.RowKit
set_option linter.unusedVariables false

set_option maxHeartbeats 400000 in
theorem newAtoms_any (a : Option Addr) (n c : Nat) (m : Option Nat) (w : World) :
    Calls Try.prog 23 #[.slice a n c, .map m] w fun e w' => e = .returned (.pointer (some ⟨w.heap.size, 0, none⟩)) ∧ w' = w.alloc (.cells #[.slice a n c, .map m, .slice none 0 0] 76) := by
  go_enter Try.func23, Try.ntmps23
  go_wp2
  go_ret
  exact ⟨rfl, rfl⟩

set_option maxHeartbeats 400000 in
theorem newCondition_any (a1 : Option Addr) (n1 c1 : Nat) (p : Option Addr) (a2 : Option Addr) (n2 c2 : Nat) (a3 : Option Addr) (n3 c3 : Nat) (w : World) :
    Calls Try.prog 30 #[.slice a1 n1 c1, .pointer p, .slice a2 n2 c2, .slice a3 n3 c3] w fun e w' => e = .returned (.agg #[.slice a1 n1 c1, .pointer p, .slice a2 n2 c2, .slice a3 n3 c3]) ∧ Below w.heap.size w w' := by
  go_enter Try.func30, Try.ntmps30
  go_wp2
  exact bodyPost_ret (v := .agg #[.slice a1 n1 c1, .pointer p, .slice a2 n2 c2, .slice a3 n3 c3]) (by simp [results, Try.results30, go_sem]) rfl ⟨rfl, (Below.refl _ _).alloc (Nat.le_refl _) _⟩

set_option maxHeartbeats 400000 in
theorem callCC_any (R : Ending → World → Prop) (hb : Nat) (a1 : Option Addr) (n1 c1 : Nat) (p : Option Addr) (a2 : Option Addr) (n2 c2 : Nat) (a3 : Option Addr) (n3 c3 : Nat) (w : World) (r : Option (List Int))
    (hc : ∀ w1, Below w.heap.size w w1 → Calls Try.prog 44 #[.agg #[.pointer (some ⟨hb, 0, none⟩)], .agg #[.slice a1 n1 c1, .pointer p, .slice a2 n2 c2, .slice a3 n3 c3]] w1 fun e w' => ChainRes r e w' ∧ Below w1.heap.size w1 w') :
    Calls Try.prog 29 #[.agg #[.pointer (some ⟨hb, 0, none⟩)], .agg #[.slice a1 n1 c1, .pointer p, .slice a2 n2 c2, .slice a3 n3 c3]] w fun e w' => ChainRes r e w' ∧ Below w.heap.size w w' := by
  have HC := hide hc
  clear hc
  go_enter Try.func29, Try.ntmps29
  go_wp2_with fail
  have hbW : Below w.heap.size w ((w.alloc (.cells #[.pointer (some ⟨hb, 0, none⟩)] 32)).alloc (.cells #[.slice a1 n1 c1, .pointer p, .slice a2 n2 c2, .slice a3 n3 c3] 60)) := ((Below.refl _ _).alloc (Nat.le_refl _) _).alloc (by simp) _
  refine (HC.out _ hbW).mono ?_
  rintro e w1 ⟨hres, hb1⟩
  have HB1 := hide (hbW.trans (hb1.mono hbW.size))
  clear hb1 hbW
  cases r with
  | none =>
    cases hres
    go_wp2
    go_ret2
    exact ⟨rfl, HB1.out⟩
  | some l =>
    obtain ⟨v, rfl, hv⟩ := hres
    have HV := hide hv
    clear hv
    go_wp2
    go_ret2
    exact ⟨⟨v, rfl, HV.out⟩, HB1.out⟩

/-! ### zzSplit -/
def posL (L C : List ByteArray) : List Nat := C.filterMap (pos L)
def othL (L C : List ByteArray) : List ByteArray := C.filter (fun s => (pos L s).isNone)

theorem posL_take {L C : List ByteArray} {k : Nat} {s : ByteArray} (h : C[k]? = some s) : posL L (C.take (k + 1)) = posL L (C.take k) ++ (match pos L s with | some p => [p] | none => []) := by
  unfold posL
  rw [take_snoc h, List.filterMap_append]
  cases hp : pos L s <;> simp [hp]
theorem othL_take {L C : List ByteArray} {k : Nat} {s : ByteArray} (h : C[k]? = some s) : othL L (C.take (k + 1)) = othL L (C.take k) ++ (match pos L s with | some p => [] | none => [s]) := by
  unfold othL
  rw [take_snoc h, List.filter_append]
  cases hp : pos L s <;> simp [hp]
theorem posL_length (L C : List ByteArray) : (posL L C).length ≤ C.length := List.length_filterMap_le _ _
theorem othL_length (L C : List ByteArray) : (othL L C).length ≤ C.length := List.length_filter_le _ _

theorem names_oneCell (ss : List ByteArray) : ∀ u ∈ nameCells ss, u.oneCell' = true := by
  intro u hu
  unfold nameCells at hu
  obtain ⟨s, _, hs⟩ := List.mem_flatMap.1 hu
  rcases List.mem_cons.1 hs with h | h
  · rw [h]; rfl
  · rw [List.mem_singleton.1 h]; rfl

set_option maxHeartbeats 1000000 in
theorem split_any (b : Nat) (v : Value) (L C : List ByteArray) (w : World) (hx : IdxMap strKey w b L) (h : Strs w v C) (hm : C.length ≤ 8192) (hmL : L.length ≤ 4096) :
    Calls Try.prog 28 #[.map (some b), v] w fun e w' => ∃ v1 v2, e = .returned (.tuple #[v1, v2]) ∧ I64s w' v1 ((posL L C).map (fun p : Nat => (p : Int))) ∧ Names w' v2 (othL L C) ∧ Below w.heap.size w w' := by
  obtain ⟨a, cap, rfl, hcap, hcell⟩ := h.open1
  clear h
  generalize hn : C.length = n at *
  have HN := hide hn
  have HC := hide hcell
  have HX := hide hx
  clear hn hcell hx
  go_enter Try.func28, Try.ntmps28
  go_wp2
  go_loopw [6, 7, 8] (fun p o i wr => ∃ k : Nat, k ≤ n ∧ i = .int .i64 k ∧ wr.ownsRow w.heap.size 3 1 p (posL L (C.take k)).length (((posL L (C.take k)).map (fun p : Nat => (p : Int))).map (Value.int .i64)) ∧
      wr.ownsRow w.heap.size 91 2 o (othL L (C.take k)).length (nameCells (othL L (C.take k))) ∧ (∀ g, p.ownBlock = some g → o.ownBlock ≠ some g) ∧ Below w.heap.size w wr)
    (fun _ _ i _ => n - (intOf i).toNat)
  case atStart => exact ⟨0, Nat.zero_le _, rfl, World.ownsRow_nil _ _ _ _, World.ownsRow_nil _ _ _ _, (fun g hg => by cases hg), Below.refl _ _⟩
  case round =>
    obtain ⟨k, hk, rfl, hop, hoo, hap, hb⟩ := hrel
    have HP := hide hop
    have HO := hide hoo
    have HA := hide hap
    have HB := hide hb
    clear hop hoo hap hb
    by_cases hlt : k < n
    · obtain ⟨z, hz⟩ := get_of_lt HN.out hlt
      obtain ⟨b', off, rfl, hbl, hc⟩ := HC.out k z hz
      have hcr : wr.cell? ⟨b', off + k, none⟩ = some (.string z) := (HB.out.cell (p := ⟨b', off + k, none⟩) hbl).trans hc
      have hlk := (HX.out.below HX.out.lt HB.out).lookup z
      have HZ := hide hz
      have hsz := HB.out.size
      have hlp := hide (ownsRow_lt HP.out)
      have hlo := hide (ownsRow_lt HO.out)
      have hpl := Nat.le_trans (posL_length L (C.take k)) (List.length_take_le _ _)
      have hol := Nat.le_trans (othL_length L (C.take k)) (List.length_take_le _ _)
      have e1 := posL_take (L := L) hz
      have e2 := othL_take (L := L) hz
      clear hz hc
      cases hp : pos L z with
      | some p =>
        rw [hp] at hlk e1 e2
        have hplt := pos_lt hp
        simp only [Option.getD_some, Option.isSome_some, List.append_nil] at hlk e1 e2
        obtain ⟨N, ps, HE1, HE2⟩ : ∃ N ps, Hid (N = (posL L (C.take k)).length) ∧ Hid (ps = ((posL L (C.take k)).map (fun p : Nat => (p : Int))).map (Value.int .i64)) := ⟨_, _, rfl, rfl⟩
        have hop : wr.ownsRow w.heap.size 3 1 u6 N ps := by rw [HE1.out, HE2.out]; exact HP.out
        rw [← HE1.out] at hpl
        have E1 := hide e1
        have E2 := hide e2
        clear hp e1 e2
        go_wp2_with (at_builtin; refine wpList_append_sl _ rfl _ _ 54 rfl w.heap.size 3 (.int .i64 0) 1 8 Try.underlying54 Try.info3 rfl (by omega) u6 N ps rfl (hop.alloc _) (.slice (some ⟨wr.heap.size, 0, none⟩) 1 1) 1 [.int .i64 (p : Int)] rfl (sl_new wr #[.int .i64 (p : Int)] 3 rfl) (ints_oneCell .i64 [(p : Int)]) (by unfold maxLen; omega) (by omega) (by simp; omega) ?_)
        intro v1 w1 hown1 hgrow1 hat1
        have HO1 := hide hown1
        have HG1 := hide hgrow1
        have HAT := hide hat1
        clear hown1 hgrow1 hat1
        go_wp2
        go_roundw
        case rel =>
          refine ⟨k + 1, by omega, by go_num, ?_, ?_, ?_, ?_⟩
          · rw [E1.out]
            have := HO1.out
            rw [HE1.out, HE2.out] at this
            simpa using this
          · rw [E2.out]
            exact ownsRow_grown (HO.out.alloc _) HG1.out (fun q hq e => HA.out q e hq)
          · intro g hg e
            rcases HAT.out with h | h
            · rw [h] at hg; exact HA.out g hg e
            · rw [h] at hg
              have := (hlo.out g e).2
              simp at hg
              omega
          · exact (HB.out.alloc hsz _).grown HG1.out (by simp; omega) (fun q hq => (hlp.out q hq).1)
        case measure => simp [intOf]; omega
      | none =>
        rw [hp] at hlk e1 e2
        simp only [Option.getD_none, Option.isSome_none, List.append_nil] at hlk e1 e2
        obtain ⟨N, ps, HE1, HE2⟩ : ∃ N ps, Hid (N = (othL L (C.take k)).length) ∧ Hid (ps = nameCells (othL L (C.take k))) := ⟨_, _, rfl, rfl⟩
        have hop : wr.ownsRow w.heap.size 91 2 u7 N ps := by rw [HE1.out, HE2.out]; exact HO.out
        rw [← HE1.out] at hol
        have E1 := hide e1
        have E2 := hide e2
        clear hp e1 e2
        go_wp2_with (at_builtin; refine wpList_append_sl _ rfl _ _ 48 rfl w.heap.size 91 (.agg #[.string ByteArray.empty, .string ByteArray.empty]) 2 32 Try.underlying48 Try.info91 rfl (by omega) u7 N ps rfl (hop.alloc _) (.slice (some ⟨wr.heap.size, 0, none⟩) 1 1) 1 [.string ⟨#[]⟩, .string z] rfl (sl_new wr #[.string ⟨#[]⟩, .string z] 91 rfl) (names_oneCell [z]) (by unfold maxLen; omega) (by omega) (by simp; omega) ?_)
        intro v1 w1 hown1 hgrow1 hat1
        have HO1 := hide hown1
        have HG1 := hide hgrow1
        have HAT := hide hat1
        clear hown1 hgrow1 hat1
        go_wp2
        go_roundw
        case rel =>
          refine ⟨k + 1, by omega, by go_num, ?_, ?_, ?_, ?_⟩
          · rw [E1.out]
            exact ownsRow_grown (HP.out.alloc _) HG1.out (fun q hq e => HA.out q hq e)
          · rw [E2.out, nameCells_snoc]
            have := HO1.out
            rw [HE1.out, HE2.out] at this
            simpa using this
          · intro g hg e
            rcases HAT.out with h | h
            · rw [h] at e; exact HA.out g hg e
            · rw [h] at e
              have := (hlp.out g hg).2
              simp at e
              omega
          · exact (HB.out.alloc hsz _).grown HG1.out (by simp; omega) (fun q hq => (hlo.out q hq).1)
        case measure => simp [intOf]; omega
    · go_wp2
      go_ret2
      have h1 := HP.out
      have h2 := HO.out
      rw [take_all HN.out (by omega)] at h1 h2
      refine ⟨_, _, rfl, ?_, ?_, HB.out⟩
      · have := ownsRow_sl h1
        unfold I64s
        rw [List.length_map]
        exact this
      · exact ownsRow_sl h2

end Go.Proofs.Qxb6608735a
