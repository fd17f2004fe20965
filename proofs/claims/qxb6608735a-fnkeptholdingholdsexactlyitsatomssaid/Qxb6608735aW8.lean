import Derived.Test.Qxb6608735aW7
import Derived.Test.Qxb6608735aW5
namespace Go.Proofs.Qxb6608735a
open Go.RowKit
set_option linter.unusedVariables false

/-- The name of a string, as a value that is handed over. -/
theorem nameKey_eq (s : ByteArray) : nameKey s = .agg #[.string ⟨#[]⟩, .string s] := rfl

theorem toList_beq (s t : ByteArray) : (s.toList == t.toList) = decide (s = t) := by rw [← beq_toListBytes, ba_beq]

set_option maxHeartbeats 1000000 in
theorem sliceIndex_any (v : Value) (T : List ByteArray) (s : ByteArray) (w : World) (h : Names w v T) (hm : T.length ≤ 1099511627776) :
    Calls Try.prog 54 #[v, .agg #[.string ⟨#[]⟩, .string s]] w fun e w' => (∃ r : Int, e = .returned (.int .i64 r) ∧ ((s ∈ T ∧ 0 ≤ r) ∨ (s ∉ T ∧ r = -1))) ∧ Below w.heap.size w w' := by
  obtain ⟨a, cap, rfl, hcap, hcell⟩ := h.opened
  clear h
  generalize hn : T.length = n at *
  have HN := hide hn
  have HC := hide hcell
  clear hn hcell
  go_enter Try.func54, Try.ntmps54
  go_wp2
  go_loopw [8, 5] (fun i j wr => ∃ k : Nat, k ≤ n ∧ i = .int .i64 k ∧ s ∉ T.take k ∧ ∃ q, wr = (w.alloc (.cells #[.string ⟨#[]⟩, .string s] 91)).drewN q) (fun i _ _ => n - (intOf i).toNat)
  case atStart => exact ⟨0, Nat.zero_le _, rfl, by simp, 0, rfl⟩
  case round =>
    obtain ⟨k, hk, rfl, hnot, q, rfl⟩ := hrel
    have HT := hide hnot
    clear hnot
    by_cases hlt : k < n
    · obtain ⟨z, hz⟩ := get_of_lt HN.out hlt
      obtain ⟨b, off, rfl, hbl, hc1, hc2⟩ := HC.out k z hz
      have HZ := hide hz
      clear hz
      by_cases hx : s = z
      · have hx' : (s.toList == z.toList) = true := by rw [toList_beq]; simp [hx]
        go_wp2
        go_quiet (fail)
        go_wp2
        go_ret
        refine ⟨⟨_, rfl, .inl ⟨by rw [hx]; exact List.mem_of_getElem? HZ.out, by omega⟩⟩, below_drewN (below_drewN ((Below.refl _ _).alloc (Nat.le_refl _) _) _) _⟩
      · have hx' : (s.toList == z.toList) = false := by rw [toList_beq]; simp [hx]
        go_wp2
        go_quiet (fail)
        go_wp2
        go_roundw
        case rel => exact ⟨k + 1, by omega, by go_num, not_mem_take_succ HZ.out HT.out (fun e => hx e.symm), _, rfl⟩
        case measure => simp [intOf]; omega
    · go_wp2
      go_ret
      have h1 := HT.out
      rw [take_all HN.out (by omega)] at h1
      exact ⟨⟨_, rfl, .inr ⟨h1, rfl⟩⟩, below_drewN ((Below.refl _ _).alloc (Nat.le_refl _) _) _⟩

set_option maxHeartbeats 400000 in
theorem contains_any (v : Value) (T : List ByteArray) (s : ByteArray) (w : World) (h : Names w v T) (hm : T.length ≤ 1099511627776) :
    Calls Try.prog 50 #[v, .agg #[.string ⟨#[]⟩, .string s]] w fun e w' => e = .returned (.bool (pos T s).isSome) ∧ Below w.heap.size w w' := by
  have H := hide h
  clear h
  go_enter Try.func50, Try.ntmps50
  go_wp2_with fail
  refine (sliceIndex_any v T s _ (H.out.below ((Below.refl _ _).alloc (Nat.le_refl _) _)) hm).mono ?_
  rintro e w' ⟨⟨r, rfl, hr⟩, hb⟩
  have HB := hide hb
  clear hb
  rcases hr with ⟨hs, hr⟩ | ⟨hs, rfl⟩
  · have hp := pos_isSome hs
    clear hs
    go_wp2
    go_ret
    exact ⟨ret_bool hp.symm, ((Below.refl _ _).alloc (Nat.le_refl _) _).trans (HB.out.mono (by simp))⟩
  · have hp := pos_isSome_not hs
    clear hs
    go_wp2
    go_ret
    exact ⟨ret_bool hp.symm, ((Below.refl _ _).alloc (Nat.le_refl _) _).trans (HB.out.mono (by simp))⟩

set_option maxHeartbeats 1000000 in
theorem find_any {w : World} {hb ab : Nat} {L : List ByteArray} {O K : List Int} {A : List (Int × Int)} {T D : List ByteArray} {nb cb im : Nat} {vh va vl vo vi : Value} (h : HoldAt w hb ab L O K A T D nb cb im vh va vl vo vi) (s : ByteArray)
    (hm : O.length ≤ 4096) (hmA : A.length ≤ 4096) (hmL : L.length ≤ 4096) (hmT : T.length ≤ 4096) (hO : ∀ o ∈ O, o < A.length) (hA : ∀ x ∈ A, 0 ≤ x.1 ∧ x.1 ≤ x.2 ∧ x.2 ≤ K.length) :
    Calls Try.prog 51 #[.agg #[.pointer (some ⟨hb, 0, none⟩)], .agg #[.string ⟨#[]⟩, .string s]] w fun e w' => ChainRes (lookL L O K A T s) e w' ∧ Below w.heap.size w w' := by
  have H := hide h
  have l1 := cell_lt h.num
  have l2 := cell_lt h.atoms
  have l3 := cell_lt h.index
  have l4 := h.isIndex.lt
  have c1 := h.num
  have c2 := h.atoms
  have c3 := h.index
  have c4 := h.others
  clear h
  have HO := hide hO
  have HA := hide hA
  clear hO hA
  have hlk : ∀ q, (Instr.lookup 50 (.map (some im)) (.agg #[.string ⟨#[]⟩, .string s]) true).run Try.prog (((w.alloc (.cells #[.pointer (some ⟨hb, 0, none⟩)] 32)).alloc (.cells #[.string ⟨#[]⟩, .string s] 91)).drewN q) = .ok (.tuple #[.int .i64 ((pos L s).getD 0 : Nat), .bool (pos L s).isSome]) (((w.alloc (.cells #[.pointer (some ⟨hb, 0, none⟩)] 32)).alloc (.cells #[.string ⟨#[]⟩, .string s] 91)).drewN q) := fun q =>
    (((H.out.below ((Below.refl _ _).alloc (Nat.le_refl _) _)).below ((Below.refl _ _).alloc (Nat.le_refl _) _)).drewN q).isIndex.lookupName s
  have hbel : Below w.heap.size w ((w.alloc (.cells #[.pointer (some ⟨hb, 0, none⟩)] 32)).alloc (.cells #[.string ⟨#[]⟩, .string s] 91)) := ((Below.refl _ _).alloc (Nat.le_refl _) _).alloc (by simp) _
  have HBEL := hide hbel
  clear hbel
  cases hp : pos L s with
  | some p =>
    rw [hp] at hlk
    have hpl := pos_lt hp
    have hl : lookL L O K A T s = atL O K A p := by unfold lookL; rw [hp]
    have HL := hide hl
    clear hp hl
    simp only [Option.getD_some, Option.isSome_some] at hlk
    go_enter Try.func51, Try.ntmps51
    go_wp2
    go_quiet (fail)
    go_wp2_with fail
    refine (at_any ((H.out.below HBEL.out).drewN _) p hm hmA HO.out HA.out).mono ?_
    rintro e w' ⟨hres, hb1⟩
    rw [← HL.out] at hres
    have HB1 := hide (HBEL.out.trans ((below_drewN (Below.refl _ _) _).trans (hb1.mono (by simp; have := HBEL.out.size; simp at this; omega))))
    clear hb1
    cases hr : lookL L O K A T s with
    | none =>
      rw [hr] at hres
      cases hres
      have HR := hide hr
      clear hr
      go_wp2
      go_ret2
      refine ⟨?_, HB1.out⟩
      rw [HR.out]; rfl
    | some l =>
      rw [hr] at hres
      obtain ⟨v, rfl, hv⟩ := hres
      have HR := hide hr
      have HV := hide hv
      clear hr hv
      go_wp2
      go_ret2
      refine ⟨?_, HB1.out⟩
      rw [HR.out]; exact ⟨v, rfl, HV.out⟩
  | none =>
    rw [hp] at hlk
    have hl : lookL L O K A T s = if (pos T s).isSome then some [] else none := by unfold lookL; rw [hp]
    have HL := hide hl
    clear hp hl
    simp only [Option.getD_none, Option.isSome_none] at hlk
    go_enter Try.func51, Try.ntmps51
    go_wp2
    go_quiet (fail)
    go_wp2
    go_region_with (go_at_call 50; refine (contains_any vo T s _ ?_ ?_).mono ?_; exact ((H.out.below HBEL.out).drewN _).isOthers; omega; rintro e w1 ⟨rfl, hb1⟩)
    all_goals
      simp only [List.getElem_toArray, List.getElem_cons_succ, List.getElem_cons_zero]
      go_frame
      have HB1 := hide (HBEL.out.trans ((below_drewN (Below.refl _ _) _).trans (hb1.mono (by simp; have := HBEL.out.size; simp at this; omega))))
      clear hb1
      go_wp2
      go_ret2
      refine ⟨?_, HB1.out⟩
      rw [HL.out]
      cases hps : (pos T s).isSome with
      | false => simp [ChainRes]
      | true => simp only [if_true]; exact ⟨_, by simp, nil64 _⟩

end Go.Proofs.Qxb6608735a
