import Derived.Test.Qxb6608735aW9
import Derived.LaidEqlPtr
namespace Go.Proofs.Qxb6608735a
open Go.RowKit
set_option linter.unusedVariables false

theorem Try.info76 : (Try.prog.info? 76).map (fun i => i.size) = some 3 := by kernel_rfl

theorem neq_same (w : World) (a : Addr) : (binOp .neq 46 (.pointer (some a)) (.pointer (some a))).run Try.prog w = .ok (.bool false) w := by
  obtain ⟨i, hi, hs⟩ := Option.map_eq_some_iff.1 Try.info76
  have h : ∀ d : Nat, (Op.equalIn (d + 1) 46 (.pointer (some a)) (.pointer (some a))).run Try.prog w = .ok true w := fun d => by
    simp [Op.equalIn, run_underlying Try.underlying46, sizeOf, typeInfo, hi, run_sameAddr_same]
  simp only [binOp]
  simp [Op.equal, Op.maxDepth, h 9999]

theorem neq_other {w : World} {a b : Nat} {ca cb : List Value} {ta tb : TypeId} (hne : a ≠ b) (ha : Row w a ta ca) (hb : Row w b tb cb) : (binOp .neq 46 (.pointer (some ⟨a, 0, none⟩)) (.pointer (some ⟨b, 0, none⟩))).run Try.prog w = .ok (.bool true) w := by
  obtain ⟨i, hi, hs⟩ := Option.map_eq_some_iff.1 Try.info76
  have hs' := run_sameAddr_other (P := Try.prog) w (a := ⟨a, 0, none⟩) (b := ⟨b, 0, none⟩) (fun e => hne (congrArg Addr.block e)) ha hb
  have h : ∀ d : Nat, (Op.equalIn (d + 1) 46 (.pointer (some ⟨a, 0, none⟩)) (.pointer (some ⟨b, 0, none⟩))).run Try.prog w = .ok false w := fun d => by
    simp [Op.equalIn, run_underlying Try.underlying46, sizeOf, typeInfo, hi, hs, hs']
  simp only [binOp]
  simp [Op.equal, Op.maxDepth, h 9999]

set_option maxHeartbeats 1000000 in
/-- A condition of another coalition: the name path. -/
theorem condChain_other {w : World} {hb ab : Nat} {L : List ByteArray} {O K : List Int} {A : List (Int × Int)} {T D : List ByteArray} {nb cb im : Nat} {vh va vl vo vi : Value} (h : HoldAt w hb ab L O K A T D nb cb im vh va vl vo vi) (cab : Nat) (cs : List Value) (v v2 v3 : Value) (C : List ByteArray) (hv : Names w v C) (hne : ab ≠ cab) (hr : Row w cab 76 cs)
    (hm : O.length ≤ 4096) (hmA : A.length ≤ 4096) (hmL : L.length ≤ 4096) (hmT : T.length ≤ 4096) (hmK : K.length ≤ 4096) (hmC : C.length ≤ 8192) (hO : ∀ o ∈ O, o < A.length) (hA : ∀ x ∈ A, 0 ≤ x.1 ∧ x.1 ≤ x.2 ∧ x.2 ≤ K.length) :
    Calls Try.prog 44 #[.agg #[.pointer (some ⟨hb, 0, none⟩)], .agg #[v, .pointer (some ⟨cab, 0, none⟩), v2, v3]] w fun e w' => ChainRes (accL (lookL L O K A T) C) e w' ∧ Below w.heap.size w w' := by
  have H := hide h
  have HV := hide hv
  have l1 := cell_lt h.num
  have l2 := cell_lt h.atoms
  have c1 := h.num
  have c2 := h.atoms
  clear h hv
  have HO := hide hO
  have HA := hide hA
  clear hO hA
  generalize hW : (w.alloc (.cells #[.pointer (some ⟨hb, 0, none⟩)] 32)).alloc (.cells #[v, .pointer (some ⟨cab, 0, none⟩), v2, v3] 60) = W
  have hbW : Below w.heap.size w W := by rw [← hW]; exact ((Below.refl _ _).alloc (Nat.le_refl _) _).alloc (by simp) _
  have k1 : W.cell? ⟨w.heap.size, 0, none⟩ = some (.pointer (some ⟨hb, 0, none⟩)) := by rw [← hW]; simp
  have k2 : ∀ j, W.cell? ⟨w.heap.size + 1, j, none⟩ = #[v, .pointer (some ⟨cab, 0, none⟩), v2, v3][j]? := by rw [← hW]; intro j; exact World.cell?_alloc_at _ _ _ _ (by simp)
  have k3 := k2 0
  have k4 := k2 1
  simp only [List.getElem?_toArray, List.getElem?_cons_zero, List.getElem?_cons_succ] at k3 k4
  have d1 := cell_below c1 hbW
  have d2 := cell_below c2 hbW
  have hq : ∀ q, (binOp .neq 46 (.pointer (some ⟨ab, 0, none⟩)) (.pointer (some ⟨cab, 0, none⟩))).run Try.prog (W.drewN q) = .ok (.bool true) (W.drewN q) := fun q => by
    obtain ⟨cs', hr'⟩ := H.out.isAtoms
    exact neq_other hne ((hr'.below hr'.lt hbW).drewN q) ((hr.below hr.lt hbW).drewN q)
  have HBW := hide hbW
  clear hbW k2 hr c1 c2
  go_enter Try.func44, Try.ntmps44
  go_wp2
  clear hW
  go_quiet (fail)
  go_wp2_with fail
  refine (chain_any ((H.out.below HBW.out).drewN _) v C ((HV.out.below HBW.out).drewN _) hm hmA hmL hmT hmK hmC HO.out HA.out).mono ?_
  rintro e w1 ⟨hres, hb1⟩
  have HB1 := hide (HBW.out.trans ((below_drewN (Below.refl _ _) _).trans (hb1.mono HBW.out.size)))
  clear hb1
  cases hr : accL (lookL L O K A T) C with
  | none =>
    rw [hr] at hres
    cases hres
    have HR := hide hr
    clear hr
    go_wp2
    go_ret2
    refine ⟨?_, HB1.out⟩
    rw [HR.out]; rfl
  | some l =>
    rw [hr] at hres
    obtain ⟨v, rfl, hv⟩ := hres
    have HR := hide hr
    have HV := hide hv
    clear hr hv
    go_wp2
    go_ret2
    refine ⟨?_, HB1.out⟩
    rw [HR.out]; exact ⟨v, rfl, HV.out⟩

end Go.Proofs.Qxb6608735a
