import Derived.Test.Qxb6608735aW2
import Derived.Test.Qxb6608735aW3
import Derived.Test.Qxb6608735aW13
import Derived.Test.Qxb6608735aW15
import Derived.Laws.CopyOwn
namespace Go.Proofs.Qxb6608735a
open Go.RowKit
set_option linter.unusedVariables false

def Yes (w : World) (e : Ending) (w' : World) : Prop := e = .returned (.bool true) ∧ Below w.heap.size w w'

theorem Try.info21s : (Try.prog.info? 21).map (fun i => i.size) = some 1 := by kernel_rfl

/-- copy of a row of int32 into one that the call made. -/
theorem wpList_copy_i32 {w : World} {ops : Array Oper} {rest : List Oper} {o : Oper} {a : Act} {Q : Exit → Act → World → Prop} (hgd : o.guard = none) (d s : Operand)
    (ho : o.op = .call { callee := .builtin .copy, args := #[d, s], argTypes := #[41, 41] }) (g n : Nat) (cs : List Value) (hr : Row w g 21 cs) (hl : cs.length = n)
    (ap : Option Addr) (c : Nat) (zs : List Int) (hn : zs.length = n) (hs : I32s w (.slice ap n c) zs) (hd : a.eval d = .slice (some ⟨g, 0, none⟩) n n) (hse : a.eval s = .slice ap n c)
    (B : Nat) (w0 : World) (hb : Below B w0 w) (hBg : B ≤ g)
    (h : ∀ w', I32s w' (.slice (some ⟨g, 0, none⟩) n n) zs → Below B w0 w' → wpList Try.prog ops Q rest (a.put o.dst (.int .i64 n)) w') : wpList Try.prog ops Q (o :: rest) a w := by
  have hlm : (zs.map (Value.int .i32)).length = n := by simpa using hn
  refine wpList_copy_splice hgd d s 41 41 ho 21 Try.underlying41 Try.info21s (some ⟨g, 0, none⟩) ap n n n c hd hse g 0 cs 21 hr (zs.map (Value.int .i32)) (by rw [hlm]; exact (Nat.min_self n).symm) ?_ (by omega) (ints_oneCell .i32 zs) B w0 hb hBg ?_
  · intro h0
    obtain ⟨a', c', he, hc', hl', hx⟩ := hs
    cases he
    obtain ⟨b, off, rfl, hlt, hcell⟩ := hx (by omega)
    exact ⟨rfl, _, rfl, fun j v hv => by
      have hj := (List.getElem?_eq_some_iff.1 hv).1
      rw [← hv]
      have := hcell j (by simpa using hj)
      rw [Addr.add_lit]
      exact this⟩
  · intro w' hrow hbel
    have hrow := hrow.out
    have e : splice cs 0 (zs.map (Value.int .i32)) = zs.map (Value.int .i32) := by
      unfold splice
      rw [List.drop_of_length_le (by omega)]
      simp
    rw [e] at hrow
    have := h w' (by unfold I32s; rw [hn]; exact Row.sl (show Row w' g 21 _ from hrow) (by simpa using hn)) hbel
    rw [hlm]
    exact this


/-- What came in, and still reads so. -/
structure Inputs (w : World) (vL vO vK vlo vhi vT vD vC : Value) (L : List ByteArray) (O K lo hi : List Int) (T D C : List ByteArray) : Prop where
  iL : Strs w vL L
  iO : I32s w vO O
  iK : I64s w vK K
  ilo : I32s w vlo lo
  ihi : I32s w vhi hi
  iT : Strs w vT T
  iD : Strs w vD D
  iC : Strs w vC C

theorem Inputs.below {w w' : World} {vL vO vK vlo vhi vT vD vC : Value} {L : List ByteArray} {O K lo hi : List Int} {T D C : List ByteArray} (h : Inputs w vL vO vK vlo vhi vT vD vC L O K lo hi T D C) (hb : Below w.heap.size w w') : Inputs w' vL vO vK vlo vhi vT vD vC L O K lo hi T D C :=
  ⟨h.iL.below hb, h.iO.below hb, h.iK.below hb, h.ilo.below hb, h.ihi.below hb, h.iT.below hb, h.iD.below hb, h.iC.below hb⟩

theorem Below.then {w0 w w' : World} (h : Below w0.heap.size w0 w) (g : Below w.heap.size w w') : Below w0.heap.size w0 w' := h.trans (g.mono h.size)

theorem newAtoms_row (a : Option Addr) (n c : Nat) (m : Option Nat) (w : World) :
    Calls Try.prog 23 #[.slice a n c, .map m] w fun e w' => ∃ ab, e = .returned (.pointer (some ⟨ab, 0, none⟩)) ∧ Row w' ab 76 [.slice a n c, .map m, .slice none 0 0] ∧ w.heap.size ≤ ab ∧ Below w.heap.size w w' := by
  refine (newAtoms_any a n c m w).mono ?_
  rintro e w' ⟨rfl, rfl⟩
  exact ⟨_, rfl, Row.made w _ _, Nat.le_refl _, (Below.refl _ _).alloc (Nat.le_refl _) _⟩

/-- The two results of a chain, as letters. -/
theorem ChainRes.flat {r : Option (List Int)} {e : Ending} {w' : World} (h : ChainRes r e w') : ∃ a n c b, e = .returned (.tuple #[.slice a n c, .bool b]) ∧ Hid (b = r.isSome) ∧ Hid (n = (r.getD []).length) ∧ I64s w' (.slice a n c) (r.getD []) := by
  cases r with
  | none => exact ⟨_, _, _, _, h, rfl, rfl, nil64 _⟩
  | some l =>
    obtain ⟨v, he, hv⟩ := h
    obtain ⟨a, c, rfl, _⟩ := Sl.open1 hv
    exact ⟨_, _, _, _, he, rfl, rfl, hv⟩

theorem Strs.takeRun {w : World} {a : Option Addr} {n cap k : Nat} {C : List ByteArray} (h : Strs w (.slice a n cap) C) (hk : k ≤ C.length) :
    ∃ v, Strs w v (C.take k) ∧ ∀ w', (Instr.slice 22 (.slice a n cap) none (some (.int .i64 k)) none).run Try.prog w' = .ok v w' := by
  obtain ⟨a', cap', hv, hc, hl, hx⟩ := h
  cases hv
  refine ⟨.slice a k cap, ?_, fun w' => ?_⟩
  · refine ⟨a, cap, by rw [List.length_take, Nat.min_eq_left hk], by rw [List.length_take]; omega, by simp, fun h3 => ?_⟩
    rw [List.length_take] at h3
    obtain ⟨b, off, rfl, hb, hcell⟩ := hx (by omega)
    refine ⟨b, off, rfl, hb, fun j hj => ?_⟩
    rw [List.length_take] at hj
    rw [hcell j (by omega), List.getElem?_map, List.getElem?_map, List.getElem?_take, if_pos (by omega)]
  · have hb := run_sliceBound (P := Try.prog) w' .i64 (k : Int) cap .sliceAcap (by omega) (by omega)
    have e := run_slice_h (P := Try.prog) w' 22 a C.length cap (by kernel_rfl) .i64 (k : Int) (by omega) (by omega)
    rw [e]
    have hs : (sizeOf 9).run Try.prog w' = .ok 1 w' := by
      obtain ⟨i, hi, h1, h2, h3⟩ := info_parts Try.info9
      simp [sizeOf, typeInfo, hi, h2]
    have he : Try.prog.elem 22 = 9 := by kernel_rfl
    rw [he, hs]
    cases a <;> simp [Result.andThen, sliced, Addr.add]

theorem Strs.dropRun {w : World} {a : Option Addr} {n cap k : Nat} {C : List ByteArray} (h : Strs w (.slice a n cap) C) (hk : k ≤ C.length) :
    ∃ v, Strs w v (C.drop k) ∧ ∀ w', (Instr.slice 22 (.slice a n cap) (some (.int .i64 k)) none none).run Try.prog w' = .ok v w' := by
  obtain ⟨a', cap', hv, hc, hl, hx⟩ := h
  cases hv
  refine ⟨.slice (if cap = k then a else a.map (·.add (k * 1))) (C.length - k) (cap - k), ?_, fun w' => ?_⟩
  · refine ⟨_, _, by rw [List.length_drop], by rw [List.length_drop]; omega, by simp, fun h3 => ?_⟩
    rw [List.length_drop] at h3
    obtain ⟨b, off, rfl, hb, hcell⟩ := hx (by omega)
    have : ¬ cap = k := by omega
    simp only [this, if_false, Option.map_some, Addr.add_lit]
    refine ⟨b, off + k * 1, rfl, hb, fun j hj => ?_⟩
    rw [List.length_drop] at hj
    rw [show off + k * 1 + j = off + (k + j) from by omega, hcell (k + j) (by omega), List.getElem?_map, List.getElem?_map, List.getElem?_drop]
  · have e := run_slice_l (P := Try.prog) w' 22 a C.length cap (by kernel_rfl) .i64 (k : Int) (by omega) (by omega)
    rw [e]
    have hs : (sizeOf 9).run Try.prog w' = .ok 1 w' := by
      obtain ⟨i, hi, h1, h2, h3⟩ := info_parts Try.info9
      simp [sizeOf, typeInfo, hi, h2]
    have he : Try.prog.elem 22 = 9 := by kernel_rfl
    rw [he, hs]
    simp [Result.andThen, sliced]

/-- THE STATE BEHIND THE OPENING: what came in, the index of names, the holding, its atoms' row, the variable that holds it. -/
structure Ready (w : World) (vL vO vK vlo vhi vT vD vC : Value) (L : List ByteArray) (O K lo hi : List Int) (T D C : List ByteArray) (bx hx hb ab nb cb im : Nat) (vh va vl vo vi : Value) : Prop where
  ins : Inputs w vL vO vK vlo vhi vT vD vC L O K lo hi T D C
  index : IdxMap strKey w bx L
  hold : HoldAt w hb ab L O K (lo.zip hi) T D nb cb im vh va vl vo vi
  box : w.cell? ⟨hx, 0, none⟩ = some (.pointer (some ⟨hb, 0, none⟩))

theorem Ready.below {w w' : World} {vL vO vK vlo vhi vT vD vC : Value} {L : List ByteArray} {O K lo hi : List Int} {T D C : List ByteArray} {bx hx hb ab nb cb im : Nat} {vh va vl vo vi : Value}
    (h : Ready w vL vO vK vlo vhi vT vD vC L O K lo hi T D C bx hx hb ab nb cb im vh va vl vo vi) (b : Below w.heap.size w w') : Ready w' vL vO vK vlo vhi vT vD vC L O K lo hi T D C bx hx hb ab nb cb im vh va vl vo vi :=
  ⟨h.ins.below b, h.index.below h.index.lt b, h.hold.below b, cell_below h.box b⟩

/-- The condition made of the holding's own atoms, handed to the holding. -/
theorem ask_same {w : World} {vL vO vK vlo vhi vT vD vC : Value} {L : List ByteArray} {O K lo hi : List Int} {T D C : List ByteArray} {bx hx hb ab nb cb im : Nat} {vh va vl vo vi : Value}
    (h : Ready w vL vO vK vlo vhi vT vD vC L O K lo hi T D C bx hx hb ab nb cb im vh va vl vo vi) (hf : Fine L O K lo hi T D) (mL : L.length ≤ 4096) (mO : O.length ≤ 4096) (mK : K.length ≤ 4096) (mlo : lo.length ≤ 4096) (mT : T.length ≤ 4096)
    (E : List ByteArray) (mE : E.length ≤ 8192) (a1 : Option Addr) (n1 c1 : Nat) (a2 : Option Addr) (n2 c2 : Nat) (a3 : Option Addr) (n3 c3 : Nat)
    (h2 : I64s w (.slice a2 n2 c2) ((posL L E).map (fun p : Nat => (p : Int)))) (h3 : Names w (.slice a3 n3 c3) (othL L E)) :
    Calls Try.prog 29 #[.agg #[.pointer (some ⟨hb, 0, none⟩)], .agg #[.slice a1 n1 c1, .pointer (some ⟨ab, 0, none⟩), .slice a2 n2 c2, .slice a3 n3 c3]] w fun e w' => ChainRes (condL O K (lo.zip hi) T (posL L E) (othL L E)) e w' ∧ Below w.heap.size w w' := by
  have hzl : (lo.zip hi).length = lo.length := by rw [List.length_zip, hf.even]; omega
  refine callCC_any (fun _ _ => True) hb a1 n1 c1 _ a2 n2 c2 a3 n3 c3 w _ fun w1 hb1 => ?_
  exact condChain_same (h.hold.below hb1) _ _ _ _ _ (h2.below hb1) (h3.below hb1) mO (by omega) mL mT mK (Nat.le_trans (posL_length _ _) mE) (Nat.le_trans (othL_length _ _) mE) (fun o ho => by rw [hzl]; exact hf.owner o ho) (fun x hx => by
    obtain ⟨j, hj⟩ := List.getElem?_of_mem hx
    obtain ⟨g1, g2⟩ := List.getElem?_zip_eq_some.1 hj
    have := hf.chain j x.1 x.2 g1 g2
    exact ⟨this.1, this.2.1, this.2.2.1⟩)

/-- A condition of other atoms, handed to the holding: it is asked by name. -/
theorem ask_other {w : World} {vL vO vK vlo vhi vT vD vC : Value} {L : List ByteArray} {O K lo hi : List Int} {T D C : List ByteArray} {bx hx hb ab nb cb im : Nat} {vh va vl vo vi : Value}
    (h : Ready w vL vO vK vlo vhi vT vD vC L O K lo hi T D C bx hx hb ab nb cb im vh va vl vo vi) (hf : Fine L O K lo hi T D) (mL : L.length ≤ 4096) (mO : O.length ≤ 4096) (mK : K.length ≤ 4096) (mlo : lo.length ≤ 4096) (mT : T.length ≤ 4096)
    (E : List ByteArray) (mE : E.length ≤ 8192) (cab : Nat) (cs : List Value) (hne : ab ≠ cab) (hr : Row w cab 76 cs) (a1 : Option Addr) (n1 c1 : Nat) (a2 : Option Addr) (n2 c2 : Nat) (a3 : Option Addr) (n3 c3 : Nat)
    (h1 : Names w (.slice a1 n1 c1) E) :
    Calls Try.prog 29 #[.agg #[.pointer (some ⟨hb, 0, none⟩)], .agg #[.slice a1 n1 c1, .pointer (some ⟨cab, 0, none⟩), .slice a2 n2 c2, .slice a3 n3 c3]] w fun e w' => ChainRes (accL (lookL L O K (lo.zip hi) T) E) e w' ∧ Below w.heap.size w w' := by
  have hzl : (lo.zip hi).length = lo.length := by rw [List.length_zip, hf.even]; omega
  refine callCC_any (fun _ _ => True) hb a1 n1 c1 _ a2 n2 c2 a3 n3 c3 w _ fun w1 hb1 => ?_
  exact condChain_other (h.hold.below hb1) cab cs _ _ _ E (h1.below hb1) hne (hr.below hr.lt hb1) mO (by omega) mL mT mK mE (fun o ho => by rw [hzl]; exact hf.owner o ho) (fun x hx => by
    obtain ⟨j, hj⟩ := List.getElem?_of_mem hx
    obtain ⟨g1, g2⟩ := List.getElem?_zip_eq_some.1 hj
    have := hf.chain j x.1 x.2 g1 g2
    exact ⟨this.1, this.2.1, this.2.2.1⟩)

theorem zip_fst {lo hi : List Int} (h : lo.length = hi.length) : (lo.zip hi).map (·.1) = lo := List.map_fst_zip (by omega)
theorem zip_snd {lo hi : List Int} (h : lo.length = hi.length) : (lo.zip hi).map (·.2) = hi := List.map_snd_zip (by omega)

end Go.Proofs.Qxb6608735a
