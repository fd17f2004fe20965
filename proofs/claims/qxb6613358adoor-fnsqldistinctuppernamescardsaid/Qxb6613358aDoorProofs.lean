import Derived.Test.Qxb6613358aDoorRows
import Derived.Test.Qxb6613358aDoorWalk
import Derived.WalkKit
import Derived.ProofKit
import Derived.ChangeVars
import Derived.ChangeSame
import Derived.OpenShut
import Derived.JoinedOf
import Derived.RowKit
import Derived.MakeChecks
namespace Go.Proofs.Qxb6613358aDoor
open Go.ChangeShapes Go.WideShapes Go.ChangeAt Go.RowKit
set_option linter.unusedVariables false

/-- The variable that the row lists, and what it lists. -/
def tv : String := Rows.fnSQLDistinctUpperNamesSpec.vars.headD ""
def laidL : List (String × DataW Unit) := Rows.fnSQLDistinctUpperNamesRow.laid

theorem own : ownKnob Tryd.prog.godebug = none := by kernel_rfl
theorem gTypes : Tryd.prog.globalNamed tv = some 0 := by kernel_rfl
theorem tTypes : (Tryd.prog.globals[0]?).map (·.type) = some 27 := by kernel_rfl
theorem cells27 : Tryd.prog.cellsOf 27 = 12 := by kernel_rfl
theorem cells26 : Tryd.prog.cellsOf 26 = 3 := by kernel_rfl
theorem cells9 : Tryd.prog.cellsOf 9 = 1 := by kernel_rfl

def cells12 : Array Value := #[.string ⟨#[]⟩, .string ⟨#[]⟩, .string ⟨#[]⟩,
  .string ⟨#[105, 110, 116, 101, 103, 101, 114]⟩, .string ⟨#[73, 78, 84, 69, 71, 69, 82]⟩, .string ⟨#[105, 110, 116, 101, 103, 101, 114, 115]⟩,
  .string ⟨#[114, 101, 97, 108]⟩, .string ⟨#[82, 69, 65, 76]⟩, .string ⟨#[110, 117, 109, 98, 101, 114, 115]⟩,
  .string ⟨#[116, 101, 120, 116]⟩, .string ⟨#[84, 69, 88, 84]⟩, .string ⟨#[115, 116, 114, 105, 110, 103, 115]⟩]

theorem str_eq {s : ByteArray} {l : List UInt8} (h : s.data.toList = l) : s = ⟨l.toArray⟩ := by
  obtain ⟨⟨d⟩⟩ := s
  simp at h
  subst h
  rfl

/-- One row of the table: three texts. -/
theorem row3 {H : Type} {enc : TypeId × Value → H} {w : World} {base : Nat} {sp : Nat → Bool} {held : Bool} {fuel : Nat} {c0 c1 c2 : Value} {y : DataW H × List MemPlace} {a b c : List UInt8} {q : List MemPlace}
    (h : DataW.trod enc Tryd.prog w base sp held fuel 26 [c0, c1, c2] = some y) (hy : y.1 = .agg [.lit (.string a), .lit (.string b), .lit (.string c)]) :
    c0 = .string ⟨a.toArray⟩ ∧ c1 = .string ⟨b.toArray⟩ ∧ c2 = .string ⟨c.toArray⟩ := by
  obtain ⟨xs, m, rfl, rfl, hlen, hn, hel⟩ := DataW.trod_struct Tryd.underlying26 h
  have h0 := hel 0 _ rfl
  have h1 := hel 1 _ rfl
  have h2 := hel 2 _ rfl
  have g0 : DataW.trod enc Tryd.prog w base sp held m 9 (List.take (Tryd.prog.cellsOf 9) (List.drop 0 [c0, c1, c2])) = xs[0]? := h0
  have g1 : DataW.trod enc Tryd.prog w base sp held m 9 (List.take (Tryd.prog.cellsOf 9) (List.drop 1 [c0, c1, c2])) = xs[1]? := h1
  have g2 : DataW.trod enc Tryd.prog w base sp held m 9 (List.take (Tryd.prog.cellsOf 9) (List.drop 2 [c0, c1, c2])) = xs[2]? := h2
  rw [cells9] at g0 g1 g2
  clear h0 h1 h2 hel
  replace hy := DataW.agg.inj hy
  match xs, hn, hy, g0, g1, g2 with
  | [x0, x1, x2], _, hy, h0, h1, h2 =>
    simp only [List.map_cons, List.map_nil, List.cons.injEq, and_true] at hy
    obtain ⟨s0, e0, f0, _⟩ := DataW.trod_string Tryd.underlying9 (show DataW.trod enc Tryd.prog w base sp held m 9 [c0] = some x0 from h0)
    obtain ⟨s1, e1, f1, _⟩ := DataW.trod_string Tryd.underlying9 (show DataW.trod enc Tryd.prog w base sp held m 9 [c1] = some x1 from h1)
    obtain ⟨s2, e2, f2, _⟩ := DataW.trod_string Tryd.underlying9 (show DataW.trod enc Tryd.prog w base sp held m 9 [c2] = some x2 from h2)
    rw [f0, f1, f2] at hy
    obtain ⟨y0, y1, y2⟩ := hy
    simp only [DataW.lit.injEq, Lit.string.injEq] at y0 y1 y2
    simp only [List.cons.injEq, and_true] at e0 e1 e2
    exact ⟨by rw [e0, str_eq y0], by rw [e1, str_eq y1], by rw [e2, str_eq y2]⟩

theorem cells_of_laid {W : World} (h : laidMet Tryd.prog laidL W) : W.var? Tryd.prog tv = some cells12 := by
  obtain ⟨ps, ⟨g, t, cs, fuel, p, q, hg, ht, hvar, hd, _, _⟩, _⟩ := h
  obtain rfl := Option.some.inj (gTypes.symm.trans hg)
  obtain rfl := Option.some.inj (tTypes.symm.trans ht)
  have hvar' : W.var? Tryd.prog tv = some cs := hvar
  rw [hvar']
  congr 1
  obtain ⟨xs, m1, hx0, hx1, hlen, hn, hel⟩ := DataW.trod_array Tryd.underlying27 hd
  rw [cells27] at hlen
  rw [cells26] at hel
  simp only [Prod.mk.injEq] at hx1
  have hx2 := hx1.1
  simp only [Rows.laid_example_com_tabled_tabled_pkg_schema_types, DataW.agg.injEq] at hx2
  have h0 := hel 0 (by decide)
  have h1 := hel 1 (by decide)
  have h2 := hel 2 (by decide)
  have h3 := hel 3 (by decide)
  obtain ⟨l⟩ := cs
  match l, hlen, xs, hn, hx2, h0, h1, h2, h3 with
  | [c0, c1, c2, c3, c4, c5, c6, c7, c8, c9, c10, c11], _, [x0, x1, x2, x3], _, hx2, h0, h1, h2, h3 =>
    simp only [List.map_cons, List.map_nil, List.cons.injEq, and_true] at hx2
    obtain ⟨y0, y1, y2, y3⟩ := hx2
    obtain ⟨rfl, rfl, rfl⟩ := row3 (q := []) (show DataW.trod _ Tryd.prog W 0 _ _ m1 26 [c0, c1, c2] = some x0 from h0) y0.symm
    obtain ⟨rfl, rfl, rfl⟩ := row3 (q := []) (show DataW.trod _ Tryd.prog W 0 _ _ m1 26 [c3, c4, c5] = some x1 from h1) y1.symm
    obtain ⟨rfl, rfl, rfl⟩ := row3 (q := []) (show DataW.trod _ Tryd.prog W 0 _ _ m1 26 [c6, c7, c8] = some x2 from h2) y2.symm
    obtain ⟨rfl, rfl, rfl⟩ := row3 (q := []) (show DataW.trod _ Tryd.prog W 0 _ _ m1 26 [c9, c10, c11] = some x3 from h3) y3.symm
    rfl

theorem laidWorld_row (os : Os) : (({ World.holding Tryd.prog os ⟨#[], #[], []⟩ with heap := (World.holding Tryd.prog os ⟨#[], #[], []⟩).heap.modify 0 fun
      | .cells _ t frozen => .cells cells12 t frozen
      | o => o } : World).forCall (fun _ _ => 0) ⟨#[], #[.int .u8 0, .int .u8 0], []⟩).memory.heap[0]? = some (.cells cells12 27 (0, 0)) := by kernel_rfl

abbrev tableH {H : Type} : DataW H := Rows.laid_example_com_tabled_tabled_pkg_schema_types

theorem reads_table {H : Type} (enc : TypeId × Value → H) (W : World) (sp : Nat → Bool) : DataW.trod enc Tryd.prog W 0 sp true 4 27 cells12.toList = some (tableH, []) := by kernel_rfl

theorem laid_met (os : Os) : laidMetH Tryd.prog laidL (({ World.holding Tryd.prog os ⟨#[], #[], []⟩ with heap := (World.holding Tryd.prog os ⟨#[], #[], []⟩).heap.modify 0 fun
      | .cells _ t frozen => .cells cells12 t frozen
      | o => o } : World).forCall (fun _ _ => 0) ⟨#[], #[.int .u8 0, .int .u8 0], []⟩).memory := by
  rw [MakeChecks.laidMetH_plain _ _ _ (by kernel_rfl)]
  refine ⟨_, ⟨0, 27, cells12, 8, [], [], by kernel_rfl, by kernel_rfl, by kernel_rfl, by kernel_rfl, rfl, rfl⟩, by decide, fun b off h => ?_⟩
  have h' : MemPlace.cell b off ∈ [MemPlace.cell 0 0, .cell 0 1, .cell 0 2, .cell 0 3, .cell 0 4, .cell 0 5, .cell 0 6, .cell 0 7, .cell 0 8, .cell 0 9, .cell 0 10, .cell 0 11] := h
  have hb : b = 0 := by
    simp at h'
    omega
  subst hb
  refine ⟨⟨_, _, laidWorld_row os⟩, fun u v hc => ?_⟩
  simp only [World.cell?, laidWorld_row os] at hc
  simp at h'
  rcases h' with rfl | rfl | rfl | rfl | rfl | rfl | rfl | rfl | rfl | rfl | rfl | rfl <;> simp [cells12] at hc

set_option maxRecDepth 100000 in
theorem lifted (os : Os) (started : os.Started) (H : Type) (enc : TypeId × Value → H) :
    ReturnsInHanded {} Tryd.checked os 3 .any (fun w args => (Rows.fnSQLDistinctUpperNamesSpec.pre enc Tryd.prog Tryd.f3 [] false w args ∧ laidMetH Tryd.prog laidL w) ∧ sizedMet enc Tryd.prog Tryd.f3 (OpenSpec.ofChange Rows.fnSQLDistinctUpperNamesSpec) false w args)
      (Rows.fnSQLDistinctUpperNamesSpec.post enc Tryd.prog Tryd.f3 false true false false) := by
  refine returnsInHanded_of_change_and (C := Tryd.checked) (X := fun w _ => laidMetH Tryd.prog laidL w) (fun _ _ _ hh h => h.of_heap hh) own started (by kernel_rfl) Tryd.func3
    (ChangeSpec.witness_at (enc := enc) (C := Tryd.checked) (os := os) (X := fun w _ => laidMetH Tryd.prog laidL w) false ({ World.holding Tryd.prog os ⟨#[], #[], []⟩ with heap := (World.holding Tryd.prog os ⟨#[], #[], []⟩).heap.modify 0 fun
      | .cells _ t frozen => .cells cells12 t frozen
      | o => o } : World) #[.int .u8 0, .int .u8 0] 8 rfl (by kernel_rfl) (by kernel_rfl) (by kernel_rfl) (by kernel_rfl) (by kernel_rfl) (laid_met os)) ?_
  intro W base args ds gs before hval0 hW _ _ hL0 _
  have hL : laidMetH Tryd.prog laidL W := hL0
  rw [MakeChecks.laidMetH_plain _ _ _ (by kernel_rfl)] at hL
  have hval : ∀ (j : Nat) t v, Tryd.f3.params[j]? = some t → args[j]? = some v → Value.okWide Tryd.prog W .any base t v := hval0
  have hW' := hW
  obtain ⟨p, q, hA0, hV0, rfl, hfz, hnd⟩ := hW
  have hA : DataW.TrodAll enc Tryd.prog W 0 (fun _ => true) true Tryd.f3.params.toList args.toList ds p := hA0
  have hV : DataW.TrodVars enc Tryd.prog W (fun _ => true) [tv] gs q := hV0
  rw [Tryd.params3] at hA hval
  obtain ⟨v0, vs0, d0, ds0, p0, q0, hargs, rfl, rfl, h0, r0⟩ := trodAll_cons hA
  obtain ⟨v1, vs1, d1, ds1, p1, q1, rfl, rfl, rfl, h1, r1⟩ := trodAll_cons r0
  obtain ⟨rfl, rfl, rfl⟩ := trodAll_nil r1
  obtain rfl : args = #[v0, v1] := by cases args; simp_all
  obtain ⟨t, rfl, rfl, rfl, w0⟩ := open_int Tryd.underlying5 (hval 0 5 v0 rfl rfl) h0
  obtain ⟨u, rfl, rfl, rfl, w1⟩ := open_int Tryd.underlying5 (hval 1 5 v1 rfl rfl) h1
  obtain ⟨g, ty, cs, fuel, d, p', rfl, hg, ht, hvar, hd, rfl⟩ := trodVars_one hV
  obtain rfl := Option.some.inj (gTypes.symm.trans hg)
  obtain rfl := Option.some.inj (tTypes.symm.trans ht)
  obtain rfl : cs = cells12 := Option.some.inj (hvar.symm.trans (cells_of_laid hL))
  obtain ⟨rfl, rfl⟩ := DataW.Trod.unique (v := .agg cells12) ⟨fuel, hd⟩ ⟨4, reads_table enc W _⟩
  clear hA0 hV0 hval0
  have hvars : ∀ sp : Nat → Bool, DataW.TrodVars enc Tryd.prog W sp [tv] [tableH] (MemPlace.row ⟨0, 0, none⟩ cells12.size ++ [] ++ []) := fun sp =>
    ⟨0, 27, cells12, 4, [], [], hg, ht, hvar, reads_table enc W sp, rfl, rfl⟩
  have b0 : 0 ≤ t ∧ t ≤ 255 := by simpa [Lit.wf, IntKind.min, IntKind.max, IntKind.signed, IntKind.bits] using w0
  have b1 : 0 ≤ u ∧ u ≤ 255 := by simpa [Lit.wf, IntKind.min, IntKind.max, IntKind.signed, IntKind.bits] using w1
  have hc : ∀ k : Nat, 1 ≤ k → k ≤ 3 → W.cell? ⟨0, k * 3 + 1, none⟩ = some (.string (word k)) := by
    intro k k1 k3
    have hk : k = 1 ∨ k = 2 ∨ k = 3 := by omega
    rcases hk with rfl | rfl | rfl
    · exact World.var?_cell hg hvar 4
    · exact World.var?_cell hg hvar 7
    · exact World.var?_cell hg hvar 10
  refine (law3 t u b0.1 b1.1 W hc).mono fun e W' ⟨he, hw⟩ => ?_
  subst he; subst hw
  exact ⟨_, rfl, post_of_same (pa := []) hW' (fun _ _ _ => trodAll_mk1 (shut_bool Tryd.underlying4 _)) (fun sp _ => trodAll_cons_mk (shut_int Tryd.underlying5 w0) (trodAll_cons_mk (shut_int Tryd.underlying5 w1) trodAll_mk0)) (fun sp _ => hvars sp) (by simp)
    (World.keptBut_refl _ _) (fun _ => rfl) (ok_one (by kernel_rfl) rfl (okWide_bool_mk Tryd.underlying4 _))⟩

theorem row_holds : Rows.FnSQLDistinctUpperNamesSaid :=
  OpenClaim.holds_of_wide 3 Tryd.f3 rfl rfl rfl rfl rfl rfl rfl ⟨rfl, rfl, rfl, rfl, rfl⟩ rfl rfl rfl rfl rfl (by kernel_rfl) Tryd.func3 (by kernel_rfl)
    (of_decide_eq_true (by kernel_rfl)) (by unfold Func.isWrapper; first | (rw [if_pos (by decide +kernel)]; kernel_rfl) | (rw [if_neg (by decide +kernel)]; exact ⟨rfl, rfl⟩))
    (fun os started H enc _ => lifted os started H enc)

end Go.Proofs.Qxb6613358aDoor
