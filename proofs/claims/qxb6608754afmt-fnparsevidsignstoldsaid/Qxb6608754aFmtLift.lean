import Derived.Test.Qxb6608754aFmtLaid
import Derived.Test.Qxb6608754aFmtLaw4
import Derived.FnData
import Derived.Stop.JoinedTold
import Derived.Stop.LaidErr
import Derived.Deep.DeepWitnessRef
namespace Go.Proofs.Qxb6608754aFmt
open Go.ChangeShapes Go.WideShapes Go.ChangeAt Go.RowKit
open Go.ChangeMaps (open_string shut_string)
open Go.Extern.Stop Go.Stop Go.Extern
set_option linter.unusedVariables false

theorem Tryf.own : ownKnob Tryf.prog.godebug = none := by kernel_rfl
/-- The listed errors' dynamic type, by the row's own word. -/
def errName : String := match (Rows.laid_strconv_ErrRange : DataW Unit) with
  | .iface n _ => n
  | _ => ""
theorem Tryf.row44 (u : TypeId) (h : Tryf.prog.typeName? 3 u = some errName) : u = 44 :=
  typeName_ptr_named (nm := "errors.errorString") (by kernel_rfl) (by kernel_rfl) (by decide) u (h.trans (congrArg some (by decide)))

/-- The two sentinels, off the listed variables. -/
theorem sent_of {W : World} (hL : laidMet Tryf.prog Rows.fnParseVIDSignsRow.laid W) : Sent W := by
  obtain ⟨a1, t1, hv1, _⟩ := laid_sentinel (g := 1) hL.tail.tail.tail (by kernel_rfl) (by kernel_rfl) Tryf.underlying25 Tryf.row44 Tryf.underlying44 Tryf.underlying46 rfl rfl Tryf.underlying9 (by kernel_rfl) (by kernel_rfl)
  obtain ⟨a0, t0, hv0, _⟩ := laid_sentinel (g := 0) hL.tail.tail.tail.tail (by kernel_rfl) (by kernel_rfl) Tryf.underlying25 Tryf.row44 Tryf.underlying44 Tryf.underlying46 rfl rfl Tryf.underlying9 (by kernel_rfl) (by kernel_rfl)
  exact ⟨⟨_, _, (World.var?_cell (g := 0) (by kernel_rfl) hv0 0).trans rfl⟩, _, _, (World.var?_cell (g := 1) (by kernel_rfl) hv1 0).trans rfl⟩

set_option maxRecDepth 100000 in
set_option maxHeartbeats 4000000 in
theorem lifted3 (os : Os) (started : os.Started) (H : Type) (enc : TypeId × Value → H) :
    ReturnsInTold none {} Tryf.checked os 3 .any Input.okWide ((OpenSpec.ofChange Rows.fnParseVIDDecimalAndLeadingZeroSpec).preRow enc Tryf.prog Tryf.f3 Rows.fnParseVIDDecimalAndLeadingZeroRow.domain false Rows.fnParseVIDDecimalAndLeadingZeroRow.laid) (fun F => ((OpenSpec.ofChange Rows.fnParseVIDDecimalAndLeadingZeroSpec).at F).post enc Tryf.prog Tryf.f3 false true false false) (aloneAtReturn Tryf.prog) nothingAlways := by
  refine returnsInTold_of_row (C := Tryf.checked) (s := OpenSpec.ofChange Rows.fnParseVIDDecimalAndLeadingZeroSpec) (by kernel_rfl) Tryf.own started (by kernel_rfl) Tryf.func3
    (OpenSpec.witness_stopped_atRef (enc := enc) (C := Tryf.checked) false (laidWorldOf Tryf.prog os) #[.string ⟨#[]⟩] rfl (by kernel_rfl) (by kernel_rfl) (by kernel_rfl) (witness3 os enc)) ?_
  intro F W base args ds gs before _ hF hval0 hW hcnd0 _ _ hL _
  have hval : ∀ (j : Nat) t v, Tryf.f3.params[j]? = some t → args[j]? = some v → Value.okWide Tryf.prog W .any base t v := hval0
  have hW' := hW
  obtain ⟨p, q, hA0, hV0, rfl, _, _⟩ := hW
  have hA : DataW.TrodAll enc Tryf.prog W 0 (fun _ => true) true Tryf.f3.params.toList args.toList ds p := hA0
  rw [Tryf.params3] at hA hval
  obtain ⟨v0, d0, rfl, rfl, h0⟩ := trodAll_one hA
  obtain ⟨rfl, rfl⟩ := trodVars_none hV0
  obtain ⟨s, rfl, rfl, rfl, ws⟩ := open_string Tryf.underlying9 (hval 0 9 v0 rfl rfl) h0
  clear hA0 hV0 hval0 hcnd0
  have hL' : laidMet Tryf.prog Rows.fnParseVIDSignsRow.laid W := hL
  refine (law3 F.told s ws W hF (sent_of hL')).mono fun e W' ⟨he, bel⟩ => ?_
  subst he
  exact ⟨_, rfl, _, _, _, [], [], [], hW', trodAll_mk1 (shut_bool Tryf.underlying4 _), trodAll_mk1 (shut_string Tryf.underlying9 ws), rfl, bel.frame _, fun h => by cases h⟩

set_option maxRecDepth 100000 in
set_option maxHeartbeats 4000000 in
theorem lifted4 (os : Os) (started : os.Started) (H : Type) (enc : TypeId × Value → H) :
    ReturnsInTold none {} Tryf.checked os 4 .any Input.okWide ((OpenSpec.ofChange Rows.fnParseVIDSignsSpec).preRow enc Tryf.prog Tryf.f4 Rows.fnParseVIDSignsRow.domain false Rows.fnParseVIDSignsRow.laid) (fun F => ((OpenSpec.ofChange Rows.fnParseVIDSignsSpec).at F).post enc Tryf.prog Tryf.f4 false true false false) (aloneAtReturn Tryf.prog) nothingAlways := by
  refine returnsInTold_of_row (C := Tryf.checked) (s := OpenSpec.ofChange Rows.fnParseVIDSignsSpec) (by kernel_rfl) Tryf.own started (by kernel_rfl) Tryf.func4
    (OpenSpec.witness_stopped_atRef (enc := enc) (C := Tryf.checked) false (laidWorldOf Tryf.prog os) #[.string ⟨#[]⟩] rfl (by kernel_rfl) (by kernel_rfl) (by kernel_rfl) (witness4 os enc)) ?_
  intro F W base args ds gs before _ hF hval0 hW hcnd0 _ _ hL _
  have hval : ∀ (j : Nat) t v, Tryf.f4.params[j]? = some t → args[j]? = some v → Value.okWide Tryf.prog W .any base t v := hval0
  have hW' := hW
  obtain ⟨p, q, hA0, hV0, rfl, _, _⟩ := hW
  have hA : DataW.TrodAll enc Tryf.prog W 0 (fun _ => true) true Tryf.f4.params.toList args.toList ds p := hA0
  rw [Tryf.params4] at hA hval
  obtain ⟨v0, d0, rfl, rfl, h0⟩ := trodAll_one hA
  obtain ⟨rfl, rfl⟩ := trodVars_none hV0
  obtain ⟨s, rfl, rfl, rfl, ws⟩ := open_string Tryf.underlying9 (hval 0 9 v0 rfl rfl) h0
  clear hA0 hV0 hval0 hcnd0
  have hL' : laidMet Tryf.prog Rows.fnParseVIDSignsRow.laid W := hL
  refine (law4 F.told s ws W hF (sent_of hL')).mono fun e W' ⟨he, bel⟩ => ?_
  subst he
  exact ⟨_, rfl, _, _, _, [], [], [], hW', trodAll_mk1 (shut_bool Tryf.underlying4 _), trodAll_mk1 (shut_string Tryf.underlying9 ws), rfl, bel.frame _, fun h => by cases h⟩

end Go.Proofs.Qxb6608754aFmt
