/-
  The start that is shown to be there: a world in which the five listed variables hold what the row lists.
-/
import Derived.Test.Qxb6608754aFmtCards
import Derived.Deep.DeepWitnessRowRef
import Derived.Lib.LaidIn
import Derived.ProofKit
namespace Go.Proofs.Qxb6608754aFmt
open Go

def putRow (h : Array Obj) (g : Nat) (cs : Array Value) : Array Obj := h.modify g fun
  | .cells _ t frozen => .cells cs t frozen
  | o => o

def z2 : List Int := (List.range 20).map fun i => (10 : Int) ^ i
def z3 : List Int := [0, 1, 28, 2, 29, 14, 24, 3, 30, 22, 20, 15, 25, 17, 4, 8, 31, 27, 13, 23, 21, 19, 16, 7, 26, 12, 18, 6, 11, 5, 10, 9]
def z4 : List Int := [0, 1, 56, 2, 57, 49, 28, 3, 61, 58, 42, 50, 38, 29, 17, 4, 62, 47, 59, 36, 45, 43, 51, 22, 53, 39, 33, 30, 24, 18, 12, 5, 63, 55, 48, 27, 60, 41, 37, 16, 46, 35, 44, 21, 52, 32, 23, 11, 54, 26, 40, 15, 34, 20, 31, 10, 25, 14, 19, 9, 13, 8, 7, 6]
def saidRange : List UInt8 := [118, 97, 108, 117, 101, 32, 111, 117, 116, 32, 111, 102, 32, 114, 97, 110, 103, 101]
def saidForm : List UInt8 := [105, 110, 118, 97, 108, 105, 100, 32, 115, 121, 110, 116, 97, 120]

def laidWorldOf (P : Program) (os : Os) : World :=
  let N := (World.settled P os).heap.size
  let w0 := World.holding P os ⟨#[.cells #[.string ⟨saidRange.toArray⟩] 46, .cells #[.string ⟨saidForm.toArray⟩] 46], #[], []⟩
  let h0 := putRow (putRow w0.heap 0 #[.iface 44 (.pointer (some ⟨N + 1, 0, none⟩))]) 1 #[.iface 44 (.pointer (some ⟨N, 0, none⟩))]
  let h1 := putRow (putRow (putRow h0 2 (z2.map (Value.int .u64)).toArray) 3 (z3.map (Value.int .u8)).toArray) 4 (z4.map (Value.int .u8)).toArray
  { w0 with heap := h1 }

set_option maxRecDepth 1000000 in
theorem pieces (os : Os) (args : Array Value) : LaidIn Tryf.prog ((laidWorldOf Tryf.prog os).forCall (fun _ _ => 0) ⟨#[], args, []⟩).memory Rows.fnParseVIDSignsRow.laid [3, 4, 2, 1, (World.settled Tryf.prog default).heap.size, 0, (World.settled Tryf.prog default).heap.size + 1] :=
  LaidIn.of_run [3, 4, 2, 1, (World.settled Tryf.prog default).heap.size, 0, (World.settled Tryf.prog default).heap.size + 1] 10 (by kernel_rfl) (by kernel_rfl) (by kernel_rfl) (by kernel_rfl)

theorem laid_met (os : Os) (args : Array Value) : laidMet Tryf.prog Rows.fnParseVIDSignsRow.laid ((laidWorldOf Tryf.prog os).forCall (fun _ _ => 0) ⟨#[], args, []⟩).memory := (pieces os args).met

theorem witness4 (os : Os) {H : Type} (enc : TypeId × Value → H) :
    (OpenSpec.ofChange Rows.fnParseVIDSignsSpec).preRow enc Tryf.prog Tryf.f4 Rows.fnParseVIDSignsRow.domain false Rows.fnParseVIDSignsRow.laid ((laidWorldOf Tryf.prog os).forCall (fun _ _ => 0) ⟨#[], #[.string ⟨#[]⟩], []⟩).memory #[.string ⟨#[]⟩] := by
  have hw : (DataW.whole enc Tryf.prog ((laidWorldOf Tryf.prog os).forCall (fun _ _ => 0) ⟨#[], #[.string ⟨#[]⟩], []⟩).memory Tryf.f4.params.toList (OpenSpec.ofChange Rows.fnParseVIDSignsSpec).vars false #[Value.string ⟨#[]⟩].toList 8).map (fun x => (x.1, x.2.1)) =
      some ([.lit (.string [])], []) := by kernel_rfl
  obtain ⟨⟨x1, x2, x3⟩, hx, hx1⟩ := Option.map_eq_some_iff.1 hw
  simp only [Prod.mk.injEq] at hx1
  obtain ⟨rfl, rfl⟩ := hx1
  exact OpenSpec.preRow_of_cond 8 hx (by kernel_rfl) (fun k hk => by cases hk) (by kernel_rfl) (laid_met os _)

theorem witness3 (os : Os) {H : Type} (enc : TypeId × Value → H) :
    (OpenSpec.ofChange Rows.fnParseVIDDecimalAndLeadingZeroSpec).preRow enc Tryf.prog Tryf.f3 Rows.fnParseVIDDecimalAndLeadingZeroRow.domain false Rows.fnParseVIDDecimalAndLeadingZeroRow.laid ((laidWorldOf Tryf.prog os).forCall (fun _ _ => 0) ⟨#[], #[.string ⟨#[]⟩], []⟩).memory #[.string ⟨#[]⟩] := by
  have hw : (DataW.whole enc Tryf.prog ((laidWorldOf Tryf.prog os).forCall (fun _ _ => 0) ⟨#[], #[.string ⟨#[]⟩], []⟩).memory Tryf.f3.params.toList (OpenSpec.ofChange Rows.fnParseVIDDecimalAndLeadingZeroSpec).vars false #[Value.string ⟨#[]⟩].toList 8).map (fun x => (x.1, x.2.1)) =
      some ([.lit (.string [])], []) := by kernel_rfl
  obtain ⟨⟨x1, x2, x3⟩, hx, hx1⟩ := Option.map_eq_some_iff.1 hw
  simp only [Prod.mk.injEq] at hx1
  obtain ⟨rfl, rfl⟩ := hx1
  exact OpenSpec.preRow_of_cond 8 hx (by kernel_rfl) (fun k hk => by cases hk) (by kernel_rfl) (laid_met os _)

end Go.Proofs.Qxb6608754aFmt
