/-
  What a law is handed: slices that came in, in this seat's words.
-/
import Derived.Test.Qxb6608735aRows
import Derived.Test.Qxb6608735aBase
import Derived.WalkKit
import Derived.ProofKit
import Derived.OpenShut
import Derived.ShutString
import Derived.ChangeOld
import Derived.SliceStrings
import Derived.Below
namespace Go.Proofs.Qxb6608735a
open Go.ChangeShapes Go.WideShapes Go.ChangeAt Go.RowKit
set_option linter.unusedVariables false

theorem Try.own : ownKnob Try.prog.godebug = none := by kernel_rfl
theorem Try.laidOut : laidOutB Try.prog = true := by kernel_rfl

theorem sl_in {α : Type} {W : World} {x : Addr} {len cap : Nat} {f : α → Value} {d0 : α} {ss : List α} (hl : len ≤ cap) (hz : ss.length = cap) (hcell : ∀ i, i < ss.length → W.cell? (x.add i) = some (f (ss.getD i d0))) :
    Sl W (.slice (some x) len cap) 1 len ((ss.take len).map f) := by
  refine ⟨some x, cap, rfl, hl, by rw [List.length_map, List.length_take]; omega, fun h0 => ?_⟩
  obtain ⟨b, off, spot⟩ := x
  have hc := hcell 0 (by omega)
  have hspot : spot = none := by simpa [Addr.add] using World.cell?_spot hc
  subst hspot
  refine ⟨b, off, rfl, ?_, fun j hj => ?_⟩
  · have := World.block_lt_of_cell? W _ hc
    simpa [Addr.add] using this
  · have h1 := hcell j (by omega)
    rw [Addr.add_lit] at h1
    rw [h1, List.getElem?_map, List.getElem?_take, if_pos (by omega), List.getElem?_eq_getElem (by omega), List.getD_eq_getElem?_getD, List.getElem?_eq_getElem (by omega)]
    rfl

theorem in_strs {H : Type} {enc : TypeId × Value → H} {W : World} {a : Option Addr} {len cap : Nat} {d : DataW H} {ps : List MemPlace} (h : DataW.Trod enc Try.prog W 0 (fun _ => true) true 22 (.slice a len cap) d ps) :
    ∃ ss, Strs W (.slice a len cap) ss ∧ ss.length ≤ 9223372036854775807 ∧ ∀ s ∈ ss, s.size ≤ maxLen := by
  obtain ⟨fuel, hf⟩ := h
  rcases open_strings Try.underlying22 Try.underlying9 (by kernel_rfl) hf with ⟨hcs, _⟩ | ⟨x, l, c, ss, hcs, _, hl, hm, hz, _, hcell, hws⟩
  · simp [Value.cells] at hcs
    obtain ⟨rfl, rfl, rfl⟩ := hcs
    exact ⟨[], ⟨_, _, rfl, Nat.le_refl _, rfl, fun h => absurd h (by simp)⟩, by simp, fun s hs => by cases hs⟩
  · simp [Value.cells] at hcs
    obtain ⟨rfl, rfl, rfl⟩ := hcs
    simp only [if_true] at hz
    unfold maxLen at hm
    have e : (ss.take len).length = len := by rw [List.length_take]; omega
    refine ⟨ss.take len, ?_, by omega, fun s hs => hws s (List.mem_of_mem_take hs)⟩
    unfold Strs
    rw [e]
    exact sl_in hl hz hcell

theorem in_i64s {H : Type} {enc : TypeId × Value → H} {W : World} {a : Option Addr} {len cap : Nat} {d : DataW H} {ps : List MemPlace} (h : DataW.Trod enc Try.prog W 0 (fun _ => true) true 23 (.slice a len cap) d ps) :
    ∃ ss, I64s W (.slice a len cap) ss ∧ ss.length ≤ 9223372036854775807 := by
  obtain ⟨fuel, hf⟩ := h
  rcases open_ints Try.underlying23 Try.underlying2 (by kernel_rfl) hf with ⟨hcs, _⟩ | ⟨x, l, c, ss, hcs, _, hl, hm, hz, _, hcell, hws⟩
  · simp [Value.cells] at hcs
    obtain ⟨rfl, rfl, rfl⟩ := hcs
    exact ⟨[], ⟨_, _, rfl, Nat.le_refl _, rfl, fun h => absurd h (by simp)⟩, by simp⟩
  · simp [Value.cells] at hcs
    obtain ⟨rfl, rfl, rfl⟩ := hcs
    simp only [if_true] at hz
    unfold maxLen at hm
    have e : (ss.take len).length = len := by rw [List.length_take]; omega
    refine ⟨ss.take len, ?_, by omega⟩
    unfold I64s
    rw [e]
    exact sl_in hl hz hcell

theorem in_i32s {H : Type} {enc : TypeId × Value → H} {W : World} {a : Option Addr} {len cap : Nat} {d : DataW H} {ps : List MemPlace} (h : DataW.Trod enc Try.prog W 0 (fun _ => true) true 41 (.slice a len cap) d ps) :
    ∃ ss, I32s W (.slice a len cap) ss ∧ ss.length ≤ 9223372036854775807 ∧ ∀ o ∈ ss, -2147483648 ≤ o ∧ o ≤ 2147483647 := by
  obtain ⟨fuel, hf⟩ := h
  rcases open_ints Try.underlying41 Try.underlying21 (by kernel_rfl) hf with ⟨hcs, _⟩ | ⟨x, l, c, ss, hcs, _, hl, hm, hz, _, hcell, hws⟩
  · simp [Value.cells] at hcs
    obtain ⟨rfl, rfl, rfl⟩ := hcs
    exact ⟨[], ⟨_, _, rfl, Nat.le_refl _, rfl, fun h => absurd h (by simp)⟩, by simp, fun s hs => by cases hs⟩
  · simp [Value.cells] at hcs
    obtain ⟨rfl, rfl, rfl⟩ := hcs
    simp only [if_true] at hz
    unfold maxLen at hm
    have e : (ss.take len).length = len := by rw [List.length_take]; omega
    refine ⟨ss.take len, ?_, by omega, fun s hs => ?_⟩
    · unfold I32s
      rw [e]
      exact sl_in hl hz hcell
    · have := hws s (List.mem_of_mem_take hs)
      simp [Lit.wf, IntKind.min, IntKind.max, IntKind.bits, IntKind.signed] at this
      omega

end Go.Proofs.Qxb6608735a
