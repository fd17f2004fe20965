import Derived.Test.Qxb6608735aIn
namespace Go.Proofs.Qxb6608735a
open Go.ChangeShapes Go.WideShapes Go.ChangeAt Go.RowKit
set_option linter.unusedVariables false

/-- The words of the program's order, the first three apart. -/
def preL : List Char := ([104, 97, 114, 110, 101, 115, 115, 32, 97, 102, 49, 57, 100, 49, 57, 48, 98, 56, 102, 51, 50, 52, 102, 57, 50, 55, 98, 101, 50, 102, 52, 99, 52, 56, 102, 57, 101, 56, 48, 101, 50, 54, 54, 54, 98, 51, 53, 56, 53, 52, 53, 55, 100, 98, 50, 98, 99, 98, 99, 55, 57, 100, 56, 52, 99, 54, 101, 52, 55, 49, 51, 48, 32, 99, 117, 116] : List Nat).map Char.ofNat
def sufL : List Char := ([97, 116, 32, 101, 120, 97, 109, 112, 108, 101, 46, 99, 111, 109, 47, 100, 111, 109, 97, 105, 110, 115, 45, 105, 110, 45, 117, 110, 105, 115, 111, 110, 47, 100, 111, 109, 97, 105, 110, 115, 45, 105, 110, 45, 117, 110, 105, 115, 111, 110, 47, 122, 122, 108, 97, 119, 115, 95, 112, 107, 103, 95, 99, 111, 97, 108, 105, 116, 105, 111, 110, 95, 98, 49, 46, 70, 110, 73, 100, 115, 73, 110, 118, 101, 114, 116, 84, 111, 75, 101, 121, 80, 111, 115, 105, 116, 105, 111, 110, 115, 32, 101, 120, 97, 109, 112, 108, 101, 46, 99, 111, 109, 47, 100, 111, 109, 97, 105, 110, 115, 45, 105, 110, 45, 117, 110, 105, 115, 111, 110, 47, 100, 111, 109, 97, 105, 110, 115, 45, 105, 110, 45, 117, 110, 105, 115, 111, 110, 47, 122, 122, 108, 97, 119, 115, 95, 112, 107, 103, 95, 99, 111, 97, 108, 105, 116, 105, 111, 110, 95, 98, 49, 46, 70, 110, 73, 100, 115, 73, 103, 110, 111, 114, 101, 82, 111, 117, 110, 100, 65, 110, 100, 76, 105, 115, 116, 65, 108, 108, 73, 68, 115, 32, 101, 120, 97, 109, 112, 108, 101, 46, 99, 111, 109, 47, 100, 111, 109, 97, 105, 110, 115, 45, 105, 110, 45, 117, 110, 105, 115, 111, 110, 47, 100, 111, 109, 97, 105, 110, 115, 45, 105, 110, 45, 117, 110, 105, 115, 111, 110, 47, 122, 122, 108, 97, 119, 115, 95, 112, 107, 103, 95, 99, 111, 97, 108, 105, 116, 105, 111, 110, 95, 98, 49, 46, 70, 110, 67, 111, 110, 100, 105, 116, 105, 111, 110, 67, 104, 97, 105, 110, 73, 115, 85, 110, 105, 111, 110, 79, 102, 72, 101, 108, 100, 67, 104, 97, 105, 110, 115, 32, 101, 120, 97, 109, 112, 108, 101, 46, 99, 111, 109, 47, 100, 111, 109, 97, 105, 110, 115, 45, 105, 110, 45, 117, 110, 105, 115, 111, 110, 47, 100, 111, 109, 97, 105, 110, 115, 45, 105, 110, 45, 117, 110, 105, 115, 111, 110, 47, 122, 122, 108, 97, 119, 115, 95, 112, 107, 103, 95, 99, 111, 97, 108, 105, 116, 105, 111, 110, 95, 98, 49, 46, 70, 110, 67, 111, 110, 100, 105, 116, 105, 111, 110, 67, 104, 97, 105, 110, 67, 117, 116, 65, 110, 100, 78, 97, 109, 101, 80, 97, 116, 104, 65, 103, 114, 101, 101, 32, 101, 120, 97, 109, 112, 108, 101, 46, 99, 111, 109, 47, 100, 111, 109, 97, 105, 110, 115, 45, 105, 110, 45, 117, 110, 105, 115, 111, 110, 47, 100, 111, 109, 97, 105, 110, 115, 45, 105, 110, 45, 117, 110, 105, 115, 111, 110, 47, 122, 122, 108, 97, 119, 115, 95, 112, 107, 103, 95, 99, 111, 97, 108, 105, 116, 105, 111, 110, 95, 98, 49, 46, 70, 110, 86, 105, 97, 67, 111, 110, 100, 105, 116, 105, 111, 110, 78, 97, 109, 101, 115, 85, 110, 105, 111, 110, 65, 110, 100, 78, 97, 109, 101, 80, 97, 116, 104, 65, 103, 114, 101, 101, 115, 32, 101, 120, 97, 109, 112, 108, 101, 46, 99, 111, 109, 47, 100, 111, 109, 97, 105, 110, 115, 45, 105, 110, 45, 117, 110, 105, 115, 111, 110, 47, 100, 111, 109, 97, 105, 110, 115, 45, 105, 110, 45, 117, 110, 105, 115, 111, 110, 47, 122, 122, 108, 97, 119, 115, 95, 112, 107, 103, 95, 99, 111, 97, 108, 105, 116, 105, 111, 110, 95, 98, 49, 46, 70, 110, 86, 105, 97, 67, 111, 110, 100, 105, 116, 105, 111, 110, 79, 114, 100, 101, 114, 65, 110, 100, 82, 101, 112, 101, 97, 116, 70, 114, 101, 101, 32, 101, 120, 97, 109, 112, 108, 101, 46, 99, 111, 109, 47, 100, 111, 109, 97, 105, 110, 115, 45, 105, 110, 45, 117, 110, 105, 115, 111, 110, 47, 100, 111, 109, 97, 105, 110, 115, 45, 105, 110, 45, 117, 110, 105, 115, 111, 110, 47, 122, 122, 108, 97, 119, 115, 95, 112, 107, 103, 95, 99, 111, 97, 108, 105, 116, 105, 111, 110, 95, 98, 49, 46, 70, 110, 75, 101, 112, 116, 72, 111, 108, 100, 105, 110, 103, 65, 110, 115, 119, 101, 114, 115, 66, 121, 78, 97, 109, 101, 32, 101, 120, 97, 109, 112, 108, 101, 46, 99, 111, 109, 47, 100, 111, 109, 97, 105, 110, 115, 45, 105, 110, 45, 117, 110, 105, 115, 111, 110, 47, 100, 111, 109, 97, 105, 110, 115, 45, 105, 110, 45, 117, 110, 105, 115, 111, 110, 47, 122, 122, 108, 97, 119, 115, 95, 112, 107, 103, 95, 99, 111, 97, 108, 105, 116, 105, 111, 110, 95, 98, 49, 46, 70, 110, 75, 101, 112, 116, 72, 111, 108, 100, 105, 110, 103, 72, 111, 108, 100, 115, 69, 120, 97, 99, 116, 108, 121, 73, 116, 115, 65, 116, 111, 109, 115] : List Nat).map Char.ofNat

theorem order_is : Try.pinned.checked.prog.initOrder = String.ofList (preL ++ Char.ofNat 32 :: sufL) := by kernel_rfl

theorem words_step {c : Char} (hc : c ≠ Char.ofNat 32) (r : List Char) : wordsSigns (c :: r) = match wordsSigns r with | w :: ws => (c :: w) :: ws | [] => [[c]] := by
  rw [wordsSigns.eq_def]
  split
  · contradiction
  · rename_i h; exact absurd (by injection h) hc
  · rename_i h; injection h with h1 h2; subst h1; subst h2; rfl

theorem words_some : ∀ (a : List Char), ∃ w ws, wordsSigns a = w :: ws
  | [] => ⟨[], [], rfl⟩
  | c :: a => by
    obtain ⟨w, ws, h⟩ := words_some a
    by_cases hc : c = Char.ofNat 32
    · subst hc; exact ⟨[], _, rfl⟩
    · rw [words_step hc, h]; exact ⟨_, _, rfl⟩

theorem words_cut : ∀ (a b : List Char), wordsSigns (a ++ Char.ofNat 32 :: b) = wordsSigns a ++ wordsSigns b
  | [], b => rfl
  | c :: a, b => by
    have ih := words_cut a b
    by_cases hc : c = Char.ofNat 32
    · subst hc
      show [] :: wordsSigns (a ++ Char.ofNat 32 :: b) = ([] :: wordsSigns a) ++ wordsSigns b
      rw [ih]
      rfl
    · obtain ⟨w, ws, h⟩ := words_some a
      rw [List.cons_append, words_step hc, ih, words_step hc, h]
      rfl

def w_harness : List Char := ([104, 97, 114, 110, 101, 115, 115] : List Nat).map Char.ofNat
theorem e_harness : "harness".toList = w_harness := by
  rw [show "harness" = String.ofList w_harness from by kernel_rfl, String.toList_ofList]
def w_ownmain : List Char := ([111, 119, 110, 109, 97, 105, 110] : List Nat).map Char.ofNat
theorem e_ownmain : "ownmain".toList = w_ownmain := by
  rw [show "ownmain" = String.ofList w_ownmain from by kernel_rfl, String.toList_ofList]
def w_gc : List Char := ([103, 99] : List Nat).map Char.ofNat
theorem e_gc : "gc".toList = w_gc := by
  rw [show "gc" = String.ofList w_gc from by kernel_rfl, String.toList_ofList]
def w_spec : List Char := ([115, 112, 101, 99] : List Nat).map Char.ofNat
theorem e_spec : "spec".toList = w_spec := by
  rw [show "spec" = String.ofList w_spec from by kernel_rfl, String.toList_ofList]
def w_stop : List Char := ([115, 116, 111, 112] : List Nat).map Char.ofNat
theorem e_stop : "stop".toList = w_stop := by
  rw [show "stop" = String.ofList w_stop from by kernel_rfl, String.toList_ofList]
def w_carried : List Char := ([99, 97, 114, 114, 105, 101, 100] : List Nat).map Char.ofNat
theorem e_carried : "carried".toList = w_carried := by
  rw [show "carried" = String.ofList w_carried from by kernel_rfl, String.toList_ofList]
def w_cut : List Char := ([99, 117, 116] : List Nat).map Char.ofNat
theorem e_cut : "cut".toList = w_cut := by
  rw [show "cut" = String.ofList w_cut from by kernel_rfl, String.toList_ofList]
def lift0 : List Char := ([102, 105, 110, 97, 108, 115] : List Nat).map Char.ofNat
def lift1 : List Char := ([114, 101, 102, 108, 101, 99, 116, 114, 111, 119, 115] : List Nat).map Char.ofNat
def lift2 : List Char := ([108, 101, 97, 110, 114, 111, 119, 115] : List Nat).map Char.ofNat
def lift3 : List Char := ([111, 110, 101, 98, 117, 105, 108, 100] : List Nat).map Char.ofNat
def lift4 : List Char := ([112, 117, 98, 108, 105, 99, 115, 117, 109, 115] : List Nat).map Char.ofNat
def lift5 : List Char := ([101, 113, 103, 117, 97, 114, 100] : List Nat).map Char.ofNat
def lift6 : List Char := ([111, 119, 110, 117, 110, 115, 97, 102, 101] : List Nat).map Char.ofNat
def lift7 : List Char := ([108, 105, 98, 98, 101, 115, 105, 100, 101] : List Nat).map Char.ofNat
def lift8 : List Char := ([111, 119, 110, 98, 101, 115, 105, 100, 101] : List Nat).map Char.ofNat
def lift9 : List Char := ([114, 101, 102, 108, 98, 101, 115, 105, 100, 101] : List Nat).map Char.ofNat
def lift10 : List Char := ([97, 108, 105, 97, 115, 101, 115] : List Nat).map Char.ofNat
def lift11 : List Char := ([97, 102, 116, 101, 114, 105, 110, 105, 116] : List Nat).map Char.ofNat
def lift12 : List Char := ([99, 114, 99, 112, 108, 97, 105, 110] : List Nat).map Char.ofNat
def lift13 : List Char := ([114, 111, 97, 100, 117, 110, 115, 97, 102, 101] : List Nat).map Char.ofNat
def lift14 : List Char := ([102, 109, 116, 104, 97, 110, 100, 111, 110] : List Nat).map Char.ofNat
def w_sum : List Char := ([97, 102, 49, 57, 100, 49, 57, 48, 98, 56, 102, 51, 50, 52, 102, 57, 50, 55, 98, 101, 50, 102, 52, 99, 52, 56, 102, 57, 101, 56, 48, 101, 50, 54, 54, 54, 98, 51, 53, 56, 53, 52, 53, 55, 100, 98, 50, 98, 99, 98, 99, 55, 57, 100, 56, 52, 99, 54, 101, 52, 55, 49, 51, 48] : List Nat).map Char.ofNat
theorem pre_words : wordsSigns preL = [w_harness, w_sum, w_cut] := by kernel_rfl

theorem behind (ws : List (List Char)) : behindMainWord (w_harness :: w_sum :: w_cut :: ws) = w_cut :: ws := by
  have h : ((w_harness == "harness".toList || w_harness == "ownmain".toList) && isSumSigns w_sum) = true := by
    rw [e_harness, e_ownmain]
    kernel_rfl
  show (if ((w_harness == "harness".toList || w_harness == "ownmain".toList) && isSumSigns w_sum) = true then w_cut :: ws else w_harness :: w_sum :: w_cut :: ws) = w_cut :: ws
  rw [h]
  rfl

theorem strip_no {w : List Char} {ws : List (List Char)} {o : String} {os : List String} (h : (w == o.toList) = false) : stripLifts (o :: os) (w :: ws) = stripLifts os (w :: ws) := by
  rw [stripLifts, h]
  rfl

theorem ne_word {o : String} {l : List Char} (ho : o = String.ofList l) (h : (w_cut == l) = false) : (w_cut == o.toList) = false := by
  rw [ho, String.toList_ofList]
  exact h

theorem strip_cut (ws : List (List Char)) : stripLifts liftWords (w_cut :: ws) = ([], w_cut :: ws) := by
  unfold liftWords
  rw [strip_no (ne_word (l := lift0) (by kernel_rfl) (by kernel_rfl)), strip_no (ne_word (l := lift1) (by kernel_rfl) (by kernel_rfl)), strip_no (ne_word (l := lift2) (by kernel_rfl) (by kernel_rfl)), strip_no (ne_word (l := lift3) (by kernel_rfl) (by kernel_rfl)), strip_no (ne_word (l := lift4) (by kernel_rfl) (by kernel_rfl)), strip_no (ne_word (l := lift5) (by kernel_rfl) (by kernel_rfl)), strip_no (ne_word (l := lift6) (by kernel_rfl) (by kernel_rfl)), strip_no (ne_word (l := lift7) (by kernel_rfl) (by kernel_rfl)), strip_no (ne_word (l := lift8) (by kernel_rfl) (by kernel_rfl)), strip_no (ne_word (l := lift9) (by kernel_rfl) (by kernel_rfl)), strip_no (ne_word (l := lift10) (by kernel_rfl) (by kernel_rfl)), strip_no (ne_word (l := lift11) (by kernel_rfl) (by kernel_rfl)), strip_no (ne_word (l := lift12) (by kernel_rfl) (by kernel_rfl)), strip_no (ne_word (l := lift13) (by kernel_rfl) (by kernel_rfl)), strip_no (ne_word (l := lift14) (by kernel_rfl) (by kernel_rfl))]
  rw [stripLifts]

theorem main_words {P : Program} (h : P.initOrder = String.ofList (preL ++ Char.ofNat 32 :: sufL)) : behindMainWord (wordsSigns P.initOrder.toList) = w_cut :: wordsSigns sufL := by
  rw [h, String.toList_ofList, words_cut, pre_words]
  exact behind _

theorem may_of {P : Program} {ws : List (List Char)} (h : behindMainWord (wordsSigns P.initOrder.toList) = w_cut :: ws) (h1 : P.laysLater = false) (h2 : P.bearsReflect = false) (h3 : P.doorFits [] = true) : P.mayEnter = true := by
  unfold Program.mayEnter
  rw [h]
  simp only [strip_cut, e_cut, h1, h2, h3, List.head?_cons]
  simp

theorem lifts_of {P : Program} {ws : List (List Char)} (h : behindMainWord (wordsSigns P.initOrder.toList) = w_cut :: ws) : P.liftsFinal = false := by
  have hn : (some w_cut == some w_carried) = false := by kernel_rfl
  have hh : P.headLifts = [] := by
    unfold Program.headLifts
    rw [h, strip_cut]
    simp
  unfold Program.liftsFinal
  rw [h, hh, e_carried]
  show ((some w_cut == some w_carried) && (List.take 3 (w_cut :: ws) != [w_carried, "gc".toList, "cut".toList]) || ([] : List String).contains "finals") = false
  rw [hn]
  rfl

theorem make_of {P : Program} {ws : List (List Char)} (h : behindMainWord (wordsSigns P.initOrder.toList) = w_cut :: ws) : P.make = some .cut := by
  have h1 : (w_cut == w_gc || w_cut == w_spec) = false := by kernel_rfl
  have h2 : (w_cut == w_cut) = true := by kernel_rfl
  unfold Program.make
  rw [h]
  show (if (w_cut == "gc".toList || w_cut == "spec".toList) = true then some Make.whole else if (w_cut == "cut".toList || (w_cut == "finals".toList && ws.head? == some "cut".toList)) = true then some .cut else _) = some .cut
  rw [e_gc, e_spec, e_cut, h1, h2]
  rfl

theorem lays_later : Try.pinned.checked.prog.laysLater = false := by kernel_rfl
theorem bears_reflect : Try.pinned.checked.prog.bearsReflect = false := by kernel_rfl
theorem door_fits : Try.pinned.checked.prog.doorFits [] = true := by kernel_rfl

theorem may_enter : Try.pinned.checked.prog.mayEnter = true := may_of (main_words order_is) lays_later bears_reflect door_fits
theorem make_cut : Try.pinned.checked.prog.make = some .cut := make_of (main_words order_is)
theorem lifts_final : Try.pinned.checked.prog.liftsFinal = false := lifts_of (main_words order_is)

theorem band {a b : Bool} (h : a = true) (g : b = true) : (a && b) = true := by rw [h, g]; rfl

end Go.Proofs.Qxb6608735a
