import Derived.Test.Qxb6608754aFmtVid
namespace Go.Proofs.Qxb6608754aFmt
open Go
set_option linter.unusedVariables false

/-- The digits, read by the law's own model: once past 4094 it stays. -/
def sat (v : Nat) : List UInt8 → Option Nat
  | [] => some v
  | c :: r => if 48 ≤ c.toNat ∧ c.toNat ≤ 57 then sat (if v ≤ 4094 then v * 10 + (c.toNat - 48) else v) r else none

def fits (neg : Bool) : Option Nat → Option Nat
  | none => none
  | some v => if neg = true ∨ v < 1 ∨ 4094 < v then none else some v

/-- What stands behind a sign, or the whole. -/
def digitsOf (l : List UInt8) : List UInt8 := match l with
  | [] => []
  | c :: r => if c.toNat = 43 ∨ c.toNat = 45 then r else l
def negOf (l : List UInt8) : Bool := match l with
  | [] => false
  | c :: _ => decide (c.toNat = 45)
def modelL (l : List UInt8) : Option Nat := if digitsOf l = [] then none else fits (negOf l) (sat 0 (digitsOf l))

/-- Two counts that agree as far as the law can tell. -/
def Agree (a v : Nat) : Prop := (a ≤ 4094 ∧ v = a) ∨ (4094 < a ∧ 4094 < v)

def AgreeRes (p : Lib.NumEnd Nat) (r : Option Nat) : Prop :=
  (∃ u v, p = .ok u ∧ r = some v ∧ Agree u v) ∨ ((∀ u, p ≠ .ok u) ∧ (r = none ∨ ∃ v, r = some v ∧ 4094 < v))

theorem sat_big : ∀ (l : List UInt8) (v : Nat), 4094 < v → sat v l = none ∨ ∃ u, sat v l = some u ∧ 4094 < u
  | [], v, h => .inr ⟨v, rfl, h⟩
  | c :: r, v, h => by
    unfold sat
    split
    · rw [if_neg (by omega)]
      exact sat_big r v h
    · exact .inl rfl

theorem agree_run : ∀ (l : List UInt8) (a v : Nat), Agree a v → AgreeRes (Lib.parseUint10 a l) (sat v l)
  | [], a, v, h => .inl ⟨a, v, rfl, rfl, h⟩
  | c :: r, a, v, h => by
    unfold Lib.parseUint10 sat
    split
    · rename_i hd
      have hbig : 1844674407370955162 ≤ a ∨ 18446744073709551616 ≤ a * 10 + (c.toNat - 48) → 4094 < v := by
        intro hh
        rcases h with ⟨h1, h2⟩ | ⟨h1, h2⟩
        · omega
        · exact h2
      split
      · rename_i h1
        have := hbig (.inl h1)
        rw [if_neg (by omega)]
        exact .inr ⟨(fun u hu => by cases hu), sat_big r v this⟩
      · split
        · rename_i h1
          have := hbig (.inr h1)
          rw [if_neg (by omega)]
          exact .inr ⟨(fun u hu => by cases hu), sat_big r v this⟩
        · refine agree_run r _ _ ?_
          rcases h with ⟨h1, h2⟩ | ⟨h1, h2⟩
          · subst h2
            rw [if_pos h1]
            by_cases h3 : v * 10 + (c.toNat - 48) ≤ 4094
            · exact .inl ⟨h3, rfl⟩
            · exact .inr ⟨by omega, by omega⟩
          · rw [if_neg (by omega)]
            exact .inr ⟨by omega, h2⟩
    · exact .inr ⟨(fun u hu => by cases hu), .inl rfl⟩

theorem vid_none {l : List UInt8} (h : ∀ v, Lib.atoiAll l ≠ .ok v) : vid l = none := by
  unfold vid
  cases hx : Lib.atoiAll l
  · exact absurd hx (h _)
  · rfl
  · rfl

theorem vid_cons (c : UInt8) (r : List UInt8) : vid (c :: r) = modelL (c :: r) := by
  have hD : (if c.toNat = 43 ∨ c.toNat = 45 then r else c :: r) = digitsOf (c :: r) := rfl
  have hN : negOf (c :: r) = decide (c.toNat = 45) := rfl
  generalize hd : digitsOf (c :: r) = D at hD
  unfold modelL
  rw [hd, hN]
  by_cases h0 : D = []
  · rw [if_pos h0]
    refine vid_none fun v hv => ?_
    unfold Lib.atoiAll at hv
    simp only [hD] at hv
    simp [Lib.parseMag, h0] at hv
  · rw [if_neg h0]
    have hm : Lib.parseMag D = Lib.parseUint10 0 D := by unfold Lib.parseMag; rw [if_neg h0]
    rcases agree_run D 0 0 (.inl ⟨by omega, rfl⟩) with ⟨u, v, hp, hs, hA⟩ | ⟨hp, hs⟩
    · rw [hs]
      unfold vid Lib.atoiAll
      simp only [hD, hm, hp]
      by_cases hc : c.toNat = 45
      · simp only [hc, not_true_eq_false, false_and, if_false, true_and, decide_true, fits, true_or, if_true]
        split
        · rename_i x hx
          split at hx
          · cases hx
          · cases hx
            rw [if_neg (by omega)]
        · rfl
      · simp only [hc, not_false_eq_true, true_and, if_false, false_and, decide_false, fits, Bool.false_eq_true, false_or]
        rcases hA with ⟨h1, h2⟩ | ⟨h1, h2⟩
        · subst h2
          rw [if_neg (by omega)]
          simp only
          by_cases h3 : v < 1 ∨ 4094 < v
          · rw [if_neg (by omega), if_pos h3]
          · rw [if_pos (by omega), if_neg h3]
            simp
        · rw [if_pos (by omega : v < 1 ∨ 4094 < v)]
          split
          · rename_i x hx
            split at hx
            · cases hx
            · cases hx
              rw [if_neg (by omega)]
          · rfl
    · have hn : vid (c :: r) = none := by
        refine vid_none fun v hv => ?_
        unfold Lib.atoiAll at hv
        simp only [hD, hm] at hv
        cases hx : Lib.parseUint10 0 D
        · exact hp _ hx
        · rw [hx] at hv; cases hv
        · rw [hx] at hv; cases hv
      rw [hn]
      rcases hs with hs | ⟨v, hs, hv⟩
      · rw [hs]; rfl
      · rw [hs]; simp only [fits]; rw [if_pos (by omega)]

theorem vid_eq (l : List UInt8) : vid l = modelL l := by
  cases l with
  | nil => rfl
  | cons c r => exact vid_cons c r

end Go.Proofs.Qxb6608754aFmt
