import Derived.Test.Qxb6608735aTop
import Derived.Test.Qxb6608735aPlain4
namespace Go.Proofs.Qxb6608735a
open Go.RowKit
set_option linter.unusedVariables false

/-- What the model answers is the chain. -/
theorem ModelRes.chain {f : ByteArray → Option (List Int)} {C : List ByteArray} {e : Ending} {w' : World} (h : ModelRes f C e w') (hf : ∀ s l, f s = some l → Asc l) : ChainRes (accL f C) e w' := by
  rcases h with ⟨⟨s, hs, hn⟩, he⟩ | ⟨hall, v, keys, he, hv, hasc, hmem⟩
  · obtain ⟨k, hk⟩ := List.getElem?_of_mem hs
    rw [accL_none_take f hk hn]
    exact he
  · have h1 := (accL_some_iff f C).2 hall
    cases h2 : accL f C with
    | none => rw [h2] at h1; cases h1
    | some l =>
      have e2 : keys = l := asc_ext hasc (accL_asc f hf C l h2) fun x => (hmem x).trans (accL_mem f x C l h2).symm
      subst e2
      exact ⟨v, he, hv⟩

/-- A chain and whether it is one, in two variables. -/
def ChainIn (r : Option (List Int)) (s t : Value) (w : World) : Prop := ∃ a n c b, s = .slice a n c ∧ t = .bool b ∧ b = r.isSome ∧ n = (r.getD []).length ∧ I64s w (.slice a n c) (r.getD [])

theorem ChainIn.below {r : Option (List Int)} {s t : Value} {w w' : World} (h : ChainIn r s t w) (hb : Below w.heap.size w w') : ChainIn r s t w' := by
  obtain ⟨a, n, c, b, h1, h2, h3, h4, h5⟩ := h
  exact ⟨a, n, c, b, h1, h2, h3, h4, h5.below hb⟩

/-- The same, the letters in sight, the rest hidden. -/
def ChainAs (r : Option (List Int)) (a : Option Addr) (n c : Nat) (b : Bool) (w : World) : Prop := b = r.isSome ∧ n = (r.getD []).length ∧ I64s w (.slice a n c) (r.getD [])
theorem ChainAs.below {r : Option (List Int)} {a : Option Addr} {n c : Nat} {b : Bool} {w w' : World} (h : ChainAs r a n c b w) (hb : Below w.heap.size w w') : ChainAs r a n c b w' := ⟨h.1, h.2.1, h.2.2.below hb⟩
theorem ChainAs.cut {r : Option (List Int)} {a : Option Addr} {n c : Nat} {b : Bool} {w : World} (h : ChainAs r a n c b w) : ChainIn r (.slice a n c) (.bool b) w := ⟨a, n, c, b, rfl, rfl, h.1, h.2.1, h.2.2⟩
theorem ChainIn.as {r : Option (List Int)} {s t : Value} {w : World} (h : ChainIn r s t w) : ∃ a n c b, s = .slice a n c ∧ t = .bool b ∧ ChainAs r a n c b w := by
  obtain ⟨a, n, c, b, h1, h2, h3, h4, h5⟩ := h
  exact ⟨a, n, c, b, h1, h2, h3, h4, h5⟩
theorem ChainRes.as {r : Option (List Int)} {e : Ending} {w' : World} (h : ChainRes r e w') : ∃ a n c b, e = .returned (.tuple #[.slice a n c, .bool b]) ∧ ChainAs r a n c b w' := by
  obtain ⟨a, n, c, b, h1, h2, h3, h4⟩ := h.flat
  exact ⟨a, n, c, b, h1, h2.out, h3.out, h4⟩
theorem ChainAs.no {r : Option (List Int)} {a : Option Addr} {n c : Nat} {w : World} (h : ChainAs r a n c false w) : r = none ∧ n = 0 := by
  obtain ⟨h1, h2, h3⟩ := h
  cases r with
  | none => exact ⟨rfl, h2⟩
  | some l => cases h1
theorem ChainAs.yes {r : Option (List Int)} {a : Option Addr} {n c : Nat} {w : World} (h : ChainAs r a n c true w) : ∃ l, r = some l ∧ n = l.length ∧ I64s w (.slice a n c) l := by
  obtain ⟨h1, h2, h3⟩ := h
  cases r with
  | none => cases h1
  | some l => exact ⟨l, rfl, h2, h3⟩

theorem ask_same' {w : World} {vL vO vK vlo vhi vT vD vC : Value} {L : List ByteArray} {O K lo hi : List Int} {T D C : List ByteArray} {bx hx hb ab nb cb im : Nat} {vh va vl vo vi : Value}
    (h : Ready w vL vO vK vlo vhi vT vD vC L O K lo hi T D C bx hx hb ab nb cb im vh va vl vo vi) (hf : Fine L O K lo hi T D) (mL : L.length ≤ 4096) (mO : O.length ≤ 4096) (mK : K.length ≤ 4096) (mlo : lo.length ≤ 4096) (mT : T.length ≤ 4096)
    (E : List ByteArray) (mE : E.length ≤ 8192) (a1 : Option Addr) (n1 c1 : Nat) (a2 : Option Addr) (n2 c2 : Nat) (a3 : Option Addr) (n3 c3 : Nat)
    (h2 : I64s w (.slice a2 n2 c2) ((posL L E).map (fun p : Nat => (p : Int)))) (h3 : Names w (.slice a3 n3 c3) (othL L E)) :
    Calls Try.prog 29 #[.agg #[.pointer (some ⟨hb, 0, none⟩)], .agg #[.slice a1 n1 c1, .pointer (some ⟨ab, 0, none⟩), .slice a2 n2 c2, .slice a3 n3 c3]] w fun e w' => ChainRes (accL (lookL L O K (lo.zip hi) T) E) e w' ∧ Below w.heap.size w w' := by
  have := ask_same h hf mL mO mK mlo mT E mE a1 n1 c1 a2 n2 c2 a3 n3 c3 h2 h3
  rw [cond_eq] at this
  exact this

theorem model_chain (bx : Nat) (vO vK vlo vhi vT vC : Value) (L : List ByteArray) (O K lo hi : List Int) (T D C : List ByteArray) (w : World)
    (hx : IdxMap strKey w bx L) (hO : I32s w vO O) (hK : I64s w vK K) (hlo : I32s w vlo lo) (hhi : I32s w vhi hi) (hT : Strs w vT T) (hC : Strs w vC C) (hf : Fine L O K lo hi T D)
    (mL : L.length ≤ 4096) (mO : O.length ≤ 4096) (mK : K.length ≤ 4096) (mlo : lo.length ≤ 4096) (mT : T.length ≤ 4096) (mC : C.length ≤ 8192)
    (wO : ∀ o ∈ O, -2147483648 ≤ o ∧ o ≤ 2147483647) :
    Calls Try.prog 31 #[.map (some bx), vO, vK, vlo, vhi, vT, vC] w fun e w' => ChainRes (accL (lookL L O K (lo.zip hi) T) C) e w' ∧ Below w.heap.size w w' :=
  (model_any bx vO vK vlo vhi vT vC L O K lo hi T D C w hx hO hK hlo hhi hT hC hf mL mO mK mlo mT mC wO).mono fun e w' ⟨h1, h2⟩ => ⟨h1.chain (lookL_asc hf), h2⟩

/-- The value of a slice, in letters. -/
theorem I64s.lay {w : World} {v : Value} {zs : List Int} (h : I64s w v zs) : ∃ a n c, v = .slice a n c := by
  obtain ⟨a, c, rfl, _⟩ := h
  exact ⟨_, _, _, rfl⟩
theorem Names.lay {w : World} {v : Value} {zs : List ByteArray} (h : Names w v zs) : ∃ a n c, v = .slice a n c := by
  obtain ⟨a, c, rfl, _⟩ := h
  exact ⟨_, _, _, rfl⟩

end Go.Proofs.Qxb6608735a
