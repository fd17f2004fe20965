/-
  Plain: the chain of several attributes.
-/
import Derived.Test.Qxb6608735aPlain
namespace Go.Proofs.Qxb6608735a

def stepC (r c : Option (List Int)) : Option (List Int) :=
  match r, c with
  | some l, some m => some (mrg l m)
  | _, _ => none
/-- The chains of all, merged in order; none where one is not held. -/
def accL {α : Type} (f : α → Option (List Int)) (C : List α) : Option (List Int) := C.foldl (fun r s => stepC r (f s)) (some [])

theorem accL_snoc {α : Type} (f : α → Option (List Int)) (C : List α) (s : α) : accL f (C ++ [s]) = stepC (accL f C) (f s) := by
  unfold accL; rw [List.foldl_append]; rfl

theorem fold_none {α : Type} (f : α → Option (List Int)) (C : List α) : C.foldl (fun r s => stepC r (f s)) none = none := by
  induction C with
  | nil => rfl
  | cons x C ih => rw [List.foldl_cons]; exact ih

theorem accL_none_append {α : Type} (f : α → Option (List Int)) (C E : List α) (h : accL f C = none) : accL f (C ++ E) = none := by
  unfold accL at *; rw [List.foldl_append, h, fold_none]

theorem accL_take {α : Type} (f : α → Option (List Int)) {C : List α} {k : Nat} {s : α} (h : C[k]? = some s) : accL f (C.take (k + 1)) = stepC (accL f (C.take k)) (f s) := by
  rw [take_snoc h, accL_snoc]

theorem accL_none_take {α : Type} (f : α → Option (List Int)) {C : List α} {k : Nat} {s : α} (h : C[k]? = some s) (hs : f s = none) : accL f C = none := by
  have h1 : accL f (C.take (k + 1)) = none := by
    rw [accL_take f h, hs]; cases accL f (C.take k) <;> rfl
  have := accL_none_append f (C.take (k + 1)) (C.drop (k + 1)) h1
  rwa [List.take_append_drop] at this

theorem accL_some_iff {α : Type} (f : α → Option (List Int)) (C : List α) : (accL f C).isSome = true ↔ ∀ s ∈ C, (f s).isSome = true := by
  suffices h : ∀ (C : List α) (r : Option (List Int)), (C.foldl (fun r s => stepC r (f s)) r).isSome = true ↔ r.isSome = true ∧ ∀ s ∈ C, (f s).isSome = true by
    unfold accL; rw [h]; simp
  intro C
  induction C with
  | nil => intro r; simp
  | cons x C ih =>
    intro r
    rw [List.foldl_cons, ih]
    have e : (stepC r (f x)).isSome = true ↔ r.isSome = true ∧ (f x).isSome = true := by
      cases r <;> cases f x <;> simp [stepC]
    rw [e]
    constructor
    · rintro ⟨⟨h1, h2⟩, h3⟩
      refine ⟨h1, fun s hs => ?_⟩
      rcases List.mem_cons.1 hs with rfl | hs
      · exact h2
      · exact h3 s hs
    · rintro ⟨h1, h2⟩
      exact ⟨⟨h1, h2 x (by simp)⟩, fun s hs => h2 s (List.mem_cons_of_mem _ hs)⟩

theorem accL_length {α : Type} (f : α → Option (List Int)) (M : Nat) (hf : ∀ s l, f s = some l → l.length ≤ M) (C : List α) : ∀ k l, k ≤ C.length → accL f (C.take k) = some l → l.length ≤ k * M := by
  intro k
  induction k with
  | zero => intro l _ h; simp [accL] at h; subst h; simp
  | succ k ih =>
    intro l hk h
    obtain ⟨s, hs⟩ := get_of_lt (l := C) (k := k) rfl (by omega)
    rw [accL_take f hs] at h
    cases h1 : accL f (C.take k) with
    | none => rw [h1] at h; simp [stepC] at h
    | some l1 =>
      cases h2 : f s with
      | none => rw [h1, h2] at h; simp [stepC] at h
      | some l2 =>
        rw [h1, h2] at h
        simp [stepC] at h
        subst h
        have := mrg_length l1 l2
        have := ih l1 (by omega) h1
        have := hf s l2 h2
        rw [Nat.add_mul]
        omega

theorem seg_length (K : List Int) (l h : Int) : (seg K l h).length ≤ K.length := by
  unfold seg
  rw [List.length_take, List.length_drop]; omega
theorem chainL_length (K : List Int) (A : List (Int × Int)) (o : Int) : (chainL K A o).length ≤ K.length := by
  unfold chainL
  split
  · exact seg_length _ _ _
  · simp
theorem atL_length {O K : List Int} {A : List (Int × Int)} (p : Nat) (l : List Int) (h : atL O K A p = some l) : l.length ≤ K.length := by
  unfold atL at h
  split at h
  · cases h
  · split at h
    · cases h; simp
    · split at h
      · cases h
      · cases h; exact chainL_length _ _ _
theorem lookL_length {L : List ByteArray} {O K : List Int} {A : List (Int × Int)} {T : List ByteArray} (s : ByteArray) (l : List Int) (h : lookL L O K A T s = some l) : l.length ≤ K.length := by
  unfold lookL at h
  split at h
  · exact atL_length _ _ h
  · split at h
    · cases h; simp
    · cases h

/-- What a condition of the holding's own atoms answers: the places' chains merged, if each is held and every other attribute is among the others held. -/
def condL (O K : List Int) (A : List (Int × Int)) (T : List ByteArray) (P : List Nat) (C2 : List ByteArray) : Option (List Int) :=
  match accL (atL O K A) P with
  | none => none
  | some l => if ∀ s ∈ C2, (pos T s).isSome = true then some l else none

theorem condL_none {O K : List Int} {A : List (Int × Int)} {T : List ByteArray} {P : List Nat} {C2 : List ByteArray} (h : accL (atL O K A) P = none) : condL O K A T P C2 = none := by
  unfold condL; rw [h]
theorem condL_not {O K : List Int} {A : List (Int × Int)} {T : List ByteArray} {P : List Nat} {C2 : List ByteArray} {l : List Int} (h : accL (atL O K A) P = some l) {s : ByteArray} (hs : s ∈ C2) (hn : (pos T s).isSome = false) : condL O K A T P C2 = none := by
  unfold condL; rw [h]
  simp only
  rw [if_neg]
  intro hall
  rw [hall s hs] at hn; cases hn
theorem condL_some {O K : List Int} {A : List (Int × Int)} {T : List ByteArray} {P : List Nat} {C2 : List ByteArray} {l : List Int} (h : accL (atL O K A) P = some l) (hall : ∀ s ∈ C2, (pos T s).isSome = true) : condL O K A T P C2 = some l := by
  unfold condL; rw [h]
  simp only
  rw [if_pos hall]

end Go.Proofs.Qxb6608735a
