/-
  Plain facts on lists and numbers. No Go in sight.
-/
namespace Go.Proofs.Qxb6608735a

theorem take_snoc {α : Type} {l : List α} {k : Nat} {z : α} (h : l[k]? = some z) : l.take (k + 1) = l.take k ++ [z] := by
  have hk := (List.getElem?_eq_some_iff.1 h).1
  rw [List.take_succ_eq_append_getElem hk]
  obtain ⟨_, hz⟩ := List.getElem?_eq_some_iff.1 h
  rw [hz]

theorem get_of_lt {α : Type} {l : List α} {k n : Nat} (hn : l.length = n) (h : k < n) : ∃ z, l[k]? = some z :=
  ⟨l[k]'(by omega), by simp⟩

theorem not_mem_take_succ {α : Type} {l : List α} {k : Nat} {z x : α} (h : l[k]? = some z) (hn : x ∉ l.take k) (hx : z ≠ x) : x ∉ l.take (k + 1) := by
  rw [take_snoc h]
  simp only [List.mem_append, List.mem_singleton, not_or]
  exact ⟨hn, fun e => hx e.symm⟩

theorem take_all {α : Type} {l : List α} {k n : Nat} (hn : l.length = n) (hk : n ≤ k) : l.take k = l := List.take_of_length_le (by omega)

/-- Two lists of one length that agree on the first k elements and at k. -/
theorem take_eq_succ {α : Type} {l m : List α} {k : Nat} {z : α} (h : l.take k = m.take k) (hl : l[k]? = some z) (hm : m[k]? = some z) : l.take (k + 1) = m.take (k + 1) := by
  rw [take_snoc hl, take_snoc hm, h]

theorem ne_of_get_ne {α : Type} {l m : List α} {k : Nat} {z y : α} (hl : l[k]? = some z) (hm : m[k]? = some y) (hne : z ≠ y) : l ≠ m := by
  intro e
  rw [e, hm] at hl
  exact hne (Option.some.inj hl).symm

/-- A cell stored at k behind the first k. -/
theorem set_take1 {α : Type} {cs T : List α} {k : Nat} (u : α) (h : cs.take k = T) (hk : k < cs.length) : (cs.set k u).take (k + 1) = T ++ [u] := by
  have h1 : (cs.set k u)[k]? = some u := by simp [hk]
  rw [take_snoc h1, List.take_set_of_le (Nat.le_refl _), h]

theorem set_take2 {α : Type} {cs T : List α} {k : Nat} (u v : α) (h : cs.take (k * 2) = T) (hk : k * 2 + 1 < cs.length) : ((cs.set (k * 2) u).set (k * 2 + 1) v).take ((k + 1) * 2) = T ++ [u, v] := by
  have h1 := set_take1 u h (by omega)
  have h2 := set_take1 v h1 (by simpa using hk)
  rw [show (k + 1) * 2 = k * 2 + 1 + 1 from by omega, h2]; simp

theorem set_take3 {α : Type} {cs T : List α} {k : Nat} (u v x : α) (h : cs.take (k * 3) = T) (hk : k * 3 + 2 < cs.length) : (((cs.set (k * 3) u).set (k * 3 + 1) v).set (k * 3 + 2) x).take ((k + 1) * 3) = T ++ [u, v, x] := by
  have h1 := set_take1 u h (by omega)
  have h2 := set_take1 v h1 (by simp; omega)
  have h3 := set_take1 x h2 (by simp; omega)
  rw [show (k + 1) * 3 = k * 3 + 1 + 1 + 1 from by omega]
  rw [show k * 3 + 2 = k * 3 + 1 + 1 from by omega, h3]; simp

/-! ### the atoms held: position and owner, in ascending position -/
def heldL (O : List Int) : List (Int × Int) := (O.zipIdx.filter (fun p => decide (-2 ≤ p.1))).map (fun p => ((p.2 : Int), p.1))

theorem heldL_snoc (O : List Int) (o : Int) : heldL (O ++ [o]) = heldL O ++ (if -2 ≤ o then [((O.length : Int), o)] else []) := by
  unfold heldL
  rw [List.zipIdx_append]
  by_cases h : -2 ≤ o <;> simp [List.filter_append, h]

theorem heldL_length (O : List Int) : (heldL O).length ≤ O.length := by
  unfold heldL
  rw [List.length_map]
  exact Nat.le_trans (List.length_filter_le _ _) (by simp)

theorem heldL_take {O : List Int} {k : Nat} {o : Int} (h : O[k]? = some o) : heldL (O.take (k + 1)) = heldL (O.take k) ++ (if -2 ≤ o then [((k : Int), o)] else []) := by
  have hk := (List.getElem?_eq_some_iff.1 h).1
  rw [take_snoc h, heldL_snoc, List.length_take, Nat.min_eq_left (by omega)]

/-! ### the place of a string in a list -/
def posFrom (s : ByteArray) : List ByteArray → Nat → Option Nat
  | [], _ => none
  | x :: l, i => if s = x then some i else posFrom s l (i + 1)
def pos (L : List ByteArray) (s : ByteArray) : Option Nat := posFrom s L 0

theorem posFrom_some {s : ByteArray} : ∀ {L : List ByteArray} {i p : Nat}, posFrom s L i = some p → ∃ j, p = i + j ∧ L[j]? = some s
  | [], i, p, h => by simp [posFrom] at h
  | x :: l, i, p, h => by
    unfold posFrom at h
    split at h
    · rename_i e
      cases h
      exact ⟨0, rfl, by simp [e]⟩
    · obtain ⟨j, hj, hl⟩ := posFrom_some h
      exact ⟨j + 1, by omega, by simpa using hl⟩

theorem posFrom_none {s : ByteArray} : ∀ {L : List ByteArray} {i : Nat}, posFrom s L i = none ↔ s ∉ L
  | [], i => by simp [posFrom]
  | x :: l, i => by
    unfold posFrom
    split
    · rename_i e; simp [e]
    · rename_i e
      rw [posFrom_none]
      simp [e]

theorem pos_some {L : List ByteArray} {s : ByteArray} {p : Nat} (h : pos L s = some p) : L[p]? = some s := by
  obtain ⟨j, hj, hl⟩ := posFrom_some h
  rw [show p = j from by omega]; exact hl

theorem pos_none {L : List ByteArray} {s : ByteArray} : pos L s = none ↔ s ∉ L := posFrom_none

theorem pos_lt {L : List ByteArray} {s : ByteArray} {p : Nat} (h : pos L s = some p) : p < L.length := (List.getElem?_eq_some_iff.1 (pos_some h)).1

theorem pos_isSome {L : List ByteArray} {s : ByteArray} (h : s ∈ L) : (pos L s).isSome = true := by
  cases hp : pos L s with
  | none => exact absurd h (pos_none.1 hp)
  | some p => rfl

theorem pos_isSome_not {L : List ByteArray} {s : ByteArray} (h : s ∉ L) : (pos L s).isSome = false := by
  rw [pos_none.2 h]; rfl

theorem pos_of_mem {L : List ByteArray} {s : ByteArray} (h : s ∈ L) : ∃ p, pos L s = some p := by
  cases hp : pos L s with
  | none => exact absurd h (pos_none.1 hp)
  | some p => exact ⟨p, rfl⟩

theorem nodup_snoc {α : Type} {l : List α} {x : α} (h : l.Nodup) (hx : x ∉ l) : (l ++ [x]).Nodup := by
  rw [List.nodup_append]
  refine ⟨h, by simp, fun a ha b hb => ?_⟩
  rw [List.mem_singleton.1 hb]
  exact fun e => hx (e ▸ ha)

theorem take_nodup_snoc {α : Type} {l : List α} {k : Nat} {z : α} (h : l[k]? = some z) (hn : (l.take k).Nodup) (hz : z ∉ l.take k) : (l.take (k + 1)).Nodup := by
  rw [take_snoc h]; exact nodup_snoc hn hz

theorem not_nodup_of_take {α : Type} {l : List α} {k : Nat} {z : α} (h : l[k]? = some z) (hz : z ∈ l.take k) : ¬ l.Nodup := by
  intro hn
  have h1 : (l.take (k + 1)).Nodup := (List.take_sublist _ _).nodup hn
  rw [take_snoc h, List.nodup_append] at h1
  exact h1.2.2 z hz z (by simp) rfl

theorem length_take_le {α : Type} {l : List α} {k n : Nat} (hn : l.length = n) (hk : k ≤ n) : (l.take k).length = k := by
  rw [List.length_take, hn]; omega

/-! ### merging two ascending lists -/
def mrgF : Nat → List Int → List Int → List Int
  | 0, A, B => A ++ B
  | _ + 1, [], B => B
  | _ + 1, a :: A, [] => a :: A
  | n + 1, a :: A, b :: B => if a < b then a :: mrgF n A (b :: B) else if b < a then b :: mrgF n (a :: A) B else a :: mrgF n A B
def mrg (A B : List Int) : List Int := mrgF (A.length + B.length) A B

theorem mrgF_nil (n : Nat) (B : List Int) : mrgF n [] B = B := by cases n <;> simp [mrgF]
theorem mrgF_nil' (n : Nat) (A : List Int) : mrgF n A [] = A := by cases n <;> cases A <;> simp [mrgF]

theorem mrgF_fuel : ∀ (n m : Nat) (A B : List Int), A.length + B.length ≤ n → A.length + B.length ≤ m → mrgF n A B = mrgF m A B
  | n, m, [], B, _, _ => by rw [mrgF_nil, mrgF_nil]
  | n, m, a :: A, [], _, _ => by rw [mrgF_nil', mrgF_nil']
  | n, m, a :: A, b :: B, hn, hm => by
    obtain ⟨n, rfl⟩ : ∃ k, n = k + 1 := ⟨n - 1, by simp at hn; omega⟩
    obtain ⟨m, rfl⟩ : ∃ k, m = k + 1 := ⟨m - 1, by simp at hm; omega⟩
    simp only [List.length_cons] at hn hm
    unfold mrgF
    rw [mrgF_fuel n m A (b :: B) (by simp; omega) (by simp; omega), mrgF_fuel n m (a :: A) B (by simp; omega) (by simp; omega), mrgF_fuel n m A B (by omega) (by omega)]

theorem mrg_nil (B : List Int) : mrg [] B = B := mrgF_nil _ _
theorem mrg_nil' (A : List Int) : mrg A [] = A := mrgF_nil' _ _
theorem mrg_lt {a b : Int} (A B : List Int) (h : a < b) : mrg (a :: A) (b :: B) = a :: mrg A (b :: B) := by
  unfold mrg
  have e : (a :: A).length + (b :: B).length = (A.length + (b :: B).length) + 1 := by simp; omega
  rw [e]; conv => lhs; unfold mrgF
  rw [if_pos h]
theorem mrg_gt {a b : Int} (A B : List Int) (h : b < a) : mrg (a :: A) (b :: B) = b :: mrg (a :: A) B := by
  unfold mrg
  have e : (a :: A).length + (b :: B).length = ((a :: A).length + B.length) + 1 := by simp; omega
  rw [e]; conv => lhs; unfold mrgF
  rw [if_neg (by omega), if_pos h]
theorem mrg_eq {a b : Int} (A B : List Int) (h1 : ¬ a < b) (h2 : ¬ b < a) : mrg (a :: A) (b :: B) = a :: mrg A B := by
  unfold mrg
  have e : (a :: A).length + (b :: B).length = (A.length + B.length + 1) + 1 := by simp; omega
  rw [e]; conv => lhs; unfold mrgF
  rw [if_neg h1, if_neg h2, mrgF_fuel _ (A.length + B.length) A B (by omega) (by omega)]

theorem mrgF_length : ∀ (n : Nat) (A B : List Int), (mrgF n A B).length ≤ A.length + B.length
  | 0, A, B => by simp [mrgF]
  | n + 1, [], B => by simp [mrgF]
  | n + 1, a :: A, [] => by simp [mrgF]
  | n + 1, a :: A, b :: B => by
    have h1 := mrgF_length n A (b :: B)
    have h2 := mrgF_length n (a :: A) B
    have h3 := mrgF_length n A B
    unfold mrgF
    simp only [List.length_cons] at *
    split
    · simp; omega
    · split <;> simp <;> omega
theorem mrg_length (A B : List Int) : (mrg A B).length ≤ A.length + B.length := mrgF_length _ _ _

theorem mrgF_mem (x : Int) : ∀ (n : Nat) (A B : List Int), x ∈ mrgF n A B ↔ x ∈ A ∨ x ∈ B
  | 0, A, B => by simp [mrgF]
  | n + 1, [], B => by simp [mrgF]
  | n + 1, a :: A, [] => by simp [mrgF]
  | n + 1, a :: A, b :: B => by
    have h1 := mrgF_mem x n A (b :: B)
    have h2 := mrgF_mem x n (a :: A) B
    have h3 := mrgF_mem x n A B
    unfold mrgF
    by_cases hab : a < b
    · rw [if_pos hab, List.mem_cons, h1, List.mem_cons, List.mem_cons]
      exact or_assoc.symm
    · rw [if_neg hab]
      by_cases hba : b < a
      · rw [if_pos hba, List.mem_cons, h2, List.mem_cons, List.mem_cons]
        constructor
        · rintro (h | (h | h) | h)
          · exact .inr (.inl h)
          · exact .inl (.inl h)
          · exact .inl (.inr h)
          · exact .inr (.inr h)
        · rintro ((h | h) | h | h)
          · exact .inr (.inl (.inl h))
          · exact .inr (.inl (.inr h))
          · exact .inl h
          · exact .inr (.inr h)
      · rw [if_neg hba, List.mem_cons, h3, List.mem_cons, List.mem_cons]
        have e : a = b := by omega
        subst e
        constructor
        · rintro (h | h | h)
          · exact .inl (.inl h)
          · exact .inl (.inr h)
          · exact .inr (.inr h)
        · rintro ((h | h) | h | h)
          · exact .inl h
          · exact .inr (.inl h)
          · exact .inl h
          · exact .inr (.inr h)
theorem mrg_mem {x : Int} {A B : List Int} : x ∈ mrg A B ↔ x ∈ A ∨ x ∈ B := mrgF_mem _ _ _ _

/-- Strictly ascending. -/
def Asc (A : List Int) : Prop := A.Pairwise (· < ·)

theorem mrgF_asc : ∀ (n : Nat) (A B : List Int), A.length + B.length ≤ n → Asc A → Asc B → Asc (mrgF n A B)
  | n, [], B, _, _, hB => by rw [mrgF_nil]; exact hB
  | n, a :: A, [], _, hA, _ => by rw [mrgF_nil']; exact hA
  | n, a :: A, b :: B, hn, hA, hB => by
    obtain ⟨n, rfl⟩ : ∃ k, n = k + 1 := ⟨n - 1, by simp at hn; omega⟩
    simp only [List.length_cons] at hn
    unfold Asc at hA hB
    have hA' := List.pairwise_cons.1 hA
    have hB' := List.pairwise_cons.1 hB
    unfold mrgF
    by_cases hab : a < b
    · rw [if_pos hab]
      refine List.pairwise_cons.2 ⟨fun x hx => ?_, mrgF_asc n A (b :: B) (by simp; omega) hA'.2 hB⟩
      rcases (mrgF_mem x n A (b :: B)).1 hx with h | h
      · exact hA'.1 x h
      · rcases List.mem_cons.1 h with h | h
        · omega
        · have := hB'.1 x h; omega
    · rw [if_neg hab]
      by_cases hba : b < a
      · rw [if_pos hba]
        refine List.pairwise_cons.2 ⟨fun x hx => ?_, mrgF_asc n (a :: A) B (by simp; omega) hA hB'.2⟩
        rcases (mrgF_mem x n (a :: A) B).1 hx with h | h
        · rcases List.mem_cons.1 h with h | h
          · omega
          · have := hA'.1 x h; omega
        · exact hB'.1 x h
      · rw [if_neg hba]
        refine List.pairwise_cons.2 ⟨fun x hx => ?_, mrgF_asc n A B (by omega) hA'.2 hB'.2⟩
        rcases (mrgF_mem x n A B).1 hx with h | h
        · exact hA'.1 x h
        · have := hB'.1 x h; omega
theorem mrg_asc {A B : List Int} (hA : Asc A) (hB : Asc B) : Asc (mrg A B) := mrgF_asc _ A B (Nat.le_refl _) hA hB

/-- Two ascending lists of the same members are one. -/
theorem asc_ext : ∀ {A B : List Int}, Asc A → Asc B → (∀ x, x ∈ A ↔ x ∈ B) → A = B
  | [], [], _, _, _ => rfl
  | [], b :: B, _, _, h => absurd ((h b).2 (by simp)) (by simp)
  | a :: A, [], _, _, h => absurd ((h a).1 (by simp)) (by simp)
  | a :: A, b :: B, hA, hB, h => by
    unfold Asc at hA hB
    have hA' := List.pairwise_cons.1 hA
    have hB' := List.pairwise_cons.1 hB
    have e : a = b := by
      rcases List.mem_cons.1 ((h a).1 (by simp)) with h1 | h1
      · exact h1
      · rcases List.mem_cons.1 ((h b).2 (by simp)) with h2 | h2
        · exact h2.symm
        · have := hB'.1 a h1
          have := hA'.1 b h2
          omega
    subst e
    have : A = B := asc_ext hA'.2 hB'.2 (fun x => by
      constructor
      · intro hx
        rcases List.mem_cons.1 ((h x).1 (List.mem_cons_of_mem _ hx)) with h1 | h1
        · have := hA'.1 x hx; omega
        · exact h1
      · intro hx
        rcases List.mem_cons.1 ((h x).2 (List.mem_cons_of_mem _ hx)) with h1 | h1
        · have := hB'.1 x hx; omega
        · exact h1)
    rw [this]

theorem pairwise_get {α : Type} {R : α → α → Prop} {l : List α} (h : l.Pairwise R) {i j : Nat} {x y : α} (hij : i < j) (hi : l[i]? = some x) (hj : l[j]? = some y) : R x y := by
  obtain ⟨h1, rfl⟩ := List.getElem?_eq_some_iff.1 hi
  obtain ⟨h2, rfl⟩ := List.getElem?_eq_some_iff.1 hj
  exact List.pairwise_iff_getElem.1 h i j h1 h2 hij

theorem flatMap_get {α β : Type} (f : α → List β) (c : Nat) (hf : ∀ x, (f x).length = c) : ∀ (l : List α) (k j : Nat) (x : α), l[k]? = some x → j < c → (l.flatMap f)[k * c + j]? = (f x)[j]?
  | [], k, j, x, h, _ => by simp at h
  | y :: l, 0, j, x, h, hj => by
    simp at h; subst h
    rw [List.flatMap_cons, List.getElem?_append_left (by rw [hf]; omega)]; simp
  | y :: l, k + 1, j, x, h, hj => by
    rw [List.flatMap_cons, List.getElem?_append_right (by rw [hf, Nat.add_mul]; omega), hf]
    rw [show (k + 1) * c + j - c = k * c + j from by rw [Nat.add_mul]; omega]
    exact flatMap_get f c hf l k j x (by simpa using h) hj

theorem flatMap_length {α β : Type} (f : α → List β) (c : Nat) (hf : ∀ x, (f x).length = c) : ∀ (l : List α), (l.flatMap f).length = l.length * c
  | [] => by simp
  | y :: l => by rw [List.flatMap_cons, List.length_append, hf, flatMap_length f c hf l, List.length_cons, Nat.add_mul]; omega

/-! ### what a holding answers -/
def seg (K : List Int) (l h : Int) : List Int := (K.drop l.toNat).take (h.toNat - l.toNat)
def chainL (K : List Int) (A : List (Int × Int)) (o : Int) : List Int := match A[o.toNat]? with
  | some x => seg K x.1 x.2
  | none => []
/-- The chain by which the atom at place p is held. -/
def atL (O K : List Int) (A : List (Int × Int)) (p : Nat) : Option (List Int) :=
  match O[p]? with
  | none => none
  | some o => if o = -1 then some [] else if o < 0 then none else some (chainL K A o)

/-- The chain by which a name is held: an atom's, or none for one of the others. -/
def lookL (L : List ByteArray) (O K : List Int) (A : List (Int × Int)) (T : List ByteArray) (s : ByteArray) : Option (List Int) :=
  match pos L s with
  | some p => atL O K A p
  | none => if (pos T s).isSome then some [] else none

theorem heldL_get {O : List Int} {p : Nat} {o : Int} (h : O[p]? = some o) (ho : -2 ≤ o) : ((p : Int), o) ∈ heldL O := by
  unfold heldL
  refine List.mem_map.2 ⟨(o, p), List.mem_filter.2 ⟨?_, by simpa using ho⟩, rfl⟩
  exact List.mem_zipIdx_iff_getElem?.2 (by simpa using h)

theorem heldL_mem {O : List Int} {q o : Int} (h : (q, o) ∈ heldL O) : ∃ p : Nat, q = p ∧ O[p]? = some o ∧ -2 ≤ o := by
  unfold heldL at h
  obtain ⟨⟨o', p⟩, hm, he⟩ := List.mem_map.1 h
  obtain ⟨h1, h2⟩ := List.mem_filter.1 hm
  simp only [Prod.mk.injEq] at he
  obtain ⟨rfl, rfl⟩ := he
  exact ⟨p, rfl, by simpa using List.mem_zipIdx_iff_getElem?.1 h1, by simpa using h2⟩

/-- The positions held are ascending. -/
theorem heldL_asc (O : List Int) : (heldL O).Pairwise (fun x y => x.1 < y.1) := by
  unfold heldL
  refine List.pairwise_map.2 (List.Pairwise.filter _ ?_)
  suffices h : ∀ (O : List Int) (i : Nat), (O.zipIdx i).Pairwise (fun x y => (x.2 : Int) < (y.2 : Int)) from h O 0
  intro O
  induction O with
  | nil => intro i; simp
  | cons o O ih =>
    intro i
    rw [List.zipIdx_cons]
    refine List.pairwise_cons.2 ⟨fun x hx => ?_, ih (i + 1)⟩
    have := List.le_snd_of_mem_zipIdx hx
    omega

end Go.Proofs.Qxb6608735a
