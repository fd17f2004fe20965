import Derived.Test.Qxb6608735aPlain3
import Derived.Test.Qxb6608735aW12
import Derived.Test.Qxb6608735aW14
namespace Go.Proofs.Qxb6608735a
set_option linter.unusedVariables false

theorem snoc_induct {α : Type} {p : List α → Prop} (h0 : p []) (h1 : ∀ l x, p l → p (l ++ [x])) (l : List α) : p l := by
  suffices h : ∀ n (l : List α), l.length = n → p l from h l.length l rfl
  intro n
  induction n with
  | zero => intro l hl; rw [List.eq_nil_of_length_eq_zero hl]; exact h0
  | succ n ih =>
    intro l hl
    have hne : l ≠ [] := by intro e; subst e; simp at hl
    rw [← List.dropLast_concat_getLast hne]
    exact h1 _ _ (ih _ (by simp [hl]))

theorem posL_snoc (L E : List ByteArray) (s : ByteArray) : posL L (E ++ [s]) = posL L E ++ (match pos L s with | some p => [p] | none => []) := by
  unfold posL
  rw [List.filterMap_append]
  cases hp : pos L s <;> simp [hp]
theorem othL_snoc (L E : List ByteArray) (s : ByteArray) : othL L (E ++ [s]) = othL L E ++ (match pos L s with | some p => [] | none => [s]) := by
  unfold othL
  rw [List.filter_append]
  cases hp : pos L s <;> simp [hp]

/-- By places, or by names: one answer. -/
theorem cond_eq (L : List ByteArray) (O K : List Int) (A : List (Int × Int)) (T : List ByteArray) (E : List ByteArray) :
    condL O K A T (posL L E) (othL L E) = accL (lookL L O K A T) E := by
  refine snoc_induct (p := fun E => condL O K A T (posL L E) (othL L E) = accL (lookL L O K A T) E) ?_ ?_ E
  · simp [posL, othL, condL, accL]
  · intro E s ih
    rw [accL_snoc, ← ih, posL_snoc, othL_snoc]
    cases hp : pos L s with
    | some p =>
      have hlk : lookL L O K A T s = atL O K A p := by unfold lookL; rw [hp]
      rw [hlk]
      simp only [List.append_nil]
      unfold condL
      rw [accL_snoc]
      cases h1 : accL (atL O K A) (posL L E) with
      | none => simp [stepC]
      | some l =>
        by_cases hall : ∀ s ∈ othL L E, (pos T s).isSome = true
        · cases h2 : atL O K A p <;> simp only [stepC, if_pos hall]
        · cases h2 : atL O K A p <;> simp only [stepC, if_neg hall]
    | none =>
      have hlk : lookL L O K A T s = if (pos T s).isSome then some [] else none := by unfold lookL; rw [hp]
      rw [hlk]
      simp only [List.append_nil]
      unfold condL
      cases h1 : accL (atL O K A) (posL L E) with
      | none => simp [stepC]
      | some l =>
        by_cases hall : ∀ s ∈ othL L E, (pos T s).isSome = true
        · by_cases hs : (pos T s).isSome = true
          · have h3 : ∀ x ∈ othL L E ++ [s], (pos T x).isSome = true := by
              intro x hx
              rcases List.mem_append.1 hx with h | h
              · exact hall x h
              · rw [List.mem_singleton.1 h]; exact hs
            simp only [if_pos hall, if_pos h3, if_pos hs, stepC, mrg_nil']
          · have h3 : ¬ ∀ x ∈ othL L E ++ [s], (pos T x).isSome = true := fun h => hs (h s (by simp))
            simp only [if_pos hall, if_neg h3, if_neg hs, stepC]
        · have h3 : ¬ ∀ x ∈ othL L E ++ [s], (pos T x).isSome = true := fun h => hall fun x hx => h x (List.mem_append_left _ hx)
          simp only [if_neg hall, if_neg h3, stepC]

theorem adj_lt {K : List Int} {a c : Nat} (h : Adj K a c) : ∀ (d i : Nat) (x y : Int), a ≤ i → i + d + 1 < c → K[i]? = some x → K[i + d + 1]? = some y → x < y
  | 0, i, x, y, h1, h2, g1, g2 => h i x y h1 h2 g1 g2
  | d + 1, i, x, y, h1, h2, g1, g2 => by
    have hl := (List.getElem?_eq_some_iff.1 g2).1
    obtain ⟨z, hz⟩ := get_of_lt (l := K) (k := i + d + 1) rfl (by omega)
    have q1 := adj_lt h d i x z h1 (by omega) g1 hz
    have q2 := h (i + d + 1) z y (by omega) (by omega) hz (by rw [show i + d + 1 + 1 = i + (d + 1) + 1 from by omega]; exact g2)
    omega

theorem seg_asc {K : List Int} {l h : Int} (ha : Adj K l.toNat h.toNat) : Asc (seg K l h) := by
  unfold Asc
  rw [List.pairwise_iff_getElem]
  intro i j hi hj hij
  have gi : (seg K l h)[i]? = some ((seg K l h)[i]) := List.getElem?_eq_getElem hi
  have gj : (seg K l h)[j]? = some ((seg K l h)[j]) := List.getElem?_eq_getElem hj
  generalize (seg K l h)[i] = x at gi
  generalize (seg K l h)[j] = y at gj
  unfold seg at gi gj
  rw [List.getElem?_take] at gi gj
  split at gi
  · split at gj
    · rw [List.getElem?_drop] at gi gj
      exact adj_lt ha (j - i - 1) (l.toNat + i) x y (by omega) (by omega) gi (by rw [show l.toNat + i + (j - i - 1) + 1 = l.toNat + j from by omega]; exact gj)
    · cases gj
  · cases gi

theorem lookL_asc {L : List ByteArray} {O K lo hi : List Int} {T D : List ByteArray} (hf : Fine L O K lo hi T D) (s : ByteArray) (l : List Int) (h : lookL L O K (lo.zip hi) T s = some l) : Asc l := by
  unfold lookL at h
  split at h
  · unfold atL at h
    split at h
    · cases h
    · split at h
      · cases h; exact List.Pairwise.nil
      · split at h
        · cases h
        · cases h
          unfold chainL
          split
          · rename_i x hx
            obtain ⟨g1, g2⟩ := List.getElem?_zip_eq_some.1 hx
            exact seg_asc (hf.chain _ _ _ g1 g2).2.2.2
          · exact List.Pairwise.nil
  · split at h
    · cases h; exact List.Pairwise.nil
    · cases h

theorem accL_asc {α : Type} (f : α → Option (List Int)) (hf : ∀ s l, f s = some l → Asc l) (E : List α) : ∀ l, accL f E = some l → Asc l := by
  refine snoc_induct (p := fun E => ∀ l, accL f E = some l → Asc l) ?_ ?_ E
  · intro l h; simp [accL] at h; subst h; exact List.Pairwise.nil
  · intro E s ih l h
    rw [accL_snoc] at h
    cases h1 : accL f E with
    | none => rw [h1] at h; simp [stepC] at h
    | some l1 =>
      cases h2 : f s with
      | none => rw [h1, h2] at h; simp [stepC] at h
      | some l2 =>
        rw [h1, h2] at h
        simp [stepC] at h
        subst h
        exact mrg_asc (ih l1 h1) (hf s l2 h2)

theorem accL_mem {α : Type} (f : α → Option (List Int)) (x : Int) (E : List α) : ∀ l, accL f E = some l → (x ∈ l ↔ ∃ s ∈ E, ∃ m, f s = some m ∧ x ∈ m) := by
  refine snoc_induct (p := fun E => ∀ l, accL f E = some l → (x ∈ l ↔ ∃ s ∈ E, ∃ m, f s = some m ∧ x ∈ m)) ?_ ?_ E
  · intro l h; simp [accL] at h; subst h; simp
  · intro E s ih l h
    rw [accL_snoc] at h
    cases h1 : accL f E with
    | none => rw [h1] at h; simp [stepC] at h
    | some l1 =>
      cases h2 : f s with
      | none => rw [h1, h2] at h; simp [stepC] at h
      | some l2 =>
        rw [h1, h2] at h
        simp [stepC] at h
        subst h
        rw [mrg_mem, ih l1 h1]
        constructor
        · rintro (⟨t, ht, m, hm, hx⟩ | hx)
          · exact ⟨t, List.mem_append_left _ ht, m, hm, hx⟩
          · exact ⟨s, List.mem_append_right _ (by simp), l2, h2, hx⟩
        · rintro ⟨t, ht, m, hm, hx⟩
          rcases List.mem_append.1 ht with ht | ht
          · exact .inl ⟨t, ht, m, hm, hx⟩
          · rw [List.mem_singleton.1 ht, h2] at hm
            cases hm
            exact .inr hx

theorem accL_short {L : List ByteArray} {O K : List Int} {A : List (Int × Int)} {T E : List ByteArray} (mK : K.length ≤ 4096) (mE : E.length ≤ 8192) : ((accL (lookL L O K A T) E).getD []).length ≤ 1099511627776 := by
  cases h : accL (lookL L O K A T) E with
  | none => simp
  | some l =>
    have := accL_length (lookL L O K A T) K.length (fun s l hl => lookL_length s l hl) E E.length l (Nat.le_refl _) (by rw [List.take_of_length_le (Nat.le_refl _)]; exact h)
    have h2 : E.length * K.length ≤ 8192 * 4096 := Nat.mul_le_mul mE mK
    simp only [Option.getD_some]
    omega

/-- One list cut in two: whether each answers, and what. -/
theorem cut_some {α : Type} (f : α → Option (List Int)) (E : List α) (k : Nat) : (accL f E).isSome = ((accL f (E.take k)).isSome && (accL f (E.drop k)).isSome) := by
  rw [Bool.eq_iff_iff, Bool.and_eq_true, accL_some_iff, accL_some_iff, accL_some_iff]
  constructor
  · intro h
    exact ⟨fun s hs => h s (List.mem_of_mem_take hs), fun s hs => h s (List.mem_of_mem_drop hs)⟩
  · rintro ⟨h1, h2⟩ s hs
    rw [← List.take_append_drop k E] at hs
    rcases List.mem_append.1 hs with h | h
    · exact h1 s h
    · exact h2 s h

theorem cut_union {α : Type} (f : α → Option (List Int)) (hf : ∀ s l, f s = some l → Asc l) (E : List α) (k : Nat) {l l1 l2 : List Int} (h : accL f E = some l) (h1 : accL f (E.take k) = some l1) (h2 : accL f (E.drop k) = some l2) :
    (∀ k y z, l[k]? = some y → l[k + 1]? = some z → y < z) ∧ (∀ x ∈ l1, x ∈ l) ∧ (∀ x ∈ l2, x ∈ l) ∧ ∀ x ∈ l, x ∈ l1 ∨ x ∈ l2 := by
  refine ⟨fun j y z hy hz => pairwise_get (accL_asc f hf E l h) (Nat.lt_succ_self j) hy hz, fun x hx => ?_, fun x hx => ?_, fun x hx => ?_⟩
  · obtain ⟨s, hs, m, hm, hxm⟩ := (accL_mem f x _ l1 h1).1 hx
    exact (accL_mem f x E l h).2 ⟨s, List.mem_of_mem_take hs, m, hm, hxm⟩
  · obtain ⟨s, hs, m, hm, hxm⟩ := (accL_mem f x _ l2 h2).1 hx
    exact (accL_mem f x E l h).2 ⟨s, List.mem_of_mem_drop hs, m, hm, hxm⟩
  · obtain ⟨s, hs, m, hm, hxm⟩ := (accL_mem f x E l h).1 hx
    rw [← List.take_append_drop k E] at hs
    rcases List.mem_append.1 hs with g | g
    · exact .inl ((accL_mem f x _ l1 h1).2 ⟨s, g, m, hm, hxm⟩)
    · exact .inr ((accL_mem f x _ l2 h2).2 ⟨s, g, m, hm, hxm⟩)

end Go.Proofs.Qxb6608735a
