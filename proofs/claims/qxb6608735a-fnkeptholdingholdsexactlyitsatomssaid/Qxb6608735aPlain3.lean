/-
  Plain: what the model in the law's own text computes.
-/
import Derived.Test.Qxb6608735aPlain2
namespace Go.Proofs.Qxb6608735a
set_option linter.unusedVariables false

theorem seg_mem {K : List Int} {l h x : Int} (h0 : 0 ≤ l) (h2 : h ≤ K.length) : x ∈ seg K l h ↔ ∃ t : Nat, l ≤ t ∧ t < h ∧ K[t]? = some x := by
  unfold seg
  constructor
  · intro hx
    obtain ⟨j, hj⟩ := List.getElem?_of_mem hx
    rw [List.getElem?_take] at hj
    split at hj
    · rw [List.getElem?_drop] at hj
      exact ⟨l.toNat + j, by omega, by omega, hj⟩
    · cases hj
  · rintro ⟨t, h3, h4, h5⟩
    refine List.mem_of_getElem? (i := t - l.toNat) ?_
    rw [List.getElem?_take, if_pos (by omega), List.getElem?_drop, show l.toNat + (t - l.toNat) = t from by omega]
    exact h5

/-- The mapping at place j brought some atom of C. -/
def Used (L C : List ByteArray) (O : List Int) (j : Nat) : Prop := ∃ s ∈ C, ∃ p, pos L s = some p ∧ O[p]? = some (j : Int)

theorem used_same {L C : List ByteArray} {O : List Int} {k : Nat} {z : ByteArray} (h : C[k]? = some z) (hn : ∀ p o, pos L z = some p → O[p]? = some o → o < 0) (j : Nat) : Used L (C.take (k + 1)) O j ↔ Used L (C.take k) O j := by
  unfold Used
  rw [take_snoc h]
  constructor
  · rintro ⟨s, hs, p, hp, ho⟩
    rcases List.mem_append.1 hs with hs | hs
    · exact ⟨s, hs, p, hp, ho⟩
    · rw [List.mem_singleton.1 hs] at hp
      have := hn p _ hp ho
      omega
  · rintro ⟨s, hs, r⟩
    exact ⟨s, List.mem_append_left _ hs, r⟩

theorem used_more {L C : List ByteArray} {O : List Int} {k p o : Nat} {z : ByteArray} (h : C[k]? = some z) (hp : pos L z = some p) (ho : O[p]? = some (o : Int)) (j : Nat) : Used L (C.take (k + 1)) O j ↔ j = o ∨ Used L (C.take k) O j := by
  unfold Used
  rw [take_snoc h]
  constructor
  · rintro ⟨s, hs, p', hp', ho'⟩
    rcases List.mem_append.1 hs with hs | hs
    · exact .inr ⟨s, hs, p', hp', ho'⟩
    · rw [List.mem_singleton.1 hs, hp] at hp'
      cases hp'
      rw [ho] at ho'
      cases ho'
      exact .inl rfl
  · rintro (rfl | ⟨s, hs, r⟩)
    · exact ⟨z, List.mem_append_right _ (List.mem_singleton.2 rfl), p, hp, ho⟩
    · exact ⟨s, List.mem_append_left _ hs, r⟩

theorem set_true {us : List Bool} {o : Nat} (ho : o < us.length) (j : Nat) : (us.set o true)[j]? = some true ↔ j = o ∨ us[j]? = some true := by
  rw [List.getElem?_set]
  by_cases h : o = j
  · subst h; simp [ho]
  · simp [h, Ne.symm h]

/-- The link at t lies in the chain of a mapping used, among the first k. -/
def Marked (us : List Bool) (lo hi : List Int) (k t : Nat) : Prop := ∃ j l h, j < k ∧ us[j]? = some true ∧ lo[j]? = some l ∧ hi[j]? = some h ∧ l ≤ (t : Int) ∧ (t : Int) < h

theorem marked_zero (us : List Bool) (lo hi : List Int) (t : Nat) : ¬ Marked us lo hi 0 t := fun ⟨j, l, h, hj, _⟩ => by omega

theorem marked_skip {us : List Bool} {lo hi : List Int} {k : Nat} (h : us[k]? ≠ some true) (t : Nat) : Marked us lo hi (k + 1) t ↔ Marked us lo hi k t := by
  constructor
  · rintro ⟨j, l, h', hj, hu, r⟩
    by_cases hjk : j = k
    · subst hjk; exact absurd hu h
    · exact ⟨j, l, h', by omega, hu, r⟩
  · rintro ⟨j, l, h', hj, r⟩
    exact ⟨j, l, h', by omega, r⟩

theorem marked_more {us : List Bool} {lo hi : List Int} {k : Nat} {l h : Int} (hu : us[k]? = some true) (hl : lo[k]? = some l) (hh : hi[k]? = some h) (t : Nat) : Marked us lo hi (k + 1) t ↔ Marked us lo hi k t ∨ (l ≤ (t : Int) ∧ (t : Int) < h) := by
  constructor
  · rintro ⟨j, l', h', hj, hu', hl', hh', r⟩
    by_cases hjk : j = k
    · subst hjk
      rw [hl] at hl'; rw [hh] at hh'; cases hl'; cases hh'
      exact .inr r
    · exact .inl ⟨j, l', h', by omega, hu', hl', hh', r⟩
  · rintro (⟨j, l', h', hj, r⟩ | r)
    · exact ⟨j, l', h', by omega, r⟩
    · exact ⟨k, l, h, by omega, hu, hl, hh, r⟩

/-- The links marked among the first k. -/
def Took (ms : List Bool) (K : List Int) (k : Nat) (x : Int) : Prop := ∃ t, t < k ∧ ms[t]? = some true ∧ K[t]? = some x

theorem took_zero (ms : List Bool) (K : List Int) (x : Int) : ¬ Took ms K 0 x := fun ⟨t, h, _⟩ => by omega
theorem took_skip {ms : List Bool} {K : List Int} {k : Nat} (h : ms[k]? ≠ some true) (x : Int) : Took ms K (k + 1) x ↔ Took ms K k x := by
  constructor
  · rintro ⟨t, ht, hm, hx⟩
    by_cases htk : t = k
    · subst htk; exact absurd hm h
    · exact ⟨t, by omega, hm, hx⟩
  · rintro ⟨t, ht, r⟩
    exact ⟨t, by omega, r⟩
theorem took_more {ms : List Bool} {K : List Int} {k : Nat} {v : Int} (h : ms[k]? = some true) (hv : K[k]? = some v) (x : Int) : Took ms K (k + 1) x ↔ x = v ∨ Took ms K k x := by
  constructor
  · rintro ⟨t, ht, hm, hx⟩
    by_cases htk : t = k
    · subst htk; rw [hv] at hx; cases hx; exact .inl rfl
    · exact .inr ⟨t, by omega, hm, hx⟩
  · rintro (rfl | ⟨t, ht, r⟩)
    · exact ⟨k, by omega, h, hv⟩
    · exact ⟨t, by omega, r⟩

/-- A key put at its place. -/
def putAt (ks : List Int) (n : Nat) (v : Int) : List Int := ks.take n ++ v :: ks.drop n

theorem putAt_mem (ks : List Int) (n : Nat) (v x : Int) : x ∈ putAt ks n v ↔ x = v ∨ x ∈ ks := by
  unfold putAt
  have : x ∈ ks ↔ x ∈ ks.take n ∨ x ∈ ks.drop n := by
    conv => lhs; rw [← List.take_append_drop n ks]
    exact List.mem_append
  rw [this, List.mem_append, List.mem_cons]
  constructor
  · rintro (h | h | h)
    · exact .inr (.inl h)
    · exact .inl h
    · exact .inr (.inr h)
  · rintro (h | h | h)
    · exact .inr (.inl h)
    · exact .inl h
    · exact .inr (.inr h)

theorem putAt_asc {ks : List Int} {n : Nat} {v : Int} (h : Asc ks) (h1 : ∀ i x, i < n → ks[i]? = some x → x < v) (h2 : ∀ x, ks[n]? = some x → v < x) : Asc (putAt ks n v) := by
  unfold putAt Asc
  unfold Asc at h
  rw [List.pairwise_append]
  refine ⟨h.sublist (List.take_sublist _ _), ?_, ?_⟩
  · refine List.pairwise_cons.2 ⟨fun x hx => ?_, h.sublist (List.drop_sublist _ _)⟩
    obtain ⟨j, hj⟩ := List.getElem?_of_mem hx
    rw [List.getElem?_drop] at hj
    have hn : n < ks.length := by have := (List.getElem?_eq_some_iff.1 hj).1; omega
    obtain ⟨y, hy⟩ := get_of_lt (l := ks) rfl hn
    have hvy := h2 y hy
    by_cases hj0 : j = 0
    · subst hj0
      rw [Nat.add_zero, hy] at hj
      cases hj; exact hvy
    · have := pairwise_get h (show n < n + j by omega) hy hj
      omega
  · intro a ha b hb
    obtain ⟨i, hi⟩ := List.getElem?_of_mem ha
    rw [List.getElem?_take] at hi
    split at hi
    · rename_i hin
      have hav := h1 i a hin hi
      rcases List.mem_cons.1 hb with hb | hb
      · omega
      · obtain ⟨j, hj⟩ := List.getElem?_of_mem hb
        rw [List.getElem?_drop] at hj
        exact pairwise_get h (show i < n + j by omega) hi hj
    · cases hi

/-- The list behind the shift is the key put at its place. -/
theorem putAt_of_shift {ks ys : List Int} {n : Nat} {v : Int} (hl : ys.length = ks.length + 1) (hn : n ≤ ks.length) (h1 : ∀ j, j < n → ys[j]? = ks[j]?) (h2 : ∀ j, n < j → j ≤ ks.length → ys[j]? = ks[j - 1]?) : ys.set n v = putAt ks n v := by
  apply List.ext_getElem?
  intro j
  unfold putAt
  rw [List.getElem?_set]
  by_cases hj : n = j
  · subst hj
    rw [if_pos rfl, if_pos (by omega), List.getElem?_append_right (by simp; omega)]
    simp [Nat.min_eq_left hn]
  · rw [if_neg hj]
    by_cases hjn : j < n
    · rw [h1 j hjn, List.getElem?_append_left (by simp; omega), List.getElem?_take, if_pos hjn]
    · by_cases hjl : j ≤ ks.length
      · rw [h2 j (by omega) hjl, List.getElem?_append_right (by simp; omega)]
        simp only [List.length_take, Nat.min_eq_left hn]
        obtain ⟨i, hi⟩ : ∃ i, j - n = i + 1 := ⟨j - n - 1, by omega⟩
        rw [hi, List.getElem?_cons_succ, List.getElem?_drop]
        congr 1
        omega
      · rw [List.getElem?_eq_none (by omega), List.getElem?_eq_none]
        simp
        omega

/-- What the keys are, in the holding's own words. -/
theorem keys_mem {L : List ByteArray} {O K lo hi : List Int} {T C : List ByteArray} {us ms : List Bool} {x : Int} (hlen : lo.length = hi.length)
    (hch : ∀ (j : Nat) (l h : Int), lo[j]? = some l → hi[j]? = some h → 0 ≤ l ∧ l ≤ h ∧ h ≤ K.length) (how : ∀ o ∈ O, o < lo.length)
    (hu : ∀ j, us[j]? = some true ↔ Used L C O j) (hm : ∀ t, t < K.length → (ms[t]? = some true ↔ Marked us lo hi lo.length t)) :
    Took ms K K.length x ↔ ∃ s ∈ C, ∃ l, lookL L O K (lo.zip hi) T s = some l ∧ x ∈ l := by
  constructor
  · rintro ⟨t, ht, hmt, hx⟩
    obtain ⟨j, l, h, hj, huj, hl, hh, h1, h2⟩ := (hm t ht).1 hmt
    obtain ⟨s, hs, p, hp, ho⟩ := (hu j).1 huj
    have hc := hch j l h hl hh
    refine ⟨s, hs, seg K l h, ?_, (seg_mem hc.1 hc.2.2).2 ⟨t, h1, h2, hx⟩⟩
    unfold lookL
    rw [hp]
    unfold atL
    simp only [ho]
    rw [if_neg (by omega), if_neg (by omega)]
    unfold chainL
    have hz : (lo.zip hi)[j]? = some (l, h) := by rw [List.getElem?_zip_eq_some]; exact ⟨hl, hh⟩
    simp [hz]
  · rintro ⟨s, hs, l, hlk, hx⟩
    unfold lookL at hlk
    split at hlk
    · rename_i p hp
      unfold atL at hlk
      split at hlk
      · cases hlk
      · rename_i o ho
        split at hlk
        · cases hlk; cases hx
        · split at hlk
          · cases hlk
          · cases hlk
            obtain ⟨o, rfl⟩ := Int.eq_ofNat_of_zero_le (show 0 ≤ o by omega)
            have hol := how _ (List.mem_of_getElem? ho)
            obtain ⟨l, hl⟩ := get_of_lt (l := lo) (k := o) rfl (by omega)
            obtain ⟨h, hh⟩ := get_of_lt (l := hi) (k := o) rfl (by omega)
            have hz : (lo.zip hi)[o]? = some (l, h) := by rw [List.getElem?_zip_eq_some]; exact ⟨hl, hh⟩
            unfold chainL at hx
            rw [Int.toNat_natCast, hz] at hx
            have hc := hch o l h hl hh
            obtain ⟨t, h1, h2, h3⟩ := (seg_mem hc.1 hc.2.2).1 hx
            have htl := (List.getElem?_eq_some_iff.1 h3).1
            exact ⟨t, htl, (hm t htl).2 ⟨o, l, h, by omega, (hu o).2 ⟨s, hs, p, hp, ho⟩, hl, hh, h1, h2⟩, h3⟩
    · split at hlk
      · cases hlk; cases hx
      · cases hlk

end Go.Proofs.Qxb6608735a
