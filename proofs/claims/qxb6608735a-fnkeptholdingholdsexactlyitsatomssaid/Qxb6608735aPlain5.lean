/-
  Plain: what a holding answers to one name.
-/
import Derived.Test.Qxb6608735aTop4
namespace Go.Proofs.Qxb6608735a
open Go.RowKit
set_option linter.unusedVariables false

theorem pos_at {L : List ByteArray} {s : ByteArray} {k : Nat} (hn : L.Nodup) (hk : L[k]? = some s) : pos L s = some k := by
  obtain ⟨p, hp⟩ := pos_of_mem (List.mem_of_getElem? hk)
  have hq := pos_some hp
  rw [hp]
  congr 1
  rcases Nat.lt_trichotomy p k with h | h | h
  · exact absurd rfl (pairwise_get hn h hq hk)
  · exact h
  · exact absurd rfl (pairwise_get hn h hk hq)

theorem accL_one {α : Type} (f : α → Option (List Int)) (s : α) : accL f [s] = f s := by
  show stepC (some []) (f s) = f s
  cases f s with
  | none => rfl
  | some m => show some (mrg [] m) = some m; unfold mrg; rw [mrgF_nil]

theorem one_at {L : List ByteArray} {O K lo hi : List Int} {T D : List ByteArray} (hf : Fine L O K lo hi T D) {k : Nat} {s : ByteArray} (hk : L[k]? = some s) : accL (lookL L O K (lo.zip hi) T) [s] = atL O K (lo.zip hi) k := by
  rw [accL_one]; unfold lookL; rw [pos_at hf.nodup hk]

theorem one_other {L : List ByteArray} {O K lo hi : List Int} {T D : List ByteArray} (hf : Fine L O K lo hi T D) {k : Nat} {s : ByteArray} (hk : T[k]? = some s) : accL (lookL L O K (lo.zip hi) T) [s] = some [] := by
  have hm := List.mem_of_getElem? hk
  rw [accL_one]; unfold lookL; rw [pos_none.2 (hf.other s hm)]
  simp only
  rw [pos_isSome hm]; rfl

theorem posL_other {L : List ByteArray} {s : ByteArray} (h : s ∉ L) : posL L [s] = [] := by
  unfold posL; simp [pos_none.2 h]
theorem othL_other {L : List ByteArray} {s : ByteArray} (h : s ∉ L) : othL L [s] = [s] := by
  unfold othL; simp [pos_none.2 h]

theorem at_none {O K : List Int} {A : List (Int × Int)} {k : Nat} (h : O.length ≤ k) : atL O K A k = none := by
  unfold atL; rw [List.getElem?_eq_none h]
theorem at_low {O K : List Int} {A : List (Int × Int)} {k : Nat} {o : Int} (h : O[k]? = some o) (ho : o < -1) : atL O K A k = none := by
  unfold atL; rw [h]; simp only; rw [if_neg (by omega), if_pos (by omega)]
theorem at_free {O K : List Int} {A : List (Int × Int)} {k : Nat} (h : O[k]? = some (-1)) : atL O K A k = some [] := by
  unfold atL; rw [h]; simp
theorem at_held {O K lo hi : List Int} {k p : Nat} {l h : Int} (ho : O[k]? = some (p : Int)) (hl : lo[p]? = some l) (hh : hi[p]? = some h) : atL O K (lo.zip hi) k = some (seg K l h) := by
  unfold atL; rw [ho]; simp only; rw [if_neg (by omega), if_neg (by omega)]
  unfold chainL
  have hz : (lo.zip hi)[p]? = some (l, h) := List.getElem?_zip_eq_some.2 ⟨hl, hh⟩
  rw [Int.toNat_natCast, hz]

theorem seg_nil (K : List Int) (l : Int) : seg K l l = [] := by unfold seg; simp
theorem seg_snoc {K : List Int} {l t : Nat} {z : Int} (hl : l ≤ t) (hz : K[t]? = some z) : seg K (l : Int) ((t + 1 : Nat) : Int) = seg K (l : Int) (t : Int) ++ [z] := by
  unfold seg
  rw [Int.toNat_natCast, Int.toNat_natCast, Int.toNat_natCast, show t + 1 - l = (t - l) + 1 by omega]
  refine take_snoc ?_
  rw [List.getElem?_drop, show l + (t - l) = t by omega]; exact hz
theorem seg_len {K : List Int} {l t : Nat} (hl : l ≤ t) (ht : t ≤ K.length) : (seg K (l : Int) (t : Int)).length = t - l := by
  unfold seg
  rw [Int.toNat_natCast, Int.toNat_natCast, List.length_take, List.length_drop]; omega

theorem Strs.none (w : World) : Strs w (.slice none 0 0) [] := ⟨_, _, rfl, Nat.le_refl _, rfl, fun h => absurd h (by simp)⟩
theorem I64s.none (w : World) : I64s w (.slice none 0 0) [] := ⟨_, _, rfl, Nat.le_refl _, rfl, fun h => absurd h (by simp)⟩

end Go.Proofs.Qxb6608735a
