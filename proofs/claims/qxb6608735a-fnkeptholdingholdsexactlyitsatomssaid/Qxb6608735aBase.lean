/-
  What a slice reads as; how it stays; the plain facts on worlds that all walks of this seat share.
-/
import Derived.Test.Qxb6608735aProg
import Derived.Test.Qxb6608735aPlain
import Derived.WalkKit
import Derived.WalkSpells
import Derived.WalkLawsBesides
import Derived.KernelRfl
import Derived.Deep.QuietTactic
import Derived.BigQuiet
namespace Go.Proofs.Qxb6608735a
open Go.RowKit

theorem ba_beq (a b : ByteArray) : (a == b) = decide (a = b) := by
  have h : (a == b) = true ↔ a = b := by
    obtain ⟨x⟩ := a
    obtain ⟨y⟩ := b
    constructor
    · intro h
      have e : x = y := by simpa using (show (x == y) = true from h)
      rw [e]
    · intro h
      cases h
      show (x == x) = true
      simp
  rw [Bool.eq_iff_iff, h, decide_eq_true_iff]
theorem wrap64_wrap32 (z : Int) : wrap64 (wrap32 z) = wrap32 z := by unfold wrap64 wrap32; omega
theorem ret_bool {a b : Bool} (h : a = b) : Ending.returned (.bool a) = .returned (.bool b) := by rw [h]
theorem ret_int {k : IntKind} {a b : Int} (h : a = b) : Ending.returned (.int k a) = .returned (.int k b) := by rw [h]
theorem hide {p : Prop} (h : p) : Hid p := h

/-- The value v is a slice of n elements, 'size' cells each, which read as xs. -/
def Sl (w : World) (v : Value) (size n : Nat) (xs : List Value) : Prop :=
  ∃ a cap, v = .slice a n cap ∧ n ≤ cap ∧ xs.length = n * size ∧
    (0 < n → ∃ b off, a = some ⟨b, off, none⟩ ∧ b < w.heap.size ∧ ∀ j, j < n * size → w.cell? ⟨b, off + j, none⟩ = xs[j]?)

theorem Sl.below {w w' : World} {v : Value} {size n : Nat} {xs : List Value} (h : Sl w v size n xs) (hb : Below w.heap.size w w') : Sl w' v size n xs := by
  obtain ⟨a, cap, rfl, hc, hl, hx⟩ := h
  refine ⟨a, cap, rfl, hc, hl, fun h0 => ?_⟩
  obtain ⟨b, off, rfl, hlt, hcell⟩ := hx h0
  exact ⟨b, off, rfl, Nat.lt_of_lt_of_le hlt hb.size, fun j hj => by rw [hb.cell (p := ⟨b, off + j, none⟩) hlt]; exact hcell j hj⟩

def I64s (w : World) (v : Value) (zs : List Int) : Prop := Sl w v 1 zs.length (zs.map (Value.int .i64))
def I32s (w : World) (v : Value) (zs : List Int) : Prop := Sl w v 1 zs.length (zs.map (Value.int .i32))
def Strs (w : World) (v : Value) (ss : List ByteArray) : Prop := Sl w v 1 ss.length (ss.map Value.string)
def Bools (w : World) (v : Value) (bs : List Bool) : Prop := Sl w v 1 bs.length (bs.map Value.bool)

theorem I64s.below {w w' : World} {v : Value} {zs : List Int} (h : I64s w v zs) (hb : Below w.heap.size w w') : I64s w' v zs := Sl.below h hb
theorem I32s.below {w w' : World} {v : Value} {zs : List Int} (h : I32s w v zs) (hb : Below w.heap.size w w') : I32s w' v zs := Sl.below h hb
theorem Strs.below {w w' : World} {v : Value} {ss : List ByteArray} (h : Strs w v ss) (hb : Below w.heap.size w w') : Strs w' v ss := Sl.below h hb
theorem Bools.below {w w' : World} {v : Value} {bs : List Bool} (h : Bools w v bs) (hb : Below w.heap.size w w') : Bools w' v bs := Sl.below h hb

theorem Sl.drewN {w : World} {v : Value} {size n : Nat} {xs : List Value} (h : Sl w v size n xs) (q : Nat) : Sl (w.drewN q) v size n xs := h
theorem I64s.drewN {w : World} {v : Value} {zs : List Int} (h : I64s w v zs) (q : Nat) : I64s (w.drewN q) v zs := h
theorem I32s.drewN {w : World} {v : Value} {zs : List Int} (h : I32s w v zs) (q : Nat) : I32s (w.drewN q) v zs := h
theorem Strs.drewN {w : World} {v : Value} {ss : List ByteArray} (h : Strs w v ss) (q : Nat) : Strs (w.drewN q) v ss := h

/-- A slice of one-cell elements, opened. -/
theorem Sl.open1 {α : Type} {w : World} {v : Value} {f : α → Value} {zs : List α} (h : Sl w v 1 zs.length (zs.map f)) :
    ∃ a cap, v = .slice a zs.length cap ∧ zs.length ≤ cap ∧
      ∀ k z, zs[k]? = some z → ∃ b off, a = some ⟨b, off, none⟩ ∧ b < w.heap.size ∧ w.cell? ⟨b, off + k, none⟩ = some (f z) := by
  obtain ⟨a, cap, rfl, hc, hl, hx⟩ := h
  refine ⟨a, cap, rfl, hc, fun k z hk => ?_⟩
  have hlt : k < zs.length := (List.getElem?_eq_some_iff.1 hk).1
  obtain ⟨b, off, rfl, hb, hcell⟩ := hx (by omega)
  exact ⟨b, off, rfl, hb, by rw [hcell k (by omega)]; simp [hk]⟩

/-! ### names: two cells each, the domain empty -/
def nameCells (ss : List ByteArray) : List Value := ss.flatMap fun s => [.string ⟨#[]⟩, .string s]
def Names (w : World) (v : Value) (ss : List ByteArray) : Prop := Sl w v 2 ss.length (nameCells ss)

theorem Names.below {w w' : World} {v : Value} {ss : List ByteArray} (h : Names w v ss) (hb : Below w.heap.size w w') : Names w' v ss := Sl.below h hb
theorem Names.drewN {w : World} {v : Value} {ss : List ByteArray} (h : Names w v ss) (q : Nat) : Names (w.drewN q) v ss := h

theorem nameCells_snoc (ss : List ByteArray) (s : ByteArray) : nameCells (ss ++ [s]) = nameCells ss ++ [.string ⟨#[]⟩, .string s] := by simp [nameCells]

theorem nameCells_get : ∀ (ss : List ByteArray) (k : Nat) (s : ByteArray), ss[k]? = some s → (nameCells ss)[k * 2]? = some (.string ⟨#[]⟩) ∧ (nameCells ss)[k * 2 + 1]? = some (.string s)
  | [], k, s, h => by simp at h
  | x :: ss, 0, s, h => by simp at h; subst h; simp [nameCells]
  | x :: ss, k + 1, s, h => by
    have := nameCells_get ss k s (by simpa using h)
    rw [show (k + 1) * 2 = k * 2 + 1 + 1 from by omega]
    simpa [nameCells] using this

theorem Names.opened {w : World} {v : Value} {ss : List ByteArray} (h : Names w v ss) :
    ∃ a cap, v = .slice a ss.length cap ∧ ss.length ≤ cap ∧
      ∀ k z, ss[k]? = some z → ∃ b off, a = some ⟨b, off, none⟩ ∧ b < w.heap.size ∧ w.cell? ⟨b, off + k * 2, none⟩ = some (.string ⟨#[]⟩) ∧ w.cell? ⟨b, off + k * 2 + 1, none⟩ = some (.string z) := by
  obtain ⟨a, cap, rfl, hc, hl, hx⟩ := h
  refine ⟨a, cap, rfl, hc, fun k z hk => ?_⟩
  have hlt : k < ss.length := (List.getElem?_eq_some_iff.1 hk).1
  obtain ⟨b, off, rfl, hb, hcell⟩ := hx (by omega)
  obtain ⟨g1, g2⟩ := nameCells_get ss k z hk
  exact ⟨b, off, rfl, hb, by rw [hcell (k * 2) (by omega)]; exact g1, by rw [Nat.add_assoc, hcell (k * 2 + 1) (by omega)]; exact g2⟩

end Go.Proofs.Qxb6608735a
