/-
  A row that the call itself lays: what it holds, how a store turns it; 'make' at each element type of this program.
-/
import Derived.Test.Qxb6608735aBase
import Derived.Deep.AppendLies
namespace Go.Proofs.Qxb6608735a
open Go.RowKit
set_option linter.unusedVariables false

/-- Block g is a row of the cells cs (of element type e), none frozen. -/
def Row (w : World) (g : Nat) (e : TypeId) (cs : List Value) : Prop := w.heap[g]? = some (.cells cs.toArray e (0, 0))

section
variable {w w' : World} {g : Nat} {e : TypeId} {cs : List Value}

theorem Row.lt (h : Row w g e cs) : g < w.heap.size := by
  unfold Row at h
  rcases Nat.lt_or_ge g w.heap.size with h' | h'
  · exact h'
  · rw [Array.getElem?_eq_none h'] at h; cases h

theorem Row.cell (h : Row w g e cs) (j : Nat) : w.cell? ⟨g, j, none⟩ = cs[j]? := by
  rw [cell_of_row w g j cs.toArray e (0, 0) h]; simp

theorem Row.frozen (h : Row w g e cs) (j : Nat) : w.frozen? ⟨g, j, none⟩ = false := frozen_of_row w g j _ e h

theorem Row.set (h : Row w g e cs) (j : Nat) (u : Value) : Row (w.setCell ⟨g, j, none⟩ u) g e (cs.set j u) := by
  have := heap_setCell_same w g j cs.toArray e u h
  unfold Row
  rw [this]; simp

theorem Row.other (h : Row w g e cs) {a : Addr} (ha : g ≠ a.block) (u : Value) : Row (w.setCell a u) g e cs := by
  unfold Row
  rw [heap_setCell_other w a g u ha]; exact h

theorem Row.alloc (h : Row w g e cs) (o : Obj) : Row (w.alloc o) g e cs := by
  unfold Row
  rw [Below.heap_alloc w o g h.lt]; exact h

theorem Row.drewN (h : Row w g e cs) (q : Nat) : Row (w.drewN q) g e cs := h

theorem Row.below (h : Row w g e cs) {B : Nat} (hB : g < B) (hb : Below B w w') : Row w' g e cs := by
  unfold Row
  rw [hb.block g hB]; exact h

theorem Row.made (w : World) (c : Array Value) (e : TypeId) : Row (w.alloc (.cells c e)) w.heap.size e c.toList := by
  unfold Row
  rw [Go.heap_alloc_new]

theorem Row.sl (h : Row w g e cs) {size n : Nat} (hl : cs.length = n * size) : Sl w (.slice (some ⟨g, 0, none⟩) n n) size n cs :=
  ⟨_, _, rfl, Nat.le_refl _, hl, fun _ => ⟨g, 0, rfl, h.lt, fun j _ => by rw [Nat.zero_add]; exact h.cell j⟩⟩

end

theorem ownsRow_sl {w : World} {base : Nat} {e : TypeId} {size : Nat} {v : Value} {n : Nat} {xs : List Value} (h : w.ownsRow base e size v n xs) : Sl w v size n xs := by
  obtain ⟨hl, h⟩ := h
  rcases h with ⟨rfl, rfl⟩ | ⟨g, cap, cur, rfl, hb, hg, hn, hm, hs, ht⟩
  · exact ⟨_, _, rfl, Nat.le_refl _, hl, fun h => absurd h (by omega)⟩
  · refine ⟨_, _, rfl, hn, hl, fun _ => ⟨g, 0, rfl, ?_, fun j hj => ?_⟩⟩
    · rcases Nat.lt_or_ge g w.heap.size with h' | h'
      · exact h'
      · rw [Array.getElem?_eq_none h'] at hg; cases hg
    · rw [Nat.zero_add, cell_of_row w g j cur e (0, 0) hg, ← ht, List.getElem?_take, if_pos hj]; simp

/-- What is owned stays owned while another row is written. -/
theorem ownsRow_grown {w w' : World} {base : Nat} {e : TypeId} {size : Nat} {v : Value} {n : Nat} {xs : List Value} {row : Option Nat} (h : w.ownsRow base e size v n xs) (hg : w.grownBy w' row)
    (hne : ∀ g, v.ownBlock = some g → row ≠ some g) : w'.ownsRow base e size v n xs := by
  obtain ⟨hl, h⟩ := h
  refine ⟨hl, ?_⟩
  rcases h with h | ⟨g, cap, cur, rfl, hb, hh, r⟩
  · exact .inl h
  · refine .inr ⟨g, cap, cur, rfl, hb, ?_, r⟩
    have hlt : g < w.heap.size := by
      rcases Nat.lt_or_ge g w.heap.size with h' | h'
      · exact h'
      · rw [Array.getElem?_eq_none h'] at hh; cases hh
    rw [hg.block g hlt (fun e => hne g rfl e.symm)]; exact hh

theorem ownsRow_lt {w : World} {base : Nat} {e : TypeId} {size : Nat} {v : Value} {n : Nat} {xs : List Value} (h : w.ownsRow base e size v n xs) : ∀ g, v.ownBlock = some g → base ≤ g ∧ g < w.heap.size := by
  intro g hg
  rcases h.2 with ⟨rfl, _⟩ | ⟨g', cap, cur, rfl, hb, hh, r⟩
  · cases hg
  · cases hg
    refine ⟨hb, ?_⟩
    rcases Nat.lt_or_ge g' w.heap.size with h' | h'
    · exact h'
    · rw [Array.getElem?_eq_none h'] at hh; cases hh

/-! ### 'make' -/
theorem make_run (t e size bytes : Nat) (z : Value) (hu : Try.prog.underlying t = some (.slice e)) (hi : (Try.prog.info? e).map (fun i => (i.zero, i.size, i.bytes)) = some (some z, size, bytes)) (hb : bytes ≤ 32)
    (n : Nat) (hn : n ≤ 1099511627776) (w : World) :
    (Instr.makeSlice t (.int .i64 (n : Int)) (.int .i64 (n : Int))).run Try.prog w = .ok (.slice (some ⟨w.heap.size, 0, none⟩) n n) (w.alloc (.cells (madeCells z.cells (n * size)) e)) := by
  obtain ⟨i, hi, h1, h2, h3⟩ := info_parts hi
  have := run_make (P := Try.prog) w t e i z hu hi h1 .i64 .i64 n n (by omega) (Int.le_refl _) (by
    rw [h3]
    have : (bytes : Int) * (n : Int) ≤ 32 * 1099511627776 := Int.mul_le_mul (by omega) (by omega) (by omega) (by omega)
    omega) (by omega)
  rw [this, h2]
  simp

theorem Try.info9 : (Try.prog.info? 9).map (fun i => (i.zero, i.size, i.bytes)) = some (some (.string ByteArray.empty), 1, 16) := by kernel_rfl
theorem Try.info2 : (Try.prog.info? 2).map (fun i => (i.zero, i.size, i.bytes)) = some (some (.int .i64 0), 1, 8) := by kernel_rfl
theorem Try.info3 : (Try.prog.info? 3).map (fun i => (i.zero, i.size, i.bytes)) = some (some (.int .i64 0), 1, 8) := by kernel_rfl
theorem Try.info21 : (Try.prog.info? 21).map (fun i => (i.zero, i.size, i.bytes)) = some (some (.int .i32 0), 1, 4) := by kernel_rfl
theorem Try.info4 : (Try.prog.info? 4).map (fun i => (i.zero, i.size, i.bytes)) = some (some (.bool false), 1, 1) := by kernel_rfl
theorem Try.info91 : (Try.prog.info? 91).map (fun i => (i.zero, i.size, i.bytes)) = some (some (.agg #[.string ByteArray.empty, .string ByteArray.empty]), 2, 32) := by kernel_rfl
theorem Try.info93 : (Try.prog.info? 93).map (fun i => (i.zero, i.size, i.bytes)) = some (some (.agg #[.int .i32 0, .int .i32 0]), 2, 8) := by kernel_rfl
theorem Try.info96 : (Try.prog.info? 96).map (fun i => (i.zero, i.size, i.bytes)) = some (some (.agg #[.int .i64 0, .int .i32 0, .int .i32 0]), 3, 16) := by kernel_rfl

theorem made_len (z : Array Value) (n : Nat) : (madeCells z n).toList.length = n := by simp [size_madeCells]

end Go.Proofs.Qxb6608735a
