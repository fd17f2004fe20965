import Derived.Test.Qxb6608735aTop3
namespace Go.Proofs.Qxb6608735a
open Go.RowKit
set_option linter.unusedVariables false

/-- Block kb is a kept holding whose second cell names the holding's box. -/
def KeptAt (w : World) (kb hb : Nat) : Prop := w.cell? ⟨kb, 1, none⟩ = some (.pointer (some ⟨hb, 0, none⟩))

theorem KeptAt.below {w w' : World} {kb hb : Nat} (h : KeptAt w kb hb) (g : Below w.heap.size w w') : KeptAt w' kb hb :=
  (g.cell (p := ⟨kb, 1, none⟩) (cell_lt h)).trans h

theorem newKept_at (hb : Nat) (w : World) :
    Calls Try.prog 40 #[.agg #[.pointer (some ⟨hb, 0, none⟩)]] w fun e w' => ∃ kb, e = .returned (.pointer (some ⟨kb, 0, none⟩)) ∧ KeptAt w' kb hb ∧ Below w.heap.size w w' :=
  (newKept_any hb w).mono fun e w' ⟨kb, h1, h2, _, h3⟩ => ⟨kb, h1, h2, h3⟩

end Go.Proofs.Qxb6608735a
