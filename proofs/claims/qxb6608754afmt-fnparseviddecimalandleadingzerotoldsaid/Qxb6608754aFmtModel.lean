import Derived.Test.Qxb6608754aFmtPlain
namespace Go.Proofs.Qxb6608754aFmt
open Go.RowKit
set_option linter.unusedVariables false

def ModRes (r : Option Nat) (e : Ending) : Prop :=
  match r with
  | some v => e = .returned (.tuple #[.int .u16 v, .bool true])
  | none => e = .returned (.tuple #[.int .u16 0, .bool false])

set_option maxHeartbeats 1000000 in
theorem zzparse_any (F : Stop.Interp) (s : ByteArray) (hs : s.size ≤ 1099511627776) (w : World) (hF : F.answers w.tape) (hS : Sent w) :
    Calls Tryf.prog 6 #[.string s] w fun e w' => VidRes (vid s.data.toList) e ∧ Below w.heap.size w w' := by
  have H := hide (parseVID_any F s hs w hF hS)
  go_enter Tryf.func6, Tryf.ntmps6
  go_wp2_with fail
  refine H.out.mono ?_
  rintro e w1 ⟨hr, hb⟩
  have HB := hide hb
  clear hb H
  cases hv : vid s.data.toList with
  | none =>
    rw [hv] at hr
    obtain ⟨t, p, rfl⟩ := hr
    go_wp2
    go_ret2
    exact ⟨by rw [hv]; exact ⟨t, p, rfl⟩, HB.out⟩
  | some v =>
    rw [hv] at hr
    cases hr
    go_wp2
    go_ret2
    exact ⟨by rw [hv]; rfl, HB.out⟩

end Go.Proofs.Qxb6608754aFmt
