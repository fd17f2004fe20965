import Derived.Test.Qxb6608754aFmtErr
import Derived.Test.Qxb6608754aFmtShelf
namespace Go.Proofs.Qxb6608754aFmt
open Go.RowKit Go.Extern.Stop Go.Stop Go.Extern Go.Shelf
set_option linter.unusedVariables false

theorem hide {p : Prop} (h : p) : Hid p := h
theorem Below.then {w0 w w' : World} (h : Below w0.heap.size w0 w) (g : Below w.heap.size w w') : Below w0.heap.size w0 w' := h.trans (g.mono h.size)

/-- What parseVID reads a word as. -/
def vid (l : List UInt8) : Option Nat :=
  match Lib.atoiAll l with
  | .ok v => if 1 ≤ v ∧ v ≤ 4094 then some v.toNat else none
  | _ => none

def VidRes (r : Option Nat) (e : Ending) : Prop :=
  match r with
  | some v => e = .returned (.tuple #[.int .u16 v, .nilIface])
  | none => ∃ t p, e = .returned (.tuple #[.int .u16 0, .iface t p])

/-- The two sentinels hold errors. -/
def Sent (w : World) : Prop := (∃ t p, w.cell? ⟨0, 0, none⟩ = some (.iface t p)) ∧ (∃ t p, w.cell? ⟨1, 0, none⟩ = some (.iface t p))

theorem cell_lt {w : World} {b o : Nat} {v : Value} (h : w.cell? ⟨b, o, none⟩ = some v) : b < w.heap.size := World.block_lt_of_cell? w ⟨b, o, none⟩ h
theorem Sent.below {w w' : World} (h : Sent w) (hb : Below w.heap.size w w') : Sent w' := by
  obtain ⟨⟨t, p, h1⟩, t', p', h2⟩ := h
  exact ⟨⟨t, p, (hb.cell (p := ⟨0, 0, none⟩) (cell_lt h1)).trans h1⟩, t', p', (hb.cell (p := ⟨1, 0, none⟩) (cell_lt h2)).trans h2⟩

theorem bytesWorld_below (w : World) (e : TypeId) (s : ByteArray) : Below w.heap.size w (Lib.bytesWorld w e s) := by
  exact ⟨rfl, rfl, rfl, by rw [Lib.bytesWorld_size]; omega, fun j hj => Lib.bytesWorld_at_old w e s j hj⟩

theorem atoi_ok (s : ByteArray) (hs : s.size ≤ 1099511627776) (v : Int) (h : Lib.atoiAll s.data.toList = .ok v) (w : World) :
    Calls Tryf.prog 10 #[.string s] w fun e w' => e = .returned (.tuple #[.int .i64 v, .nilIface]) ∧ Below w.heap.size w w' :=
  (Any.strconv_Atoi_ok Tryf.laysC172 s (by omega) v h w).mono fun e w' ⟨he, hw⟩ => ⟨he, by
    rcases hw with rfl | ⟨t, rfl⟩
    · exact Below.refl _ _
    · exact bytesWorld_below _ _ _⟩

theorem atoi_bad (s : ByteArray) (hs : s.size ≤ 1099511627776) (h : ∀ v, Lib.atoiAll s.data.toList ≠ .ok v) (w : World) (hS : Sent w) :
    Calls Tryf.prog 10 #[.string s] w fun e w' => ∃ n t p, e = .returned (.tuple #[.int .i64 n, .iface t p]) ∧ Below w.heap.size w w' := by
  obtain ⟨⟨t0, p0, h0⟩, t1, p1, h1⟩ := hS
  cases hx : Lib.atoiAll s.data.toList
  · exact absurd hx (h _)
  · exact (Any.strconv_Atoi_syntax Tryf.laysC172 s (by omega) hx _ w h0 (.inr ⟨_, _, rfl⟩)).mono fun e w' ⟨N, he, _, _, hb⟩ => ⟨_, _, _, he, hb⟩
  · exact (Any.strconv_Atoi_range Tryf.laysC172 s (by omega) hx _ w h1 (.inr ⟨_, _, rfl⟩)).mono fun e w' ⟨N, he, _, _, hb⟩ => ⟨_, _, _, he, hb⟩

set_option maxHeartbeats 1000000 in
/-- Behind a word that is refused: fmt.Errorf. -/
theorem parseVID_any (F : Interp) (s : ByteArray) (hs : s.size ≤ 1099511627776) (w : World) (hF : F.answers w.tape) (hS : Sent w) :
    Calls Tryf.prog 9 #[.string s] w fun e w' => VidRes (vid s.data.toList) e ∧ Below w.heap.size w w' := by
  by_cases hok : ∃ v, Lib.atoiAll s.data.toList = .ok v
  · obtain ⟨v, hv⟩ := hok
    have H := hide (atoi_ok s hs v hv w)
    have hvid : Hid (vid s.data.toList = if 1 ≤ v ∧ v ≤ 4094 then some v.toNat else none) := by show vid s.data.toList = _; unfold vid; rw [hv]
    clear hv
    by_cases hr : 1 ≤ v ∧ v ≤ 4094
    · obtain ⟨n, rfl⟩ := Int.eq_ofNat_of_zero_le (show 0 ≤ v by omega)
      obtain ⟨r1, r2⟩ := hr
      go_enter Tryf.func9, Tryf.ntmps9
      go_wp2_with fail
      refine H.out.mono ?_
      rintro e w1 ⟨rfl, hb1⟩
      have HB := hide hb1
      clear hb1 H
      go_wp2
      go_ret2
      refine ⟨?_, HB.out⟩
      rw [hvid.out, if_pos ⟨r1, r2⟩]
      show Ending.returned _ = Ending.returned _
      simp
    · go_enter Tryf.func9, Tryf.ntmps9
      go_wp2_with fail
      refine H.out.mono ?_
      rintro e w1 ⟨rfl, hb1⟩
      have HB := hide hb1
      clear hb1 H
      have hr' : v < 1 ∨ 4094 < v := by omega
      rcases hr' with hr' | hr'
      all_goals
        go_wp2_with fail
        refine (errorf_any F s _ _ ?_ ?_ ?_ ?_).mono ?_
        · rw [show (w1.alloc (.cells #[.iface 9 (.string s), .iface 3 (.int .i64 1), .iface 3 (.int .i64 4094)] 20)).tape = w.tape from HB.out.tape]; exact hF
        · rw [World.cell?_alloc_at _ _ _ _ rfl]; rfl
        · rw [World.cell?_alloc_at _ _ _ _ rfl]; rfl
        · rw [World.cell?_alloc_at _ _ _ _ rfl]; rfl
        rintro e w2 ⟨t, p, rfl, hb2⟩
        have HB2 := hide (Below.then (HB.out.alloc HB.out.size _) hb2)
        clear hb2
        go_wp2
        go_ret2
        refine ⟨?_, HB2.out⟩
        rw [hvid.out, if_neg hr]
        exact ⟨t, p, rfl⟩
  · have H := hide (atoi_bad s hs (fun v hv => hok ⟨v, hv⟩) w hS)
    have hvid : Hid (vid s.data.toList = none) := by
      show vid s.data.toList = none
      unfold vid
      cases hx : Lib.atoiAll s.data.toList
      · exact absurd ⟨_, hx⟩ hok
      · rfl
      · rfl
    clear hok
    go_enter Tryf.func9, Tryf.ntmps9
    go_wp2_with fail
    refine H.out.mono ?_
    rintro e w1 ⟨n, t0, p0, rfl, hb1⟩
    have HB := hide hb1
    clear hb1 H
    go_wp2_with fail
    refine (errorf_any F s _ _ ?_ ?_ ?_ ?_).mono ?_
    · rw [show (w1.alloc (.cells #[.iface 9 (.string s), .iface 3 (.int .i64 1), .iface 3 (.int .i64 4094)] 20)).tape = w.tape from HB.out.tape]; exact hF
    · rw [World.cell?_alloc_at _ _ _ _ rfl]; rfl
    · rw [World.cell?_alloc_at _ _ _ _ rfl]; rfl
    · rw [World.cell?_alloc_at _ _ _ _ rfl]; rfl
    rintro e w2 ⟨t, p, rfl, hb2⟩
    have HB2 := hide (Below.then (HB.out.alloc HB.out.size _) hb2)
    clear hb2
    go_wp2
    go_ret2
    refine ⟨?_, HB2.out⟩
    rw [hvid.out]
    exact ⟨t, p, rfl⟩

end Go.Proofs.Qxb6608754aFmt
