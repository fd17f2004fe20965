import Derived.Test.Qxb6608735aMaps
namespace Go.Proofs.Qxb6608735a
open Go.RowKit
set_option linter.unusedVariables false

/-! ### the atoms held (two cells each), the mappings applied (three) -/
def heldCells (H : List (Int × Int)) : List Value := H.flatMap fun p => [.int .i32 p.1, .int .i32 p.2]
def Helds (w : World) (v : Value) (H : List (Int × Int)) : Prop := Sl w v 2 H.length (heldCells H)
def appCells (A : List (Int × Int)) : List Value := A.flatMap fun p => [.int .i64 0, .int .i32 p.1, .int .i32 p.2]
def Apps (w : World) (v : Value) (A : List (Int × Int)) : Prop := Sl w v 3 A.length (appCells A)

theorem Helds.below {w w' : World} {v : Value} {H : List (Int × Int)} (h : Helds w v H) (hb : Below w.heap.size w w') : Helds w' v H := Sl.below h hb
theorem Apps.below {w w' : World} {v : Value} {H : List (Int × Int)} (h : Apps w v H) (hb : Below w.heap.size w w') : Apps w' v H := Sl.below h hb

theorem Helds.opened {w : World} {v : Value} {H : List (Int × Int)} (h : Helds w v H) :
    ∃ a cap, v = .slice a H.length cap ∧ H.length ≤ cap ∧
      ∀ k z, H[k]? = some z → ∃ b off, a = some ⟨b, off, none⟩ ∧ b < w.heap.size ∧ w.cell? ⟨b, off + k * 2, none⟩ = some (.int .i32 z.1) ∧ w.cell? ⟨b, off + k * 2 + 1, none⟩ = some (.int .i32 z.2) := by
  obtain ⟨a, cap, rfl, hc, hl, hx⟩ := h
  refine ⟨a, cap, rfl, hc, fun k z hk => ?_⟩
  have hlt : k < H.length := (List.getElem?_eq_some_iff.1 hk).1
  obtain ⟨b, off, rfl, hb, hcell⟩ := hx (by omega)
  have g := flatMap_get (fun p : Int × Int => [Value.int .i32 p.1, Value.int .i32 p.2]) 2 (fun _ => rfl) H k
  exact ⟨b, off, rfl, hb, by rw [hcell (k * 2) (by omega)]; exact g 0 z hk (by omega), by rw [Nat.add_assoc, hcell (k * 2 + 1) (by omega)]; exact g 1 z hk (by omega)⟩

theorem Apps.opened {w : World} {v : Value} {H : List (Int × Int)} (h : Apps w v H) :
    ∃ a cap, v = .slice a H.length cap ∧ H.length ≤ cap ∧
      ∀ k z, H[k]? = some z → ∃ b off, a = some ⟨b, off, none⟩ ∧ b < w.heap.size ∧ w.cell? ⟨b, off + k * 3, none⟩ = some (.int .i64 0) ∧ w.cell? ⟨b, off + k * 3 + 1, none⟩ = some (.int .i32 z.1) ∧ w.cell? ⟨b, off + k * 3 + 2, none⟩ = some (.int .i32 z.2) := by
  obtain ⟨a, cap, rfl, hc, hl, hx⟩ := h
  refine ⟨a, cap, rfl, hc, fun k z hk => ?_⟩
  have hlt : k < H.length := (List.getElem?_eq_some_iff.1 hk).1
  obtain ⟨b, off, rfl, hb, hcell⟩ := hx (by omega)
  have g := flatMap_get (fun p : Int × Int => [Value.int .i64 0, Value.int .i32 p.1, Value.int .i32 p.2]) 3 (fun _ => rfl) H k
  exact ⟨b, off, rfl, hb, by rw [hcell (k * 3) (by omega)]; exact g 0 z hk (by omega), by rw [Nat.add_assoc, hcell (k * 3 + 1) (by omega)]; exact g 1 z hk (by omega), by rw [Nat.add_assoc, hcell (k * 3 + 2) (by omega)]; exact g 2 z hk (by omega)⟩

set_option maxHeartbeats 400000 in
/-- place's closure: the position of the atom at place k in held. -/
theorem placeFn_any (bx hb : Nat) (v : Value) (H : List (Int × Int)) (k : Nat) (z : Int × Int) (w : World) (hx : w.cell? ⟨bx, 0, none⟩ = some (.pointer (some ⟨hb, 0, none⟩))) (hh : w.cell? ⟨hb, 1, none⟩ = some v) (h : Helds w v H) (hk : H[k]? = some z)
    (hm : H.length ≤ 1099511627776) (hz : 0 ≤ z.1 ∧ z.1 ≤ 4096) :
    Calls Try.prog 56 #[.int .i64 k, .pointer (some ⟨bx, 0, none⟩)] w fun e w' => e = .returned (.int .i64 z.1) ∧ w' = w := by
  obtain ⟨a, cap, rfl, hcap, hcell⟩ := h.opened
  clear h
  have hlt : k < H.length := (List.getElem?_eq_some_iff.1 hk).1
  obtain ⟨b, off, rfl, hbl, hc1, hc2⟩ := hcell k z hk
  clear hcell hk
  obtain ⟨z1, z2⟩ := z
  simp only at *
  generalize H.length = n at *
  go_enter Try.func56, Try.ntmps56
  go_wp2
  go_ret
  exact ⟨rfl, rfl⟩

/-- What the search answers. -/
def BisRes (H : List (Int × Int)) (p : Int) (e : Ending) : Prop :=
  (∃ i o, H[i]? = some (p, o) ∧ e = .returned (.tuple #[.int .i64 (i : Nat), .bool true])) ∨ ((∀ z ∈ H, z.1 ≠ p) ∧ e = .returned (.tuple #[.int .i64 0, .bool false]))

set_option maxHeartbeats 1000000 in
theorem bisect_any (bx hb : Nat) (v : Value) (H : List (Int × Int)) (p : Int) (w : World) (hx : w.cell? ⟨bx, 0, none⟩ = some (.pointer (some ⟨hb, 0, none⟩))) (hh : w.cell? ⟨hb, 1, none⟩ = some v) (h : Helds w v H)
    (hm : H.length ≤ 4096) (hz : ∀ z ∈ H, 0 ≤ z.1 ∧ z.1 ≤ 4096) (hasc : H.Pairwise (fun x y => x.1 < y.1)) :
    Calls Try.prog 55 #[.int .i64 H.length, .func (.func 56) #[] #[.pointer (some ⟨bx, 0, none⟩)], .int .i64 p] w fun e w' => w' = w ∧ BisRes H p e := by
  have HX := hide hx
  have HH := hide hh
  have HS := hide h
  have HZ := hide hz
  have HASC := hide hasc
  clear hx hh h hz hasc
  generalize hn : H.length = n at *
  have HN := hide hn
  clear hn
  go_enter Try.func55, Try.ntmps55
  go_wp2
  go_loop [8, 9] (fun l h => ∃ lo hi : Nat, lo ≤ hi ∧ hi ≤ n ∧ l = .int .i64 lo ∧ h = .int .i64 hi ∧ (∀ j z, j < lo → H[j]? = some z → z.1 < p) ∧ (∀ j z, hi ≤ j → H[j]? = some z → p < z.1)) (fun l h => (intOf h).toNat - (intOf l).toNat)
  case atStart => exact ⟨0, n, by omega, by omega, rfl, rfl, fun j z hj => by omega, fun j z hj hz => by have := (List.getElem?_eq_some_iff.1 hz).1; have := HN.out; omega⟩
  case round =>
    obtain ⟨lo, hi, hlh, hhn, rfl, rfl, hl, hh⟩ := hrel
    have HL := hide hl
    have HHI := hide hh
    clear hl hh
    by_cases hlt : lo < hi
    · obtain ⟨mid, hmid, hm1, hm2⟩ : ∃ mid : Nat, ((lo : Int) + (hi : Int)) / 2 = (mid : Int) ∧ lo ≤ mid ∧ mid < hi := ⟨(lo + hi) / 2, by omega, by omega, by omega⟩
      obtain ⟨z, hz⟩ := get_of_lt (k := mid) HN.out (by omega)
      have hzr := HZ.out z (List.mem_of_getElem? hz)
      have HG := hide hz
      clear hz
      go_wp2_with fail
      refine (placeFn_any bx hb v H mid z w HX.out HH.out HS.out HG.out (by rw [HN.out]; omega) hzr).mono ?_
      rintro e w' ⟨rfl, rfl⟩
      obtain ⟨q, o⟩ := z
      simp only at *
      by_cases c1 : q < p
      · go_wp2
        go_round
        case rel =>
          refine ⟨mid + 1, hi, by omega, by omega, by go_num, rfl, fun j z hj hz => ?_, HHI.out⟩
          by_cases hjm : j = mid
          · subst hjm; rw [HG.out] at hz; cases hz; exact c1
          · have := pairwise_get HASC.out (show j < mid by omega) hz HG.out
            simp only at this
            omega
        case measure => simp [intOf]; omega
      · by_cases c2 : p < q
        · go_wp2
          go_round
          case rel =>
            refine ⟨lo, mid, by omega, by omega, rfl, rfl, HL.out, fun j z hj hz => ?_⟩
            by_cases hjm : j = mid
            · subst hjm; rw [HG.out] at hz; cases hz; exact c2
            · have := pairwise_get HASC.out (show mid < j by omega) HG.out hz
              simp only at this
              omega
          case measure => simp [intOf]; omega
        · have e : q = p := by omega
          subst e
          go_wp2
          go_ret2
          exact ⟨rfl, .inl ⟨mid, o, HG.out, rfl⟩⟩
    · go_wp2
      go_ret2
      have hno : ∀ z ∈ H, z.1 ≠ p := by
        intro z hz
        obtain ⟨j, hj⟩ := List.getElem?_of_mem hz
        by_cases hj' : j < lo
        · have := HL.out j z hj' hj; omega
        · have := HHI.out j z (by omega) hj; omega
      exact ⟨rfl, .inr ⟨hno, rfl⟩⟩

end Go.Proofs.Qxb6608735a
