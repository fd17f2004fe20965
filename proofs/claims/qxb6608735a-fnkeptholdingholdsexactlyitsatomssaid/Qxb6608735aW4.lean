import Derived.Test.Qxb6608735aMaps
namespace Go.Proofs.Qxb6608735a
open Go.RowKit
set_option linter.unusedVariables false

theorem idx_made (f : ByteArray → Value) (w : World) : IdxMap f (w.alloc (.map #[] 0)) w.heap.size [] := by
  unfold IdxMap
  rw [Go.heap_alloc_new]; rfl

set_option maxHeartbeats 400000 in
/-- zzIndex: the map of places, or, where one repeats, nil and false. -/
theorem index_any (v : Value) (L : List ByteArray) (w : World) (h : Strs w v L) (hm : L.length ≤ 1099511627776) :
    Calls Try.prog 13 #[v] w fun e w' => (L.Nodup ∧ ∃ b, e = .returned (.tuple #[.map (some b), .bool true]) ∧ IdxMap strKey w' b L ∧ w.heap.size ≤ b ∧ Below w.heap.size w w') ∨ (¬ L.Nodup ∧ e = .returned (.tuple #[.map none, .bool false]) ∧ Below w.heap.size w w') := by
  obtain ⟨a, cap, rfl, hcap, hcell⟩ := h.open1
  clear h
  generalize hn : L.length = n at *
  have HN := hide hn
  have HC := hide hcell
  clear hn hcell
  have hmm := make_map 26 9 3 Try.underlying26
  go_enter Try.func13, Try.ntmps13
  go_wp2
  go_loopw [5] (fun i wr => ∃ k : Nat, k ≤ n ∧ i = .int .i64 k ∧ IdxMap strKey wr w.heap.size (L.take k) ∧ (L.take k).Nodup ∧ Below w.heap.size w wr) (fun i _ => n - (intOf i).toNat)
  case atStart => exact ⟨0, Nat.zero_le _, rfl, by simpa using idx_made strKey w, by simp, (Below.refl _ _).alloc (Nat.le_refl _) _⟩
  case round =>
    obtain ⟨k, hk, rfl, hx, hnd, hb⟩ := hrel
    have HX := hide hx
    have HD := hide hnd
    have HB := hide hb
    clear hx hnd hb
    by_cases hlt : k < n
    · obtain ⟨z, hz⟩ := get_of_lt HN.out hlt
      obtain ⟨b, off, rfl, hbl, hc⟩ := HC.out k z hz
      have hcr : wr.cell? ⟨b, off + k, none⟩ = some (.string z) := (HB.out.cell (p := ⟨b, off + k, none⟩) hbl).trans hc
      have HZ := hide hz
      clear hz hc
      have hlk := HX.out.lookup z
      by_cases hmem : z ∈ L.take k
      · rw [pos_isSome hmem] at hlk
        go_wp2
        go_ret2
        exact .inr ⟨not_nodup_of_take HZ.out hmem, rfl, HB.out⟩
      · rw [pos_isSome_not hmem, pos_none.2 hmem] at hlk
        obtain ⟨w1, hup, hx1, hg1⟩ := HX.out.put hmem
        rw [length_take_le HN.out hk] at hup
        have HX1 := hide hx1
        have HG1 := hide hg1
        clear hx1 hg1
        go_wp2
        go_roundw
        case rel =>
          refine ⟨k + 1, by omega, by go_num, ?_, take_nodup_snoc HZ.out HD.out hmem, HB.out.grown HG1.out HB.out.size (fun q hq => by cases hq; exact Nat.le_refl _)⟩
          rw [take_snoc HZ.out]; exact HX1.out
        case measure => simp [intOf]; omega
    · go_wp2
      go_ret2
      have h1 := HX.out
      have h2 := HD.out
      rw [take_all HN.out (by omega)] at h1 h2
      exact .inl ⟨h2, _, rfl, h1, Nat.le_refl _, HB.out⟩

set_option maxHeartbeats 400000 in
/-- zzNameIndex, of strings none of which repeats. -/
theorem nameIndex_any (v : Value) (L : List ByteArray) (w : World) (h : Strs w v L) (hm : L.length ≤ 1099511627776) (hnd : L.Nodup) :
    Calls Try.prog 25 #[v] w fun e w' => ∃ b, e = .returned (.map (some b)) ∧ IdxMap nameKey w' b L ∧ w.heap.size ≤ b ∧ Below w.heap.size w w' := by
  obtain ⟨a, cap, rfl, hcap, hcell⟩ := h.open1
  clear h
  generalize hn : L.length = n at *
  have HN := hide hn
  have HC := hide hcell
  have HD := hide hnd
  clear hn hcell hnd
  have hmm := make_map 50 91 3 Try.underlying50
  go_enter Try.func25, Try.ntmps25
  go_wp2
  go_loopw [4] (fun i wr => ∃ k : Nat, k ≤ n ∧ i = .int .i64 k ∧ IdxMap nameKey wr w.heap.size (L.take k) ∧ Below w.heap.size w wr) (fun i _ => n - (intOf i).toNat)
  case atStart => exact ⟨0, Nat.zero_le _, rfl, by simpa using idx_made nameKey w, (Below.refl _ _).alloc (Nat.le_refl _) _⟩
  case round =>
    obtain ⟨k, hk, rfl, hx, hb⟩ := hrel
    have HX := hide hx
    have HB := hide hb
    clear hx hb
    by_cases hlt : k < n
    · obtain ⟨z, hz⟩ := get_of_lt HN.out hlt
      obtain ⟨b, off, rfl, hbl, hc⟩ := HC.out k z hz
      have hcr : wr.cell? ⟨b, off + k, none⟩ = some (.string z) := (HB.out.cell (p := ⟨b, off + k, none⟩) hbl).trans hc
      have hmem : z ∉ L.take k := fun hm => not_nodup_of_take hz hm HD.out
      have HZ := hide hz
      clear hz hc
      obtain ⟨w1, hup, hx1, hg1⟩ := HX.out.putName hmem
      rw [length_take_le HN.out hk] at hup
      unfold nameKey at hup
      have HX1 := hide hx1
      have HG1 := hide hg1
      clear hx1 hg1
      go_wp2
      go_roundw
      case rel =>
        refine ⟨k + 1, by omega, by go_num, ?_, HB.out.grown HG1.out HB.out.size (fun q hq => by cases hq; exact Nat.le_refl _)⟩
        rw [take_snoc HZ.out]; exact HX1.out
      case measure => simp [intOf]; omega
    · go_wp2
      go_ret
      have h1 := HX.out
      rw [take_all HN.out (by omega)] at h1
      exact ⟨_, rfl, h1, Nat.le_refl _, HB.out⟩

end Go.Proofs.Qxb6608735a
