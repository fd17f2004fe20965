import Derived.Test.Qxb6608735aBase
namespace Go.Proofs.Qxb6608735a
open Go.RowKit
set_option linter.unusedVariables false

def SomeBool (w : World) (p : Prop) (e : Ending) (w' : World) : Prop := ∃ b : Bool, e = .returned (.bool b) ∧ w' = w ∧ (b = true → p)

set_option maxHeartbeats 2000000 in
set_option maxRecDepth 100000 in
theorem bytes33 (v0 v1 v2 v3 v4 v5 v6 v7 : Value) (kk : Int) (w : World) (l0 : List ByteArray) (h0 : Strs w v0 l0) (m0 : l0.length ≤ 9223372036854775807) (z0 : ∀ s ∈ l0, s.size ≤ maxLen)
    (l1 : List Int) (h1 : I32s w v1 l1) (m1 : l1.length ≤ 9223372036854775807)
    (l2 : List Int) (h2 : I64s w v2 l2) (m2 : l2.length ≤ 9223372036854775807)
    (l3 : List Int) (h3 : I32s w v3 l3) (m3 : l3.length ≤ 9223372036854775807)
    (l4 : List Int) (h4 : I32s w v4 l4) (m4 : l4.length ≤ 9223372036854775807)
    (l5 : List ByteArray) (h5 : Strs w v5 l5) (m5 : l5.length ≤ 9223372036854775807) (z5 : ∀ s ∈ l5, s.size ≤ maxLen)
    (l6 : List ByteArray) (h6 : Strs w v6 l6) (m6 : l6.length ≤ 9223372036854775807) (z6 : ∀ s ∈ l6, s.size ≤ maxLen)
    (l7 : List ByteArray) (h7 : Strs w v7 l7) (m7 : l7.length ≤ 9223372036854775807) (z7 : ∀ s ∈ l7, s.size ≤ maxLen) :
    Calls Try.prog 33 #[v0, v1, v2, v3, v4, v5, v6, v7, .int .i64 kk] w fun e w' => SomeBool w (l0.length ≤ 1048576 ∧ l5.length ≤ 1048576 ∧ l6.length ≤ 1048576 ∧ l7.length ≤ 1048576) e w' := by
  obtain ⟨a0, c0, rfl, hc0, g0⟩ := h0.open1
  clear h0
  generalize hn0 : l0.length = n0 at *
  have N0 := hide hn0
  have G0 := hide g0
  have Z0 := hide z0
  clear hn0 g0 z0
  obtain ⟨a1, c1, rfl, hc1, g1⟩ := h1.open1
  clear h1
  generalize hn1 : l1.length = n1 at *
  clear hn1 g1
  obtain ⟨a2, c2, rfl, hc2, g2⟩ := h2.open1
  clear h2
  generalize hn2 : l2.length = n2 at *
  clear hn2 g2
  obtain ⟨a3, c3, rfl, hc3, g3⟩ := h3.open1
  clear h3
  generalize hn3 : l3.length = n3 at *
  clear hn3 g3
  obtain ⟨a4, c4, rfl, hc4, g4⟩ := h4.open1
  clear h4
  generalize hn4 : l4.length = n4 at *
  clear hn4 g4
  obtain ⟨a5, c5, rfl, hc5, g5⟩ := h5.open1
  clear h5
  generalize hn5 : l5.length = n5 at *
  have N5 := hide hn5
  have G5 := hide g5
  have Z5 := hide z5
  clear hn5 g5 z5
  obtain ⟨a6, c6, rfl, hc6, g6⟩ := h6.open1
  clear h6
  generalize hn6 : l6.length = n6 at *
  have N6 := hide hn6
  have G6 := hide g6
  have Z6 := hide z6
  clear hn6 g6 z6
  obtain ⟨a7, c7, rfl, hc7, g7⟩ := h7.open1
  clear h7
  generalize hn7 : l7.length = n7 at *
  have N7 := hide hn7
  have G7 := hide g7
  have Z7 := hide z7
  clear hn7 g7 z7
  go_enter Try.func33, Try.ntmps33
  go_wp2
  · go_ret; exact ⟨false, rfl, rfl, fun h => by cases h⟩
  go_loop [20, 19] (fun i t => ∃ (k : Nat) (u : Int), k ≤ n0 ∧ i = .int .i64 k ∧ t = .int .i64 u ∧ 0 ≤ u ∧ u ≤ 1048576) (fun i _ => n0 - (intOf i).toNat)
  case atStart => exact ⟨0, _, Nat.zero_le _, rfl, rfl, by omega, by omega⟩
  case round =>
    obtain ⟨k, u, hk, rfl, rfl, hu1, hu2⟩ := hrel
    by_cases hlt : k < n0
    · obtain ⟨z, hz⟩ := get_of_lt N0.out hlt
      obtain ⟨b, off, rfl, hb, hcell⟩ := G0.out k z hz
      have hzs := Z0.out z (List.mem_of_getElem? hz)
      unfold maxLen at hzs
      clear hz
      go_wp2
      · go_ret; exact ⟨false, rfl, rfl, fun h => by cases h⟩
      · go_ret; exact ⟨false, rfl, rfl, fun h => by cases h⟩
      · go_round
        case rel => exact ⟨k + 1, _, by omega, by go_num, rfl, by omega, by omega⟩
        case measure => simp [intOf]; omega
    · skip
      go_wp2
      · go_ret; exact ⟨false, rfl, rfl, fun h => by cases h⟩
      · go_ret; exact ⟨false, rfl, rfl, fun h => by cases h⟩
      · go_ret; exact ⟨false, rfl, rfl, fun h => by cases h⟩
      · go_ret; exact ⟨false, rfl, rfl, fun h => by cases h⟩
      · go_ret; exact ⟨false, rfl, rfl, fun h => by cases h⟩
      · go_ret; exact ⟨false, rfl, rfl, fun h => by cases h⟩
      · go_ret; exact ⟨false, rfl, rfl, fun h => by cases h⟩
      · go_ret; exact ⟨false, rfl, rfl, fun h => by cases h⟩
      · go_ret; exact ⟨false, rfl, rfl, fun h => by cases h⟩
      · go_ret; exact ⟨false, rfl, rfl, fun h => by cases h⟩
      go_loop [21, 19] (fun i t => ∃ (k : Nat) (u : Int), k ≤ n5 ∧ i = .int .i64 k ∧ t = .int .i64 u ∧ 0 ≤ u ∧ u ≤ 1048576) (fun i _ => n5 - (intOf i).toNat)
      case atStart => exact ⟨0, _, Nat.zero_le _, rfl, rfl, by omega, by omega⟩
      case round =>
        obtain ⟨k, u, hk, rfl, rfl, hu1, hu2⟩ := hrel
        by_cases hlt : k < n5
        · obtain ⟨z, hz⟩ := get_of_lt N5.out hlt
          obtain ⟨b, off, rfl, hb, hcell⟩ := G5.out k z hz
          have hzs := Z5.out z (List.mem_of_getElem? hz)
          unfold maxLen at hzs
          clear hz
          go_wp2
          · go_ret; exact ⟨false, rfl, rfl, fun h => by cases h⟩
          · go_ret; exact ⟨false, rfl, rfl, fun h => by cases h⟩
          · go_round
            case rel => exact ⟨k + 1, _, by omega, by go_num, rfl, by omega, by omega⟩
            case measure => simp [intOf]; omega
        · skip
          go_wp2
          · go_ret; exact ⟨false, rfl, rfl, fun h => by cases h⟩
          · go_ret; exact ⟨false, rfl, rfl, fun h => by cases h⟩
          go_loop [22, 19] (fun i t => ∃ (k : Nat) (u : Int), k ≤ n6 ∧ i = .int .i64 k ∧ t = .int .i64 u ∧ 0 ≤ u ∧ u ≤ 1048576) (fun i _ => n6 - (intOf i).toNat)
          case atStart => exact ⟨0, _, Nat.zero_le _, rfl, rfl, by omega, by omega⟩
          case round =>
            obtain ⟨k, u, hk, rfl, rfl, hu1, hu2⟩ := hrel
            by_cases hlt : k < n6
            · obtain ⟨z, hz⟩ := get_of_lt N6.out hlt
              obtain ⟨b, off, rfl, hb, hcell⟩ := G6.out k z hz
              have hzs := Z6.out z (List.mem_of_getElem? hz)
              unfold maxLen at hzs
              clear hz
              go_wp2
              · go_ret; exact ⟨false, rfl, rfl, fun h => by cases h⟩
              · go_ret; exact ⟨false, rfl, rfl, fun h => by cases h⟩
              · go_round
                case rel => exact ⟨k + 1, _, by omega, by go_num, rfl, by omega, by omega⟩
                case measure => simp [intOf]; omega
            · skip
              go_wp2
              · go_ret; exact ⟨false, rfl, rfl, fun h => by cases h⟩
              · go_ret; exact ⟨false, rfl, rfl, fun h => by cases h⟩
              go_loop [23, 19] (fun i t => ∃ (k : Nat) (u : Int), k ≤ n7 ∧ i = .int .i64 k ∧ t = .int .i64 u ∧ 0 ≤ u ∧ u ≤ 1048576) (fun i _ => n7 - (intOf i).toNat)
              case atStart => exact ⟨0, _, Nat.zero_le _, rfl, rfl, by omega, by omega⟩
              case round =>
                obtain ⟨k, u, hk, rfl, rfl, hu1, hu2⟩ := hrel
                by_cases hlt : k < n7
                · obtain ⟨z, hz⟩ := get_of_lt N7.out hlt
                  obtain ⟨b, off, rfl, hb, hcell⟩ := G7.out k z hz
                  have hzs := Z7.out z (List.mem_of_getElem? hz)
                  unfold maxLen at hzs
                  clear hz
                  go_wp2
                  · go_ret; exact ⟨false, rfl, rfl, fun h => by cases h⟩
                  · go_ret; exact ⟨false, rfl, rfl, fun h => by cases h⟩
                  · go_round
                    case rel => exact ⟨k + 1, _, by omega, by go_num, rfl, by omega, by omega⟩
                    case measure => simp [intOf]; omega
                · skip
                  go_wp2
                  go_ret
                  exact ⟨true, rfl, rfl, fun _ => by refine ⟨?_, ?_, ?_, ?_⟩ <;> omega⟩

end Go.Proofs.Qxb6608735a
