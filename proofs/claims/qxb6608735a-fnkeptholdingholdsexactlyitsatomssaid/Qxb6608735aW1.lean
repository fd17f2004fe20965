import Derived.Test.Qxb6608735aBase
namespace Go.Proofs.Qxb6608735a
open Go.RowKit
set_option linter.unusedVariables false

set_option maxHeartbeats 400000 in
theorem hasInt64_any (v : Value) (zs : List Int) (x : Int) (w : World) (h : I64s w v zs) (hm : zs.length ≤ 1099511627776) :
    Calls Try.prog 45 #[v, .int .i64 x] w fun e w' => e = .returned (.bool (decide (x ∈ zs))) ∧ w' = w := by
  obtain ⟨a, cap, rfl, hcap, hcell⟩ := h.open1
  clear h
  generalize hn : zs.length = n at *
  have HN := hide hn
  have HC := hide hcell
  clear hn hcell
  go_enter Try.func45, Try.ntmps45
  go_wp2
  go_loop [5] (fun i => ∃ k : Nat, k ≤ n ∧ i = .int .i64 k ∧ x ∉ zs.take k) (fun i => n - (intOf i).toNat)
  case atStart => exact ⟨0, Nat.zero_le _, rfl, by simp⟩
  case round =>
    obtain ⟨k, hk, rfl, hnot⟩ := hrel
    have HT := hide hnot
    clear hnot
    by_cases hlt : k < n
    · obtain ⟨z, hz⟩ := get_of_lt HN.out hlt
      obtain ⟨b, off, rfl, hb, hc⟩ := HC.out k z hz
      have HZ := hide hz
      clear hz
      by_cases hx : z = x
      · subst hx
        go_wp2
        go_ret
        exact ⟨ret_bool (by simp [List.mem_of_getElem? HZ.out]), rfl⟩
      · have hx' : (z == x) = false := by simp [hx]
        go_wp2
        go_round
        case rel => exact ⟨k + 1, by omega, by go_num, not_mem_take_succ HZ.out HT.out hx⟩
        case measure => simp [intOf]; omega
    · go_wp2
      go_ret
      have h1 := HT.out
      rw [take_all HN.out (by omega)] at h1
      exact ⟨ret_bool (by simp [h1]), rfl⟩

set_option maxHeartbeats 400000 in
/-- Two slices that read alike: true. -/
theorem sameInt64_eq (v u : Value) (zs : List Int) (w : World) (h : I64s w v zs) (g : I64s w u zs) (hm : zs.length ≤ 1099511627776) :
    Calls Try.prog 32 #[v, u] w fun e w' => e = .returned (.bool true) ∧ ∃ q, w' = w.drewN q := by
  obtain ⟨a, cap, rfl, hcap, hcell⟩ := h.open1
  obtain ⟨a', cap', rfl, hcap', hcell'⟩ := g.open1
  clear h g
  generalize hn : zs.length = n at *
  have HN := hide hn
  have HC := hide hcell
  have HC' := hide hcell'
  clear hn hcell hcell'
  go_enter Try.func32, Try.ntmps32
  go_wp2
  go_loopw [5] (fun i wr => ∃ k : Nat, k ≤ n ∧ i = .int .i64 k ∧ ∃ q, wr = w.drewN q) (fun i _ => n - (intOf i).toNat)
  case atStart => exact ⟨0, Nat.zero_le _, rfl, 0, rfl⟩
  case round =>
    obtain ⟨k, hk, rfl, q, rfl⟩ := hrel
    by_cases hlt : k < n
    · obtain ⟨z, hz⟩ := get_of_lt HN.out hlt
      obtain ⟨b, off, rfl, hb, hc⟩ := HC.out k z hz
      obtain ⟨b', off', rfl, hb', hc'⟩ := HC'.out k z hz
      clear hz
      go_wp2
      go_quiet (fail)
      go_wp2
      go_roundw
      case rel => exact ⟨k + 1, by omega, by go_num, _, rfl⟩
      case measure => simp [intOf]; omega
    · go_wp2
      go_ret
      exact ⟨rfl, _, rfl⟩

set_option maxHeartbeats 400000 in
/-- Two slices of strings that read alike: true. -/
theorem sameStrings_eq (v u : Value) (zs : List ByteArray) (w : World) (h : Strs w v zs) (g : Strs w u zs) (hm : zs.length ≤ 1099511627776) :
    Calls Try.prog 19 #[v, u] w fun e w' => e = .returned (.bool true) ∧ ∃ q, w' = w.drewN q := by
  obtain ⟨a, cap, rfl, hcap, hcell⟩ := h.open1
  obtain ⟨a', cap', rfl, hcap', hcell'⟩ := g.open1
  clear h g
  generalize hn : zs.length = n at *
  have HN := hide hn
  have HC := hide hcell
  have HC' := hide hcell'
  clear hn hcell hcell'
  go_enter Try.func19, Try.ntmps19
  go_wp2
  go_loopw [5] (fun i wr => ∃ k : Nat, k ≤ n ∧ i = .int .i64 k ∧ ∃ q, wr = w.drewN q) (fun i _ => n - (intOf i).toNat)
  case atStart => exact ⟨0, Nat.zero_le _, rfl, 0, rfl⟩
  case round =>
    obtain ⟨k, hk, rfl, q, rfl⟩ := hrel
    by_cases hlt : k < n
    · obtain ⟨z, hz⟩ := get_of_lt HN.out hlt
      obtain ⟨b, off, rfl, hb, hc⟩ := HC.out k z hz
      obtain ⟨b', off', rfl, hb', hc'⟩ := HC'.out k z hz
      clear hz
      go_wp2
      go_quiet (fail)
      go_wp2
      go_roundw
      case rel => exact ⟨k + 1, by omega, by go_num, _, rfl⟩
      case measure => simp [intOf]; omega
    · go_wp2
      go_ret
      exact ⟨rfl, _, rfl⟩

set_option maxHeartbeats 400000 in
/-- zzKeysNamed: every key's low half, read xs int32, is a place below m. -/
theorem keysNamed_any (v : Value) (zs : List Int) (m : Nat) (w : World) (h : I64s w v zs) (hn0 : zs.length ≤ 1099511627776) (hm : m ≤ 1099511627776) :
    Calls Try.prog 14 #[v, .int .i64 m] w fun e w' => e = .returned (.bool (decide (∀ z ∈ zs, 0 ≤ wrap32 z ∧ wrap32 z < m))) ∧ w' = w := by
  obtain ⟨a, cap, rfl, hcap, hcell⟩ := h.open1
  clear h
  generalize hn : zs.length = n at *
  have HN := hide hn
  have HC := hide hcell
  clear hn hcell
  go_enter Try.func14, Try.ntmps14
  go_wp2
  go_loop [5] (fun i => ∃ k : Nat, k ≤ n ∧ i = .int .i64 k ∧ ∀ z ∈ zs.take k, 0 ≤ wrap32 z ∧ wrap32 z < m) (fun i => n - (intOf i).toNat)
  case atStart => exact ⟨0, Nat.zero_le _, rfl, by simp⟩
  case round =>
    obtain ⟨k, hk, rfl, hnot⟩ := hrel
    have HT := hide hnot
    clear hnot
    by_cases hlt : k < n
    · obtain ⟨z, hz⟩ := get_of_lt HN.out hlt
      obtain ⟨b, off, rfl, hb, hc⟩ := HC.out k z hz
      have HZ := hide hz
      clear hz
      go_wp2
      · go_ret
        have h1 : wrap32 z < 0 ∨ ↑m ≤ wrap64 (wrap32 z) := by assumption
        rw [wrap64_wrap32] at h1
        refine ⟨ret_bool ?_, rfl⟩
        symm
        rw [decide_eq_false_iff_not]
        intro hall
        have := hall z (List.mem_of_getElem? HZ.out)
        omega
      · go_round
        case rel =>
          have h1 : 0 ≤ wrap32 z ∧ wrap64 (wrap32 z) < ↑m := by assumption
          rw [wrap64_wrap32] at h1
          refine ⟨k + 1, by omega, by go_num, ?_⟩
          rw [take_snoc HZ.out]
          intro y hy
          rcases List.mem_append.1 hy with hy | hy
          · exact HT.out y hy
          · rw [List.mem_singleton.1 hy]; exact h1
        case measure => simp [intOf]; omega
      · go_ret
        have h1 : wrap32 z < 0 := by assumption
        refine ⟨ret_bool ?_, rfl⟩
        symm
        rw [decide_eq_false_iff_not]
        intro hall
        have := hall z (List.mem_of_getElem? HZ.out)
        omega
    · go_wp2
      go_ret
      have h1 := HT.out
      rw [take_all HN.out (by omega)] at h1
      exact ⟨ret_bool (by simpa using h1), rfl⟩

set_option maxHeartbeats 400000 in
theorem strBytes_any (v : Value) (ss : List ByteArray) (t : Int) (w : World) (h : Strs w v ss) (hn0 : ss.length ≤ 1099511627776) (hs : ∀ s ∈ ss, s.size ≤ maxLen) (h0 : 0 ≤ t) (ht : t ≤ 1099511627776) :
    Calls Try.prog 12 #[.int .i64 t, v] w fun e w' => ∃ r : Int, e = .returned (.int .i64 r) ∧ w' = w ∧ 0 ≤ r ∧ r ≤ 2000000 ∧ (r ≤ 1048576 → ss.length ≤ 4096 ∧ t ≤ r) := by
  obtain ⟨a, cap, rfl, hcap, hcell⟩ := h.open1
  clear h
  generalize hn : ss.length = n at *
  have HN := hide hn
  have HC := hide hcell
  clear hn hcell
  by_cases c1 : t > 1048576
  · go_enter Try.func12, Try.ntmps12
    go_wp2
    go_ret
    exact ⟨1048577, rfl, rfl, by omega, by omega, by omega⟩
  by_cases c2 : n > 4096
  · go_enter Try.func12, Try.ntmps12
    go_wp2
    go_ret
    exact ⟨1048577, rfl, rfl, by omega, by omega, by omega⟩
  go_enter Try.func12, Try.ntmps12
  go_wp2
  go_loop [5, 0] (fun i s => ∃ (k : Nat) (u : Int), k ≤ n ∧ i = .int .i64 k ∧ s = .int .i64 u ∧ t ≤ u ∧ u ≤ 2000000) (fun i _ => n - (intOf i).toNat)
  case atStart => exact ⟨0, _, Nat.zero_le _, rfl, rfl, by omega, by omega⟩
  case round =>
    obtain ⟨k, u, hk, rfl, rfl, hu1, hu2⟩ := hrel
    by_cases hlt : k < n
    · obtain ⟨z, hz⟩ := get_of_lt HN.out hlt
      obtain ⟨b, off, rfl, hb, hc⟩ := HC.out k z hz
      have hzs := hs z (List.mem_of_getElem? hz)
      unfold maxLen at hzs
      clear hz
      go_wp2
      · go_ret
        exact ⟨1048577, rfl, rfl, by omega, by omega, by omega⟩
      · go_round
        case rel => exact ⟨k + 1, _, by omega, by go_num, rfl, by omega, by omega⟩
        case measure => simp [intOf]; omega
      · go_ret
        exact ⟨1048577, rfl, rfl, by omega, by omega, by omega⟩
    · go_wp2
      go_ret
      exact ⟨u, rfl, rfl, by omega, by omega, fun _ => ⟨by omega, by omega⟩⟩


set_option maxHeartbeats 400000 in
/-- zzIsUnion where it is one: true. -/
theorem isUnion_yes (v u t : Value) (ws xs bs : List Int) (w : World) (h : I64s w v ws) (ha : I64s w u xs) (hb : I64s w t bs)
    (hm : ws.length ≤ 1099511627776) (hma : xs.length ≤ 1099511627776) (hmb : bs.length ≤ 1099511627776)
    (hasc : ∀ k y z, ws[k]? = some y → ws[k + 1]? = some z → y < z) (h1 : ∀ x ∈ xs, x ∈ ws) (h2 : ∀ x ∈ bs, x ∈ ws) (h3 : ∀ x ∈ ws, x ∈ xs ∨ x ∈ bs) :
    Calls Try.prog 34 #[v, u, t] w fun e w' => e = .returned (.bool true) ∧ ∃ q, w' = w.drewN q := by
  have H := hide h
  have HA := hide ha
  have HB := hide hb
  obtain ⟨a, cap, rfl, hcap, hcell⟩ := h.open1
  obtain ⟨aa, capa, rfl, hcapa, hcella⟩ := ha.open1
  obtain ⟨ab, capb, rfl, hcapb, hcellb⟩ := hb.open1
  clear h ha hb
  generalize hn : ws.length = n at *
  generalize hna : xs.length = na at *
  generalize hnb : bs.length = nb at *
  have HN := hide hn
  have HC := hide hcell
  have HNA := hide hna
  have HCA := hide hcella
  have HNB := hide hnb
  have HCB := hide hcellb
  have HASC := hide hasc
  have H1 := hide h1
  have H2 := hide h2
  have H3 := hide h3
  clear hn hcell hna hcella hnb hcellb hasc h1 h2 h3
  go_enter Try.func34, Try.ntmps34
  go_wp2
  go_loopw [7] (fun i wr => ∃ k : Nat, 1 ≤ k ∧ (k ≤ n ∨ k = 1) ∧ i = .int .i64 k ∧ ∃ q, wr = w.drewN q) (fun i _ => n - (intOf i).toNat)
  case atStart => exact ⟨1, by omega, by omega, rfl, 0, rfl⟩
  case round =>
    obtain ⟨k, hk1, hk, rfl, q, rfl⟩ := hrel
    by_cases hlt : k < n
    · obtain ⟨k, rfl⟩ : ∃ j, k = j + 1 := ⟨k - 1, by omega⟩
      obtain ⟨y, hy⟩ := get_of_lt (k := k) HN.out (by omega)
      obtain ⟨z, hz⟩ := get_of_lt HN.out hlt
      have hyz : y < z := HASC.out k y z hy hz
      obtain ⟨b, off, rfl, hb, hc⟩ := HC.out k y hy
      obtain ⟨b', off', hbo, hb', hc'⟩ := HC.out (k + 1) z hz
      cases hbo
      clear hz hy
      go_wp2
      go_quiet (fail)
      go_wp2
      go_roundw
      case rel => exact ⟨k + 2, by omega, by omega, by go_num, _, rfl⟩
      case measure => simp [intOf]; omega
    · go_wp2
      go_loop [8] (fun i => ∃ k : Nat, k ≤ na ∧ i = .int .i64 k) (fun i => na - (intOf i).toNat)
      case atStart => exact ⟨0, Nat.zero_le _, rfl⟩
      case round =>
        obtain ⟨k, hk, rfl⟩ := hrel
        by_cases hlt : k < na
        · obtain ⟨y, hy⟩ := get_of_lt HNA.out hlt
          have hmem : y ∈ ws := H1.out y (List.mem_of_getElem? hy)
          obtain ⟨b, off, rfl, hb, hc⟩ := HCA.out k y hy
          clear hy
          go_wp2_with fail
          refine (hasInt64_any _ ws y (w.drewN q) (H.out.drewN q) (by rw [HN.out]; omega)).mono ?_
          rintro e w' ⟨rfl, rfl⟩
          go_wp2
          go_round
          case rel => exact ⟨k + 1, by omega, by go_num⟩
          case measure => simp [intOf]; omega
        · go_wp2
          go_loop [9] (fun i => ∃ k : Nat, k ≤ nb ∧ i = .int .i64 k) (fun i => nb - (intOf i).toNat)
          case atStart => exact ⟨0, Nat.zero_le _, rfl⟩
          case round =>
            obtain ⟨k, hk, rfl⟩ := hrel
            by_cases hlt : k < nb
            · obtain ⟨y, hy⟩ := get_of_lt HNB.out hlt
              have hmem : y ∈ ws := H2.out y (List.mem_of_getElem? hy)
              obtain ⟨b, off, rfl, hb, hc⟩ := HCB.out k y hy
              clear hy
              go_wp2_with fail
              refine (hasInt64_any _ ws y (w.drewN q) (H.out.drewN q) (by rw [HN.out]; omega)).mono ?_
              rintro e w' ⟨rfl, rfl⟩
              go_wp2
              go_round
              case rel => exact ⟨k + 1, by omega, by go_num⟩
              case measure => simp [intOf]; omega
            · go_wp2
              go_loop [10] (fun i => ∃ k : Nat, k ≤ n ∧ i = .int .i64 k) (fun i => n - (intOf i).toNat)
              case atStart => exact ⟨0, Nat.zero_le _, rfl⟩
              case round =>
                obtain ⟨k, hk, rfl⟩ := hrel
                by_cases hlt : k < n
                · obtain ⟨y, hy⟩ := get_of_lt HN.out hlt
                  have hor := H3.out y (List.mem_of_getElem? hy)
                  obtain ⟨b, off, rfl, hb, hc⟩ := HC.out k y hy
                  clear hy
                  by_cases hmem : y ∈ xs
                  · clear hor
                    go_wp2_with fail
                    refine (hasInt64_any _ xs y (w.drewN q) (HA.out.drewN q) (by rw [HNA.out]; omega)).mono ?_
                    rintro e w' ⟨rfl, rfl⟩
                    go_wp2
                    go_round
                    case rel => exact ⟨k + 1, by omega, by go_num⟩
                    case measure => simp [intOf]; omega
                  · have hmem2 : y ∈ bs := hor.resolve_left hmem
                    clear hor
                    go_wp2_with fail
                    refine (hasInt64_any _ xs y (w.drewN q) (HA.out.drewN q) (by rw [HNA.out]; omega)).mono ?_
                    rintro e w' ⟨rfl, rfl⟩
                    go_wp2_with fail
                    refine (hasInt64_any _ bs y (w.drewN q) (HB.out.drewN q) (by rw [HNB.out]; omega)).mono ?_
                    rintro e w' ⟨rfl, rfl⟩
                    go_wp2
                    go_round
                    case rel => exact ⟨k + 1, by omega, by go_num⟩
                    case measure => simp [intOf]; omega
                · go_wp2
                  go_ret
                  exact ⟨rfl, _, rfl⟩

end Go.Proofs.Qxb6608735a
