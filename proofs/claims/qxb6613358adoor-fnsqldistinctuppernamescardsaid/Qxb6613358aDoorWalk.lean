import Derived.Test.Qxb6613358aDoorRows
import Derived.WalkKit
import Derived.WalkSpells
import Derived.WalkLawsBesides
import Derived.KernelRfl
import Derived.Below
namespace Go.Proofs.Qxb6613358aDoor
open Go.RowKit
set_option linter.unusedVariables false

set_option maxHeartbeats 1000000 in
theorem upper_int (w : World) : Calls Tryd.prog 5 #[.string ⟨#[73, 78, 84, 69, 71, 69, 82]⟩] w fun e w' => e = .returned (.bool true) ∧ w' = w := by
  go_enter Tryd.func5, Tryd.ntmps5
  go_wp2
  go_loop [3] (fun i => ∃ k : Nat, k ≤ 7 ∧ i = .int .i64 k) (fun i => 7 - (intOf i).toNat)
  case atStart => exact ⟨0, Nat.zero_le _, rfl⟩
  case round =>
    obtain ⟨k, hk, rfl⟩ := hrel
    by_cases hlt : k < 7
    · have hc : k = 0 ∨ k = 1 ∨ k = 2 ∨ k = 3 ∨ k = 4 ∨ k = 5 ∨ k = 6 := by omega
      rcases hc with rfl | rfl | rfl | rfl | rfl | rfl | rfl
      all_goals
        go_wp2
        go_round
        case rel => exact ⟨_, by decide, rfl⟩
        case measure => simp [intOf]
    · have e : k = 7 := by omega
      subst e
      go_wp2
      go_ret
      exact ⟨rfl, rfl⟩

set_option maxHeartbeats 1000000 in
theorem upper_real (w : World) : Calls Tryd.prog 5 #[.string ⟨#[82, 69, 65, 76]⟩] w fun e w' => e = .returned (.bool true) ∧ w' = w := by
  go_enter Tryd.func5, Tryd.ntmps5
  go_wp2
  go_loop [3] (fun i => ∃ k : Nat, k ≤ 4 ∧ i = .int .i64 k) (fun i => 4 - (intOf i).toNat)
  case atStart => exact ⟨0, Nat.zero_le _, rfl⟩
  case round =>
    obtain ⟨k, hk, rfl⟩ := hrel
    by_cases hlt : k < 4
    · have hc : k = 0 ∨ k = 1 ∨ k = 2 ∨ k = 3 := by omega
      rcases hc with rfl | rfl | rfl | rfl
      all_goals
        go_wp2
        go_round
        case rel => exact ⟨_, by decide, rfl⟩
        case measure => simp [intOf]
    · have e : k = 4 := by omega
      subst e
      go_wp2
      go_ret
      exact ⟨rfl, rfl⟩

set_option maxHeartbeats 1000000 in
theorem upper_text (w : World) : Calls Tryd.prog 5 #[.string ⟨#[84, 69, 88, 84]⟩] w fun e w' => e = .returned (.bool true) ∧ w' = w := by
  go_enter Tryd.func5, Tryd.ntmps5
  go_wp2
  go_loop [3] (fun i => ∃ k : Nat, k ≤ 4 ∧ i = .int .i64 k) (fun i => 4 - (intOf i).toNat)
  case atStart => exact ⟨0, Nat.zero_le _, rfl⟩
  case round =>
    obtain ⟨k, hk, rfl⟩ := hrel
    by_cases hlt : k < 4
    · have hc : k = 0 ∨ k = 1 ∨ k = 2 ∨ k = 3 := by omega
      rcases hc with rfl | rfl | rfl | rfl
      all_goals
        go_wp2
        go_round
        case rel => exact ⟨_, by decide, rfl⟩
        case measure => simp [intOf]
    · have e : k = 4 := by omega
      subst e
      go_wp2
      go_ret
      exact ⟨rfl, rfl⟩

/-- What the three types are called in SQL. -/
def word (t : Nat) : ByteArray := match t with
  | 1 => ⟨#[73, 78, 84, 69, 71, 69, 82]⟩
  | 2 => ⟨#[82, 69, 65, 76]⟩
  | _ => ⟨#[84, 69, 88, 84]⟩

set_option maxHeartbeats 400000 in
theorem sql_any (t : Nat) (h1 : 1 ≤ t) (h3 : t ≤ 3) (w : World) (hc : w.cell? ⟨0, t * 3 + 1, none⟩ = some (.string (word t))) :
    Calls Tryd.prog 4 #[.int .u8 t] w fun e w' => e = .returned (.string (word t)) ∧ w' = w := by
  have hc3 : t = 1 ∨ t = 2 ∨ t = 3 := by omega
  rcases hc3 with rfl | rfl | rfl
  all_goals
    simp only [word] at *
    go_enter Tryd.func4, Tryd.ntmps4
    go_wp2
    go_ret
    exact ⟨rfl, rfl⟩

theorem upper_word (t : Nat) (h1 : 1 ≤ t) (h3 : t ≤ 3) (w : World) : Calls Tryd.prog 5 #[.string (word t)] w fun e w' => e = .returned (.bool true) ∧ w' = w := by
  have hc3 : t = 1 ∨ t = 2 ∨ t = 3 := by omega
  rcases hc3 with rfl | rfl | rfl
  · exact upper_int w
  · exact upper_real w
  · exact upper_text w

theorem word_eq (t u : Nat) (h1 : 1 ≤ t) (h3 : t ≤ 3) (g1 : 1 ≤ u) (g3 : u ≤ 3) : ((word t).toList == (word u).toList) = ((t : Int) == (u : Int)) := by
  have hc3 : t = 1 ∨ t = 2 ∨ t = 3 := by omega
  have gc3 : u = 1 ∨ u = 2 ∨ u = 3 := by omega
  rcases hc3 with rfl | rfl | rfl <;> rcases gc3 with rfl | rfl | rfl <;> decide +kernel

set_option maxHeartbeats 1000000 in
theorem law3 (t u : Int) (ht0 : 0 ≤ t) (hu0 : 0 ≤ u) (w : World) (hc : ∀ k : Nat, 1 ≤ k → k ≤ 3 → w.cell? ⟨0, k * 3 + 1, none⟩ = some (.string (word k))) :
    Calls Tryd.prog 3 #[.int .u8 t, .int .u8 u] w fun e w' => e = .returned (.bool true) ∧ w' = w := by
  by_cases c1 : t < 1
  · go_enter Tryd.func3, Tryd.ntmps3
    go_wp2
    go_ret
    exact ⟨rfl, rfl⟩
  by_cases c2 : 3 < t
  · go_enter Tryd.func3, Tryd.ntmps3
    go_wp2
    go_ret
    exact ⟨rfl, rfl⟩
  by_cases c3 : u < 1
  · go_enter Tryd.func3, Tryd.ntmps3
    go_wp2
    go_ret
    exact ⟨rfl, rfl⟩
  by_cases c4 : 3 < u
  · go_enter Tryd.func3, Tryd.ntmps3
    go_wp2
    go_ret
    exact ⟨rfl, rfl⟩
  obtain ⟨t, rfl⟩ := Int.eq_ofNat_of_zero_le ht0
  obtain ⟨u, rfl⟩ := Int.eq_ofNat_of_zero_le hu0
  have s1 := sql_any t (by omega) (by omega) w (hc t (by omega) (by omega))
  have s2 := sql_any u (by omega) (by omega) w (hc u (by omega) (by omega))
  have p1 := upper_word t (by omega) (by omega) w
  have p2 := upper_word u (by omega) (by omega) w
  have he := word_eq t u (by omega) (by omega) (by omega) (by omega)
  clear hc
  generalize word t = a at *
  generalize word u = b at *
  go_enter Tryd.func3, Tryd.ntmps3
  go_wp2_with fail
  refine s1.mono ?_
  rintro e w1 ⟨rfl, rfl⟩
  go_wp2_with fail
  refine s2.mono ?_
  rintro e w2 ⟨rfl, rfl⟩
  go_wp2_with fail
  refine p1.mono ?_
  rintro e w3 ⟨rfl, rfl⟩
  go_wp2_with fail
  refine p2.mono ?_
  rintro e w4 ⟨rfl, rfl⟩
  go_wp2
  go_ret
  exact ⟨by simp, rfl⟩

end Go.Proofs.Qxb6613358aDoor
