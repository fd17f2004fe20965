import Derived.Test.Qxb6608754aFmtModel
namespace Go.Proofs.Qxb6608754aFmt
open Go.RowKit
set_option linter.unusedVariables false

theorem idx_at (s : ByteArray) (k : Nat) (c : UInt8) (h : s.data.toList[k]? = some c) (w : World) : (Instr.index 9 (.string s) (.int .i64 (k : Int))).run Tryf.prog w = .ok (.int .u8 (c.toNat : Int)) w := by
  rw [run_index_string w 9 s .i64 (k : Int) Tryf.underlying9]
  obtain ⟨hk, hv⟩ := List.getElem?_eq_some_iff.1 h
  have hk' : k < s.size := by rw [Array.length_toList] at hk; exact hk
  rw [dif_pos ⟨by omega, by omega⟩]
  subst hv
  rfl

theorem byte_at (s : ByteArray) (k : Nat) (h : k < s.size) : ∃ c, s.data.toList[k]? = some c := by
  have h' : k < s.data.toList.length := by rw [Array.length_toList]; exact h
  exact ⟨_, List.getElem?_eq_getElem h'⟩

theorem drop_of_get {l : List UInt8} {k : Nat} {c : UInt8} (h : l[k]? = some c) : l.drop k = c :: l.drop (k + 1) := by
  obtain ⟨hk, hv⟩ := List.getElem?_eq_some_iff.1 h
  rw [List.drop_eq_getElem_cons hk, hv]

theorem sat_step {c : UInt8} {m : Nat} {r : List UInt8} (h : 48 ≤ c.toNat ∧ c.toNat ≤ 57) : sat m (c :: r) = sat (if m ≤ 4094 then m * 10 + (c.toNat - 48) else m) r := by
  rw [sat, if_pos h]
theorem sat_not {c : UInt8} {m : Nat} {r : List UInt8} (h : ¬ (48 ≤ c.toNat ∧ c.toNat ≤ 57)) : sat m (c :: r) = none := by
  rw [sat, if_neg h]
theorem modelL_empty {l : List UInt8} (h : digitsOf l = []) : modelL l = none := by unfold modelL; rw [if_pos h]
theorem modelL_eq {l : List UInt8} (h : digitsOf l ≠ []) : modelL l = fits (negOf l) (sat 0 (digitsOf l)) := by unfold modelL; rw [if_neg h]
theorem modelL_none {l : List UInt8} (h : digitsOf l ≠ []) (h2 : sat 0 (digitsOf l) = none) : modelL l = none := by rw [modelL_eq h, h2]; rfl

theorem first_plain {l : List UInt8} {c : UInt8} (h : l[0]? = some c) (h1 : c.toNat ≠ 43) (h2 : c.toNat ≠ 45) : digitsOf l = l.drop 0 ∧ negOf l = false := by
  cases l with
  | nil => simp at h
  | cons x r =>
    simp at h; subst h
    simp [digitsOf, negOf, h1, h2]
theorem first_sign {l : List UInt8} {c : UInt8} (h : l[0]? = some c) (h1 : c.toNat = 43 ∨ c.toNat = 45) : digitsOf l = l.drop 1 ∧ negOf l = decide (c.toNat = 45) := by
  cases l with
  | nil => simp at h
  | cons x r =>
    simp at h; subst h
    simp [digitsOf, negOf, h1]

set_option maxHeartbeats 8000000 in
set_option maxRecDepth 100000 in
/-- The law's own model. -/
theorem model_any (s : ByteArray) (hs : s.size ≤ 1099511627776) (w : World) :
    Calls Tryf.prog 7 #[.string s] w fun e w' => ModRes (modelL s.data.toList) e ∧ ∃ q, w' = w.drewN q := by
  go_enter Tryf.func7, Tryf.ntmps7
  by_cases h0 : s.size = 0
  · have hl : s.data.toList = [] := List.eq_nil_of_length_eq_zero (by rw [Array.length_toList]; exact h0)
    go_wp2
    go_ret2
    exact ⟨by rw [hl]; rfl, 0, rfl⟩
  · obtain ⟨c, hc⟩ : ∃ c, s.data.toList[0]? = some c := byte_at s 0 (by omega)
    have hix : ∀ w : World, (Instr.index 9 (.string s) (.int .i64 0)).run Tryf.prog w = .ok (.int .u8 (c.toNat : Int)) w := idx_at s 0 c hc
    have HL0 := hide hc
    clear hc
    have hsz : 0 < s.size := by omega
    clear h0
    have hsl : s.data.toList.length = s.size := Array.length_toList
    by_cases ha : c.toNat = 43
    · have hdg : Hid (digitsOf s.data.toList = s.data.toList.drop 1) := (first_sign HL0.out (.inl ha)).1
      have hng : Hid (negOf s.data.toList = false) := by show negOf s.data.toList = false; rw [(first_sign HL0.out (.inl ha)).2, ha]; rfl
      clear HL0
      by_cases he : s.size ≤ 1
      · go_wp2
        go_ret2
        refine ⟨?_, 0, rfl⟩
        rw [modelL_empty (by rw [hdg.out]; exact List.drop_eq_nil_of_le (by omega))]
        rfl
      · have HNE : Hid (digitsOf s.data.toList ≠ []) := fun e => by
          rw [hdg.out] at e
          have := congrArg List.length e
          rw [List.length_drop, List.length_nil] at this
          omega
        go_wp2_with fail
        all_goals try (exfalso; omega)
        clear hix
        go_loopw [4, 6] (fun i v wr => ∃ k m : Nat, 1 ≤ k ∧ k ≤ s.size ∧ i = .int .i64 k ∧ v = .int .i64 m ∧ m ≤ 50000 ∧ sat m (s.data.toList.drop k) = sat 0 (s.data.toList.drop 1) ∧ ∃ q, wr = w.drewN q) (fun i _ _ => s.size - (intOf i).toNat)
        case atStart => exact ⟨1, 0, Nat.le_refl _, by omega, rfl, rfl, by omega, rfl, 0, rfl⟩
        case round =>
          obtain ⟨k, m, hk0, hk, rfl, rfl, hm, hsat, q, rfl⟩ := hrel
          have HSAT := hide hsat
          clear hsat
          by_cases hlt : k < s.size
          · obtain ⟨c, hc⟩ : ∃ c, s.data.toList[k]? = some c := byte_at s k hlt
            have hix : ∀ w : World, (Instr.index 9 (.string s) (.int .i64 (k : Int))).run Tryf.prog w = .ok (.int .u8 (c.toNat : Int)) w := idx_at s k c hc
            have HD := hide (drop_of_get hc)
            have hc255 : c.toNat ≤ 255 := by have := c.toNat_lt; omega
            clear hc
            generalize hcn : c.toNat = cn at *
            have HCN := hide hcn
            clear hcn
            have hnd : Hid (¬ (48 ≤ cn ∧ cn ≤ 57) → modelL s.data.toList = none) := fun h => by
              refine modelL_none HNE.out ?_
              rw [hdg.out, ← HSAT.out, HD.out]
              exact sat_not (by rw [HCN.out]; exact h)
            by_cases h1 : cn < 48
            · go_wp2
              go_ret2
              exact ⟨by rw [hnd.out (by omega)]; rfl, _, rfl⟩
            · by_cases h2 : 57 < cn
              · go_wp2
                go_ret2
                exact ⟨by rw [hnd.out (by omega)]; rfl, _, rfl⟩
              · by_cases h3 : m ≤ 4094
                · go_wp2
                  go_roundw
                  case rel =>
                    refine ⟨k + 1, m * 10 + (cn - 48), by omega, by omega, by go_num, by go_num, by omega, ?_, q, rfl⟩
                    rw [← HSAT.out, HD.out, sat_step (by rw [HCN.out]; omega), if_pos h3, HCN.out]
                  case measure => simp [intOf]; omega
                · go_wp2
                  go_roundw
                  case rel =>
                    refine ⟨k + 1, m, by omega, by omega, by go_num, rfl, by omega, ?_, q, rfl⟩
                    rw [← HSAT.out, HD.out, sat_step (by rw [HCN.out]; omega), if_neg h3]
                  case measure => simp [intOf]; omega
          · have hmod : Hid (modelL s.data.toList = fits false (some m)) := by
              show modelL s.data.toList = fits false (some m)
              have hs0 : sat m (s.data.toList.drop k) = some m := by
                rw [List.drop_eq_nil_of_le (by rw [Array.length_toList]; exact Nat.le_of_not_lt hlt)]; rfl
              rw [modelL_eq HNE.out, hng.out, hdg.out, ← HSAT.out, hs0]
            clear HSAT
            by_cases h1 : m < 1
            · go_wp2
              go_ret2
              exact ⟨by rw [hmod.out]; simp only [fits]; rw [if_pos (by omega)]; rfl, _, rfl⟩
            · by_cases h2 : 4094 < m
              · go_wp2
                go_ret2
                exact ⟨by rw [hmod.out]; simp only [fits]; rw [if_pos (by omega)]; rfl, _, rfl⟩
              · go_wp2
                go_ret2
                exact ⟨by rw [hmod.out]; simp only [fits]; rw [if_neg (by rintro (h | h | h) <;> first | omega | cases h)]; rfl, _, rfl⟩
    · by_cases hb : c.toNat = 45
      · have hdg : Hid (digitsOf s.data.toList = s.data.toList.drop 1) := (first_sign HL0.out (.inr hb)).1
        have hng : Hid (negOf s.data.toList = true) := by show negOf s.data.toList = true; rw [(first_sign HL0.out (.inr hb)).2, hb]; rfl
        clear HL0
        by_cases he : s.size ≤ 1
        · go_wp2
          go_ret2
          refine ⟨?_, 0, rfl⟩
          rw [modelL_empty (by rw [hdg.out]; exact List.drop_eq_nil_of_le (by omega))]
          rfl
        · have HNE : Hid (digitsOf s.data.toList ≠ []) := fun e => by
            rw [hdg.out] at e
            have := congrArg List.length e
            rw [List.length_drop, List.length_nil] at this
            omega
          go_wp2_with fail
          all_goals try (exfalso; omega)
          clear hix
          go_loopw [4, 6] (fun i v wr => ∃ k m : Nat, 1 ≤ k ∧ k ≤ s.size ∧ i = .int .i64 k ∧ v = .int .i64 m ∧ m ≤ 50000 ∧ sat m (s.data.toList.drop k) = sat 0 (s.data.toList.drop 1) ∧ ∃ q, wr = w.drewN q) (fun i _ _ => s.size - (intOf i).toNat)
          case atStart => exact ⟨1, 0, Nat.le_refl _, by omega, rfl, rfl, by omega, rfl, 0, rfl⟩
          case round =>
            obtain ⟨k, m, hk0, hk, rfl, rfl, hm, hsat, q, rfl⟩ := hrel
            have HSAT := hide hsat
            clear hsat
            by_cases hlt : k < s.size
            · obtain ⟨c, hc⟩ : ∃ c, s.data.toList[k]? = some c := byte_at s k hlt
              have hix : ∀ w : World, (Instr.index 9 (.string s) (.int .i64 (k : Int))).run Tryf.prog w = .ok (.int .u8 (c.toNat : Int)) w := idx_at s k c hc
              have HD := hide (drop_of_get hc)
              have hc255 : c.toNat ≤ 255 := by have := c.toNat_lt; omega
              clear hc
              generalize hcn : c.toNat = cn at *
              have HCN := hide hcn
              clear hcn
              have hnd : Hid (¬ (48 ≤ cn ∧ cn ≤ 57) → modelL s.data.toList = none) := fun h => by
                refine modelL_none HNE.out ?_
                rw [hdg.out, ← HSAT.out, HD.out]
                exact sat_not (by rw [HCN.out]; exact h)
              by_cases h1 : cn < 48
              · go_wp2
                go_ret2
                exact ⟨by rw [hnd.out (by omega)]; rfl, _, rfl⟩
              · by_cases h2 : 57 < cn
                · go_wp2
                  go_ret2
                  exact ⟨by rw [hnd.out (by omega)]; rfl, _, rfl⟩
                · by_cases h3 : m ≤ 4094
                  · go_wp2
                    go_roundw
                    case rel =>
                      refine ⟨k + 1, m * 10 + (cn - 48), by omega, by omega, by go_num, by go_num, by omega, ?_, q, rfl⟩
                      rw [← HSAT.out, HD.out, sat_step (by rw [HCN.out]; omega), if_pos h3, HCN.out]
                    case measure => simp [intOf]; omega
                  · go_wp2
                    go_roundw
                    case rel =>
                      refine ⟨k + 1, m, by omega, by omega, by go_num, rfl, by omega, ?_, q, rfl⟩
                      rw [← HSAT.out, HD.out, sat_step (by rw [HCN.out]; omega), if_neg h3]
                    case measure => simp [intOf]; omega
            · have hmod : Hid (modelL s.data.toList = fits true (some m)) := by
                show modelL s.data.toList = fits true (some m)
                have hs0 : sat m (s.data.toList.drop k) = some m := by
                  rw [List.drop_eq_nil_of_le (by rw [Array.length_toList]; exact Nat.le_of_not_lt hlt)]; rfl
                rw [modelL_eq HNE.out, hng.out, hdg.out, ← HSAT.out, hs0]
              clear HSAT
              go_wp2
              go_ret2
              exact ⟨by rw [hmod.out]; rfl, _, rfl⟩
      · have hdg : Hid (digitsOf s.data.toList = s.data.toList.drop 0) := (first_plain HL0.out ha hb).1
        have hng : Hid (negOf s.data.toList = false) := (first_plain HL0.out ha hb).2
        clear HL0
        have he : ¬ s.size ≤ 0 := by omega
        have hse : ¬ s = ByteArray.empty := fun h => by rw [h] at hsz; exact absurd hsz (by simp)
        have ha' : ((c.toNat : Int) == 43) = false := by simp; omega
        have hb' : ((c.toNat : Int) == 45) = false := by simp; omega
        · have HNE : Hid (digitsOf s.data.toList ≠ []) := fun e => by
            rw [hdg.out] at e
            have := congrArg List.length e
            rw [List.length_drop, List.length_nil] at this
            omega
          go_wp2_with fail
          all_goals try (exfalso; omega)
          clear hix
          go_loopw [4, 6] (fun i v wr => ∃ k m : Nat, 0 ≤ k ∧ k ≤ s.size ∧ i = .int .i64 k ∧ v = .int .i64 m ∧ m ≤ 50000 ∧ sat m (s.data.toList.drop k) = sat 0 (s.data.toList.drop 0) ∧ ∃ q, wr = w.drewN q) (fun i _ _ => s.size - (intOf i).toNat)
          case atStart => exact ⟨0, 0, Nat.le_refl _, by omega, rfl, rfl, by omega, rfl, 0, rfl⟩
          case round =>
            obtain ⟨k, m, hk0, hk, rfl, rfl, hm, hsat, q, rfl⟩ := hrel
            have HSAT := hide hsat
            clear hsat
            by_cases hlt : k < s.size
            · obtain ⟨c, hc⟩ : ∃ c, s.data.toList[k]? = some c := byte_at s k hlt
              have hix : ∀ w : World, (Instr.index 9 (.string s) (.int .i64 (k : Int))).run Tryf.prog w = .ok (.int .u8 (c.toNat : Int)) w := idx_at s k c hc
              have HD := hide (drop_of_get hc)
              have hc255 : c.toNat ≤ 255 := by have := c.toNat_lt; omega
              clear hc
              generalize hcn : c.toNat = cn at *
              have HCN := hide hcn
              clear hcn
              have hnd : Hid (¬ (48 ≤ cn ∧ cn ≤ 57) → modelL s.data.toList = none) := fun h => by
                refine modelL_none HNE.out ?_
                rw [hdg.out, ← HSAT.out, HD.out]
                exact sat_not (by rw [HCN.out]; exact h)
              by_cases h1 : cn < 48
              · go_wp2
                go_ret2
                exact ⟨by rw [hnd.out (by omega)]; rfl, _, rfl⟩
              · by_cases h2 : 57 < cn
                · go_wp2
                  go_ret2
                  exact ⟨by rw [hnd.out (by omega)]; rfl, _, rfl⟩
                · by_cases h3 : m ≤ 4094
                  · go_wp2
                    go_roundw
                    case rel =>
                      refine ⟨k + 1, m * 10 + (cn - 48), by omega, by omega, by go_num, by go_num, by omega, ?_, q, rfl⟩
                      rw [← HSAT.out, HD.out, sat_step (by rw [HCN.out]; omega), if_pos h3, HCN.out]
                    case measure => simp [intOf]; omega
                  · go_wp2
                    go_roundw
                    case rel =>
                      refine ⟨k + 1, m, by omega, by omega, by go_num, rfl, by omega, ?_, q, rfl⟩
                      rw [← HSAT.out, HD.out, sat_step (by rw [HCN.out]; omega), if_neg h3]
                    case measure => simp [intOf]; omega
            · have hmod : Hid (modelL s.data.toList = fits false (some m)) := by
                show modelL s.data.toList = fits false (some m)
                have hs0 : sat m (s.data.toList.drop k) = some m := by
                  rw [List.drop_eq_nil_of_le (by rw [Array.length_toList]; exact Nat.le_of_not_lt hlt)]; rfl
                rw [modelL_eq HNE.out, hng.out, hdg.out, ← HSAT.out, hs0]
              clear HSAT
              by_cases h1 : m < 1
              · go_wp2
                go_ret2
                exact ⟨by rw [hmod.out]; simp only [fits]; rw [if_pos (by omega)]; rfl, _, rfl⟩
              · by_cases h2 : 4094 < m
                · go_wp2
                  go_ret2
                  exact ⟨by rw [hmod.out]; simp only [fits]; rw [if_pos (by omega)]; rfl, _, rfl⟩
                · go_wp2
                  go_ret2
                  exact ⟨by rw [hmod.out]; simp only [fits]; rw [if_neg (by rintro (h | h | h) <;> first | omega | cases h)]; rfl, _, rfl⟩

end Go.Proofs.Qxb6608754aFmt
