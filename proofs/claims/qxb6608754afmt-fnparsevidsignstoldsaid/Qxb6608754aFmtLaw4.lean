import Derived.Test.Qxb6608754aFmtLaw3
import Derived.BigRegion
namespace Go.Proofs.Qxb6608754aFmt
open Go.RowKit
set_option linter.unusedVariables false

set_option maxHeartbeats 4000000 in
set_option maxRecDepth 100000 in
theorem law4 (F : Stop.Interp) (s : ByteArray) (hs : s.size ≤ 9223372036854775807) (w : World) (hF : F.answers w.tape) (hS : Sent w) :
    Calls Tryf.prog 4 #[.string s] w fun e w' => Yes w e w' := by
  have HS := hide hS
  have HF := hide hF
  have HB5 := hide (bytes8 s hs w)
  clear hS hF
  go_enter Tryf.func4, Tryf.ntmps4
  go_wp2_with fail
  refine HB5.out.mono ?_
  rintro e w1 ⟨b, rfl, rfl, hb⟩
  clear HB5
  cases b with
  | false =>
    go_wp2
    go_ret
    exact ⟨rfl, Below.refl _ _⟩
  | true =>
    have hb1 := hb rfl
    clear hb
    by_cases c1 : 65536 < s.size
    · go_wp2
      go_ret
      exact ⟨rfl, Below.refl _ _⟩
    go_wp2_with fail
    refine (zzparse_any F s (by omega) w1 HF.out HS.out).mono ?_
    rintro e w2 ⟨hr, hb2⟩
    rw [vid_eq] at hr
    have HS2 := hide (HS.out.below hb2)
    have HF2 := hide (show F.answers w2.tape by rw [hb2.tape]; exact HF.out)
    have B2 := hide hb2
    have HM := hide (model_any s (by omega) w2)
    clear hb2 HS HF
    cases hv : modelL s.data.toList with
    | none =>
      rw [hv] at hr
      have HV := hide hv
      obtain ⟨t, p, rfl⟩ := hr
      go_wp2_with fail
      refine HM.out.mono ?_
      rintro e w3 ⟨hm, q, rfl⟩
      rw [HV.out] at hm
      cases hm
      clear HM hv
      have HS3 := hide (show Sent (w2.drewN q) from HS2.out)
      have HF3 := hide (show F.answers (w2.drewN q).tape from HF2.out)
      have B3 := hide (drewN_below B2.out q)
      clear HF2 HS2 B2
      generalize w2.drewN q = w3 at *
      by_cases h0 : s.size = 0
      · have hne : ∀ c, s.data.toList[0]? = some c → ¬ (48 ≤ c.toNat ∧ c.toNat ≤ 57) := fun c hc => by
          have := (List.getElem?_eq_some_iff.1 hc).1
          rw [Array.length_toList] at this
          have : 0 < s.size := this
          omega
        have hse : s = ByteArray.empty := ByteArray.size_eq_zero_iff.1 h0
        have e43 : (⟨#[43]⟩ : ByteArray) ++ s = ⟨#[43]⟩ := by rw [hse]; rfl
        have e45 : (⟨#[45]⟩ : ByteArray) ++ s = ⟨#[45]⟩ := by rw [hse]; rfl
        have hmn : Hid (modelL s.data.toList = none) := by rw [hse]; rfl

        have HP := hide (zz_pre F 43 s (by omega) w3 (none) (vid_plus_bad hne) HF3.out HS3.out 0)
        rw [e43] at HP
        clear hne
        go_wp2_with fail
        refine HP.out.mono ?_
        rintro e w4 ⟨hr4, hb4⟩
        obtain ⟨t4, p4, rfl⟩ := hr4
        have HQ := hide (zz_pre F 45 s (by omega) w4 none (vid_minus _) (by rw [hb4.tape]; exact HF3.out) (HS3.out.below hb4) 0)
        rw [e45] at HQ
        have B4 := hide (Below.then B3.out hb4)
        clear hb4 HP B3 HS3 HF3 HV
        go_wp2_with fail
        refine HQ.out.mono ?_
        rintro e w5 ⟨hr5, hb5⟩
        obtain ⟨t5, p5, rfl⟩ := hr5
        have B5 := hide (Below.then B4.out hb5)
        clear hb5 HQ B4
        go_wp2
        go_ret
        exact ⟨rfl, B5.out⟩
      · obtain ⟨c, hc⟩ := byte_at s 0 (by omega)
        have hix : ∀ w : World, (Instr.index 9 (.string s) (.int .i64 0)).run Tryf.prog w = .ok (.int .u8 (c.toNat : Int)) w := idx_at s 0 c hc
        have HC := hide hc
        clear hc
        have hse : ¬ s = ByteArray.empty := fun h => by rw [h] at h0; exact h0 rfl
        have hsz : 0 < s.size := by omega
        have hc255 : c.toNat ≤ 255 := by have := c.toNat_lt; omega
        by_cases ha : c.toNat < 48
        · have HP := hide (zz_pre F 43 s (by omega) w3 (none) (vid_plus_bad (fun c' hc' => by rw [HC.out] at hc'; cases hc'; omega)) HF3.out HS3.out 0)
          go_wp2_with fail
          refine HP.out.mono ?_
          rintro e w4 ⟨hr4, hb4⟩
          obtain ⟨t4, p4, rfl⟩ := hr4
          have HQ := hide (zz_pre F 45 s (by omega) w4 none (vid_minus _) (by rw [hb4.tape]; exact HF3.out) (HS3.out.below hb4) 0)
          have B4 := hide (Below.then B3.out hb4)
          clear hb4 HP B3 HS3 HF3 HV
          go_wp2_with fail
          refine HQ.out.mono ?_
          rintro e w5 ⟨hr5, hb5⟩
          obtain ⟨t5, p5, rfl⟩ := hr5
          have B5 := hide (Below.then B4.out hb5)
          clear hb5 HQ B4
          go_wp2
          go_ret
          exact ⟨rfl, B5.out⟩
        by_cases hb : 57 < c.toNat
        · have HP := hide (zz_pre F 43 s (by omega) w3 (none) (vid_plus_bad (fun c' hc' => by rw [HC.out] at hc'; cases hc'; omega)) HF3.out HS3.out 0)
          go_wp2_with fail
          refine HP.out.mono ?_
          rintro e w4 ⟨hr4, hb4⟩
          obtain ⟨t4, p4, rfl⟩ := hr4
          have HQ := hide (zz_pre F 45 s (by omega) w4 none (vid_minus _) (by rw [hb4.tape]; exact HF3.out) (HS3.out.below hb4) 0)
          have B4 := hide (Below.then B3.out hb4)
          clear hb4 HP B3 HS3 HF3 HV
          go_wp2_with fail
          refine HQ.out.mono ?_
          rintro e w5 ⟨hr5, hb5⟩
          obtain ⟨t5, p5, rfl⟩ := hr5
          have B5 := hide (Below.then B4.out hb5)
          clear hb5 HQ B4
          go_wp2
          go_ret
          exact ⟨rfl, B5.out⟩
        have HP := hide (zz_pre F 43 s (by omega) w3 (none) ((vid_plus HC.out (by omega)).trans HV.out) HF3.out HS3.out 0)
        go_wp2_with fail
        refine HP.out.mono ?_
        rintro e w4 ⟨hr4, hb4⟩
        obtain ⟨t4, p4, rfl⟩ := hr4
        have HQ := hide (zz_pre F 45 s (by omega) w4 none (vid_minus _) (by rw [hb4.tape]; exact HF3.out) (HS3.out.below hb4) 0)
        have B4 := hide (Below.then B3.out hb4)
        clear hb4 HP B3 HS3 HF3 HV
        go_wp2_with fail
        refine HQ.out.mono ?_
        rintro e w5 ⟨hr5, hb5⟩
        obtain ⟨t5, p5, rfl⟩ := hr5
        have B5 := hide (Below.then B4.out hb5)
        clear hb5 HQ B4
        go_wp2_with fail
        go_region
        all_goals
          go_wp2
          go_ret
          exact ⟨rfl, drewN_below B5.out _⟩
    | some v =>
      rw [hv] at hr
      have HV := hide hv
      cases hr
      go_wp2_with fail
      refine HM.out.mono ?_
      rintro e w3 ⟨hm, q, rfl⟩
      rw [HV.out] at hm
      cases hm
      clear HM hv
      have HS3 := hide (show Sent (w2.drewN q) from HS2.out)
      have HF3 := hide (show F.answers (w2.drewN q).tape from HF2.out)
      have B3 := hide (drewN_below B2.out q)
      clear HF2 HS2 B2
      generalize w2.drewN q = w3 at *
      by_cases h0 : s.size = 0
      · have hne : ∀ c, s.data.toList[0]? = some c → ¬ (48 ≤ c.toNat ∧ c.toNat ≤ 57) := fun c hc => by
          have := (List.getElem?_eq_some_iff.1 hc).1
          rw [Array.length_toList] at this
          have : 0 < s.size := this
          omega
        have hse : s = ByteArray.empty := ByteArray.size_eq_zero_iff.1 h0
        have e43 : (⟨#[43]⟩ : ByteArray) ++ s = ⟨#[43]⟩ := by rw [hse]; rfl
        have e45 : (⟨#[45]⟩ : ByteArray) ++ s = ⟨#[45]⟩ := by rw [hse]; rfl
        have hmn : Hid (modelL s.data.toList = none) := by rw [hse]; rfl
        rw [HV.out] at hmn
        cases hmn.out
      · obtain ⟨c, hc⟩ := byte_at s 0 (by omega)
        have hix : ∀ w : World, (Instr.index 9 (.string s) (.int .i64 0)).run Tryf.prog w = .ok (.int .u8 (c.toNat : Int)) w := idx_at s 0 c hc
        have HC := hide hc
        clear hc
        have hse : ¬ s = ByteArray.empty := fun h => by rw [h] at h0; exact h0 rfl
        have hsz : 0 < s.size := by omega
        have hc255 : c.toNat ≤ 255 := by have := c.toNat_lt; omega
        by_cases ha : c.toNat < 48
        · have HP := hide (zz_pre F 43 s (by omega) w3 (none) (vid_plus_bad (fun c' hc' => by rw [HC.out] at hc'; cases hc'; omega)) HF3.out HS3.out 0)
          go_wp2_with fail
          refine HP.out.mono ?_
          rintro e w4 ⟨hr4, hb4⟩
          obtain ⟨t4, p4, rfl⟩ := hr4
          have HQ := hide (zz_pre F 45 s (by omega) w4 none (vid_minus _) (by rw [hb4.tape]; exact HF3.out) (HS3.out.below hb4) 0)
          have B4 := hide (Below.then B3.out hb4)
          clear hb4 HP B3 HS3 HF3 HV
          go_wp2_with fail
          refine HQ.out.mono ?_
          rintro e w5 ⟨hr5, hb5⟩
          obtain ⟨t5, p5, rfl⟩ := hr5
          have B5 := hide (Below.then B4.out hb5)
          clear hb5 HQ B4
          go_wp2
          go_ret
          exact ⟨rfl, B5.out⟩
        by_cases hb : 57 < c.toNat
        · have HP := hide (zz_pre F 43 s (by omega) w3 (none) (vid_plus_bad (fun c' hc' => by rw [HC.out] at hc'; cases hc'; omega)) HF3.out HS3.out 0)
          go_wp2_with fail
          refine HP.out.mono ?_
          rintro e w4 ⟨hr4, hb4⟩
          obtain ⟨t4, p4, rfl⟩ := hr4
          have HQ := hide (zz_pre F 45 s (by omega) w4 none (vid_minus _) (by rw [hb4.tape]; exact HF3.out) (HS3.out.below hb4) 0)
          have B4 := hide (Below.then B3.out hb4)
          clear hb4 HP B3 HS3 HF3 HV
          go_wp2_with fail
          refine HQ.out.mono ?_
          rintro e w5 ⟨hr5, hb5⟩
          obtain ⟨t5, p5, rfl⟩ := hr5
          have B5 := hide (Below.then B4.out hb5)
          clear hb5 HQ B4
          go_wp2
          go_ret
          exact ⟨rfl, B5.out⟩
        have HP := hide (zz_pre F 43 s (by omega) w3 (some v) ((vid_plus HC.out (by omega)).trans HV.out) HF3.out HS3.out 0)
        go_wp2_with fail
        refine HP.out.mono ?_
        rintro e w4 ⟨hr4, hb4⟩
        cases hr4
        have HQ := hide (zz_pre F 45 s (by omega) w4 none (vid_minus _) (by rw [hb4.tape]; exact HF3.out) (HS3.out.below hb4) 0)
        have B4 := hide (Below.then B3.out hb4)
        clear hb4 HP B3 HS3 HF3 HV
        go_wp2_with fail
        refine HQ.out.mono ?_
        rintro e w5 ⟨hr5, hb5⟩
        obtain ⟨t5, p5, rfl⟩ := hr5
        have B5 := hide (Below.then B4.out hb5)
        clear hb5 HQ B4
        go_wp2_with fail
        go_region
        all_goals
          go_wp2
          go_ret
          exact ⟨rfl, drewN_below B5.out _⟩

end Go.Proofs.Qxb6608754aFmt
