import Derived.Test.Qxb6608754aFmtModel2
namespace Go.Proofs.Qxb6608754aFmt
open Go.RowKit
set_option linter.unusedVariables false

theorem cat_list (b : UInt8) (s : ByteArray) : ((⟨#[b]⟩ : ByteArray) ++ s).data.toList = b :: s.data.toList := by simp
theorem cat_size (b : UInt8) (s : ByteArray) : ((⟨#[b]⟩ : ByteArray) ++ s).size = s.size + 1 := by
  rw [ByteArray.size_append]; show 1 + s.size = s.size + 1; omega

theorem fits_neg (r : Option Nat) : fits true r = none := by
  cases r with
  | none => rfl
  | some v => simp [fits]

theorem vid_minus (l : List UInt8) : vid (45 :: l) = none := by
  rw [vid_eq]
  by_cases h : l = []
  · exact modelL_empty (by simp [digitsOf, h])
  · rw [modelL_eq (by simpa [digitsOf] using h)]
    rw [show negOf (45 :: l) = true from rfl, fits_neg]

theorem vid_plus_bad {l : List UInt8} (h : ∀ c, l[0]? = some c → ¬ (48 ≤ c.toNat ∧ c.toNat ≤ 57)) : vid (43 :: l) = none := by
  rw [vid_eq]
  cases l with
  | nil => exact modelL_empty rfl
  | cons x r =>
    refine modelL_none (by simp [digitsOf]) ?_
    show sat 0 (digitsOf (43 :: x :: r)) = none
    rw [show digitsOf (43 :: x :: r) = x :: r from rfl]
    exact sat_not (h x (by simp))

theorem vid_plus {l : List UInt8} {c : UInt8} (h0 : l[0]? = some c) (h : 48 ≤ c.toNat ∧ c.toNat ≤ 57) : vid (43 :: l) = modelL l := by
  rw [vid_eq]
  obtain ⟨h1, h2⟩ := first_plain h0 (by omega) (by omega)
  have hn : l ≠ [] := fun e => by rw [e] at h0; cases h0
  rw [modelL_eq (by simpa [digitsOf] using hn), modelL_eq (by rw [h1]; exact hn), h1, h2]
  rfl

theorem vid_zero {l : List UInt8} (h : ∀ c, l[0]? = some c → c.toNat ≠ 43 ∧ c.toNat ≠ 45) : vid (48 :: l) = modelL l := by
  rw [vid_eq]
  have hd : digitsOf (48 :: l) = 48 :: l := rfl
  rw [modelL_eq (by rw [hd]; simp), hd, show negOf (48 :: l) = false from rfl, sat_step (by decide)]
  show fits false (sat 0 l) = modelL l
  cases l with
  | nil => rfl
  | cons x r =>
    obtain ⟨h1, h2⟩ := h x (by simp)
    obtain ⟨g1, g2⟩ := first_plain (l := x :: r) (c := x) (by simp) h1 h2
    rw [modelL_eq (by rw [g1]; simp), g1, g2]
    rfl

set_option maxHeartbeats 400000 in
theorem bytes5 (s : ByteArray) (hs : s.size ≤ 9223372036854775807) (w : World) :
    Calls Tryf.prog 5 #[.string s] w fun e w' => ∃ b, e = .returned (.bool b) ∧ w' = w ∧ (b = true → s.size ≤ 1048576) := by
  go_enter Tryf.func5, Tryf.ntmps5
  by_cases h : 1048576 < s.size
  · go_wp2
    go_ret
    exact ⟨false, rfl, rfl, fun h => by cases h⟩
  · go_wp2
    go_ret
    exact ⟨true, rfl, rfl, fun _ => by omega⟩

set_option maxHeartbeats 400000 in
theorem bytes8 (s : ByteArray) (hs : s.size ≤ 9223372036854775807) (w : World) :
    Calls Tryf.prog 8 #[.string s] w fun e w' => ∃ b, e = .returned (.bool b) ∧ w' = w ∧ (b = true → s.size ≤ 1048576) := by
  go_enter Tryf.func8, Tryf.ntmps8
  by_cases h : 1048576 < s.size
  · go_wp2
    go_ret
    exact ⟨false, rfl, rfl, fun h => by cases h⟩
  · go_wp2
    go_ret
    exact ⟨true, rfl, rfl, fun _ => by omega⟩

def Yes (w : World) (e : Ending) (w' : World) : Prop := e = .returned (.bool true) ∧ Below w.heap.size w w'

theorem zz_pre (F : Stop.Interp) (b : UInt8) (s : ByteArray) (hs : s.size ≤ 1048576) (w : World) (r : Option Nat) (hr : vid (b :: s.data.toList) = r) (hF : F.answers w.tape) (hS : Sent w) (q : Nat) :
    Calls Tryf.prog 6 #[.string (⟨#[b]⟩ ++ s)] (w.drewN q) fun e w' => VidRes r e ∧ Below w.heap.size w w' := by
  have hF' : F.answers (w.drewN q).tape := hF
  have hS' : Sent (w.drewN q) := hS
  have h := zzparse_any F ((⟨#[b]⟩ : ByteArray) ++ s) (by rw [cat_size]; omega) (w.drewN q) hF' hS'
  rw [cat_list, hr] at h
  exact h.mono fun e w' h => ⟨h.1, ⟨h.2.os, h.2.tape, h.2.output, h.2.size, h.2.block⟩⟩

theorem drewN_below {w w' : World} (h : Below w.heap.size w w') (q : Nat) : Below w.heap.size w (w'.drewN q) := ⟨h.os, h.tape, h.output, h.size, h.block⟩

set_option maxHeartbeats 4000000 in
set_option maxRecDepth 100000 in
theorem law3 (F : Stop.Interp) (s : ByteArray) (hs : s.size ≤ 9223372036854775807) (w : World) (hF : F.answers w.tape) (hS : Sent w) :
    Calls Tryf.prog 3 #[.string s] w fun e w' => Yes w e w' := by
  have HS := hide hS
  have HF := hide hF
  have HB5 := hide (bytes5 s hs w)
  clear hS hF
  go_enter Tryf.func3, Tryf.ntmps3
  go_wp2_with fail
  refine HB5.out.mono ?_
  rintro e w1 ⟨b, rfl, rfl, hb⟩
  clear HB5
  cases b with
  | false =>
    go_wp2
    go_ret
    exact ⟨rfl, Below.refl _ _⟩
  | true =>
    have hb1 := hb rfl
    clear hb
    by_cases c1 : 65536 < s.size
    · go_wp2
      go_ret
      exact ⟨rfl, Below.refl _ _⟩
    go_wp2_with fail
    refine (zzparse_any F s (by omega) w1 HF.out HS.out).mono ?_
    rintro e w2 ⟨hr, hb2⟩
    rw [vid_eq] at hr
    have HS2 := hide (HS.out.below hb2)
    have HF2 := hide (show F.answers w2.tape by rw [hb2.tape]; exact HF.out)
    have B2 := hide hb2
    have HM := hide (model_any s (by omega) w2)
    clear hb2 HS HF
    cases hv : modelL s.data.toList with
    | none =>
      rw [hv] at hr
      have HV := hide hv
      obtain ⟨t, p, rfl⟩ := hr
      go_wp2_with fail
      refine HM.out.mono ?_
      rintro e w3 ⟨hm, q, rfl⟩
      rw [HV.out] at hm
      cases hm
      clear HM hv
      have HZ := hide (fun h q => zz_pre F 48 s (by omega) w2 _ ((vid_zero h).trans HV.out) HF2.out HS2.out q)
      clear HF2 HS2 HV
      by_cases h0 : s.size = 0
      · have HFI : Hid (∀ c, s.data.toList[0]? = some c → c.toNat ≠ 43 ∧ c.toNat ≠ 45) := fun c hc => by
          have := (List.getElem?_eq_some_iff.1 hc).1
          rw [Array.length_toList] at this
          have : 0 < s.size := this
          omega
        have hse : s = ByteArray.empty := ByteArray.size_eq_zero_iff.1 h0
        have e48 : (⟨#[48]⟩ : ByteArray) ++ s = ⟨#[48]⟩ := by rw [hse]; rfl
        have HZ2 := hide (HZ.out HFI.out)
        rw [e48] at HZ2
        clear e48
        go_wp2_with fail
        refine (HZ2.out _).mono ?_
        rintro e w4 ⟨hr4, hb4⟩
        obtain ⟨t4, p4, rfl⟩ := hr4
        have B4 := hide (Below.then B2.out hb4)
        clear hb4 HZ HZ2 B2
        go_wp2
        go_ret
        exact ⟨rfl, B4.out⟩
      · obtain ⟨c, hc⟩ := byte_at s 0 (by omega)
        have hix : ∀ w : World, (Instr.index 9 (.string s) (.int .i64 0)).run Tryf.prog w = .ok (.int .u8 (c.toNat : Int)) w := idx_at s 0 c hc
        have HC := hide hc
        clear hc
        have hse : ¬ s = ByteArray.empty := fun h => by rw [h] at h0; exact h0 rfl
        have hsz : 0 < s.size := by omega
        by_cases ha : c.toNat = 43
        · go_wp2
          go_ret
          exact ⟨rfl, drewN_below B2.out _⟩
        by_cases hb : c.toNat = 45
        · go_wp2
          go_ret
          exact ⟨rfl, drewN_below B2.out _⟩
        have ha' : ((c.toNat : Int) == 43) = false := by simp; omega
        have hb' : ((c.toNat : Int) == 45) = false := by simp; omega
        have HFI : Hid (∀ c, s.data.toList[0]? = some c → c.toNat ≠ 43 ∧ c.toNat ≠ 45) := fun c' hc' => by
          rw [HC.out] at hc'
          cases hc'
          exact ⟨ha, hb⟩
        go_wp2_with fail
        all_goals try (exfalso; omega)
        refine (HZ.out HFI.out _).mono ?_
        rintro e w4 ⟨hr4, hb4⟩
        obtain ⟨t4, p4, rfl⟩ := hr4
        have B4 := hide (Below.then B2.out hb4)
        clear hb4 HZ B2
        go_wp2
        go_ret
        exact ⟨rfl, B4.out⟩
    | some v =>
      rw [hv] at hr
      have HV := hide hv
      cases hr
      go_wp2_with fail
      refine HM.out.mono ?_
      rintro e w3 ⟨hm, q, rfl⟩
      rw [HV.out] at hm
      cases hm
      clear HM hv
      have HZ := hide (fun h q => zz_pre F 48 s (by omega) w2 _ ((vid_zero h).trans HV.out) HF2.out HS2.out q)
      clear HF2 HS2 HV
      by_cases h0 : s.size = 0
      · have HFI : Hid (∀ c, s.data.toList[0]? = some c → c.toNat ≠ 43 ∧ c.toNat ≠ 45) := fun c hc => by
          have := (List.getElem?_eq_some_iff.1 hc).1
          rw [Array.length_toList] at this
          have : 0 < s.size := this
          omega
        have hse : s = ByteArray.empty := ByteArray.size_eq_zero_iff.1 h0
        have e48 : (⟨#[48]⟩ : ByteArray) ++ s = ⟨#[48]⟩ := by rw [hse]; rfl
        have HZ2 := hide (HZ.out HFI.out)
        rw [e48] at HZ2
        clear e48
        go_wp2_with fail
        refine (HZ2.out _).mono ?_
        rintro e w4 ⟨hr4, hb4⟩
        cases hr4
        have B4 := hide (Below.then B2.out hb4)
        clear hb4 HZ HZ2 B2
        go_wp2
        go_ret
        exact ⟨rfl, B4.out⟩
      · obtain ⟨c, hc⟩ := byte_at s 0 (by omega)
        have hix : ∀ w : World, (Instr.index 9 (.string s) (.int .i64 0)).run Tryf.prog w = .ok (.int .u8 (c.toNat : Int)) w := idx_at s 0 c hc
        have HC := hide hc
        clear hc
        have hse : ¬ s = ByteArray.empty := fun h => by rw [h] at h0; exact h0 rfl
        have hsz : 0 < s.size := by omega
        by_cases ha : c.toNat = 43
        · go_wp2
          go_ret
          exact ⟨rfl, drewN_below B2.out _⟩
        by_cases hb : c.toNat = 45
        · go_wp2
          go_ret
          exact ⟨rfl, drewN_below B2.out _⟩
        have ha' : ((c.toNat : Int) == 43) = false := by simp; omega
        have hb' : ((c.toNat : Int) == 45) = false := by simp; omega
        have HFI : Hid (∀ c, s.data.toList[0]? = some c → c.toNat ≠ 43 ∧ c.toNat ≠ 45) := fun c' hc' => by
          rw [HC.out] at hc'
          cases hc'
          exact ⟨ha, hb⟩
        go_wp2_with fail
        all_goals try (exfalso; omega)
        refine (HZ.out HFI.out _).mono ?_
        rintro e w4 ⟨hr4, hb4⟩
        cases hr4
        have B4 := hide (Below.then B2.out hb4)
        clear hb4 HZ B2
        go_wp2
        go_ret
        exact ⟨rfl, B4.out⟩

end Go.Proofs.Qxb6608754aFmt
