import Derived.Test.Qxb6608735aW18
namespace Go.Proofs.Qxb6608735a
open Go.RowKit
set_option linter.unusedVariables false

theorem chain_in_K {L : List ByteArray} {O K : List Int} {A : List (Int × Int)} {T : List ByteArray} {s : ByteArray} {l : List Int} (h : lookL L O K A T s = some l) : ∀ z ∈ l, z ∈ K := by
  intro z hz
  unfold lookL at h
  split at h
  · unfold atL at h
    split at h
    · cases h
    · split at h
      · cases h; cases hz
      · split at h
        · cases h
        · cases h
          unfold chainL at hz
          split at hz
          · unfold seg at hz
            exact List.mem_of_mem_drop (List.mem_of_mem_take hz)
          · cases hz
  · split at h
    · cases h; cases hz
    · cases h

theorem acc_in_K {L : List ByteArray} {O K : List Int} {A : List (Int × Int)} {T E : List ByteArray} : ∀ z ∈ (accL (lookL L O K A T) E).getD [], z ∈ K := by
  intro z hz
  cases h : accL (lookL L O K A T) E with
  | none => rw [h] at hz; cases hz
  | some l =>
    rw [h] at hz
    obtain ⟨s, hs, m, hm, hx⟩ := (accL_mem _ z E l h).1 hz
    exact chain_in_K hm z hx

theorem acc_keys {L : List ByteArray} {O K lo hi : List Int} {T D E : List ByteArray} (hf : Fine L O K lo hi T D) : ∀ z ∈ (accL (lookL L O K (lo.zip hi) T) E).getD [], 0 ≤ wrap32 z ∧ wrap32 z < D.length :=
  fun z hz => hf.keys z (acc_in_K z hz)

/-- The ids that a chain names, and whether there is one, in two variables. -/
def ViaAs (r : Option (List Int)) (D : List ByteArray) (a : Option Addr) (n c : Nat) (b : Bool) (w : World) : Prop := b = r.isSome ∧ n = (r.getD []).length ∧ Strs w (.slice a n c) (idsL D (r.getD []))
theorem ViaAs.below {r : Option (List Int)} {D : List ByteArray} {a : Option Addr} {n c : Nat} {b : Bool} {w w' : World} (h : ViaAs r D a n c b w) (hb : Below w.heap.size w w') : ViaAs r D a n c b w' := ⟨h.1, h.2.1, h.2.2.below hb⟩
def ViaIn (r : Option (List Int)) (D : List ByteArray) (s t : Value) (w : World) : Prop := ∃ a n c b, s = .slice a n c ∧ t = .bool b ∧ ViaAs r D a n c b w
theorem ViaAs.cut {r : Option (List Int)} {D : List ByteArray} {a : Option Addr} {n c : Nat} {b : Bool} {w : World} (h : ViaAs r D a n c b w) : ViaIn r D (.slice a n c) (.bool b) w := ⟨a, n, c, b, rfl, rfl, h⟩
theorem ViaIn.as {r : Option (List Int)} {D : List ByteArray} {s t : Value} {w : World} (h : ViaIn r D s t w) : ∃ a n c b, s = .slice a n c ∧ t = .bool b ∧ ViaAs r D a n c b w := h
def ViaRes (r : Option (List Int)) (D : List ByteArray) (e : Ending) (w' : World) : Prop := ∃ a n c b, e = .returned (.tuple #[.slice a n c, .bool b]) ∧ ViaAs r D a n c b w'
theorem ViaRes.as {r : Option (List Int)} {D : List ByteArray} {e : Ending} {w' : World} (h : ViaRes r D e w') : ∃ a n c b, e = .returned (.tuple #[.slice a n c, .bool b]) ∧ ViaAs r D a n c b w' := h

theorem via_res {r : Option (List Int)} {D : List ByteArray} {e : Ending} {w' : World} (h : ∃ v', e = .returned (.tuple #[v', .bool r.isSome]) ∧ Strs w' v' (idsL D (r.getD []))) : ViaRes r D e w' := by
  obtain ⟨v', rfl, hv⟩ := h
  obtain ⟨a, c, rfl, hc, hl, hx⟩ := hv
  refine ⟨a, _, c, _, rfl, rfl, by simp [idsL], ⟨a, c, rfl, hc, hl, hx⟩⟩

theorem via_same {w : World} {vL vO vK vlo vhi vT vD vC : Value} {L : List ByteArray} {O K lo hi : List Int} {T D C : List ByteArray} {bx hx hb ab nb cb im : Nat} {vh va vl vo vi : Value}
    (h : Ready w vL vO vK vlo vhi vT vD vC L O K lo hi T D C bx hx hb ab nb cb im vh va vl vo vi) (hf : Fine L O K lo hi T D) (mL : L.length ≤ 4096) (mO : O.length ≤ 4096) (mK : K.length ≤ 4096) (mlo : lo.length ≤ 4096) (mT : T.length ≤ 4096) (mD : D.length ≤ 4096)
    (E : List ByteArray) (mE : E.length ≤ 8192) (a1 : Option Addr) (n1 c1 : Nat) (a2 : Option Addr) (n2 c2 : Nat) (a3 : Option Addr) (n3 c3 : Nat)
    (h2 : I64s w (.slice a2 n2 c2) ((posL L E).map (fun p : Nat => (p : Int)))) (h3 : Names w (.slice a3 n3 c3) (othL L E)) :
    Calls Try.prog 36 #[.agg #[.pointer (some ⟨hb, 0, none⟩)], .agg #[.slice a1 n1 c1, .pointer (some ⟨ab, 0, none⟩), .slice a2 n2 c2, .slice a3 n3 c3]] w fun e w' => ViaRes (accL (lookL L O K (lo.zip hi) T) E) D e w' ∧ Below w.heap.size w w' := by
  have hzl : (lo.zip hi).length = lo.length := by rw [List.length_zip, hf.even]; omega
  refine (via_any h.hold a1 n1 c1 _ a2 n2 c2 a3 n3 c3 (accL (lookL L O K (lo.zip hi) T) E) (fun w1 hb1 => ?_) (accL_short mK mE) mD (acc_keys hf)).mono fun e w' ⟨v', h1, h2, h3⟩ => ⟨via_res ⟨v', h1, h2⟩, h3⟩
  rw [← cond_eq]
  exact condChain_same (h.hold.below hb1) _ _ _ _ _ (h2.below hb1) (h3.below hb1) mO (by omega) mL mT mK (Nat.le_trans (posL_length _ _) mE) (Nat.le_trans (othL_length _ _) mE) (fun o ho => by rw [hzl]; exact hf.owner o ho) (fun x hx => by
    obtain ⟨j, hj⟩ := List.getElem?_of_mem hx
    obtain ⟨g1, g2⟩ := List.getElem?_zip_eq_some.1 hj
    have := hf.chain j x.1 x.2 g1 g2
    exact ⟨this.1, this.2.1, this.2.2.1⟩)

theorem via_other {w : World} {vL vO vK vlo vhi vT vD vC : Value} {L : List ByteArray} {O K lo hi : List Int} {T D C : List ByteArray} {bx hx hb ab nb cb im : Nat} {vh va vl vo vi : Value}
    (h : Ready w vL vO vK vlo vhi vT vD vC L O K lo hi T D C bx hx hb ab nb cb im vh va vl vo vi) (hf : Fine L O K lo hi T D) (mL : L.length ≤ 4096) (mO : O.length ≤ 4096) (mK : K.length ≤ 4096) (mlo : lo.length ≤ 4096) (mT : T.length ≤ 4096) (mD : D.length ≤ 4096)
    (E : List ByteArray) (mE : E.length ≤ 8192) (cab : Nat) (cs : List Value) (hne : ab ≠ cab) (hr : Row w cab 76 cs) (a1 : Option Addr) (n1 c1 : Nat) (a2 : Option Addr) (n2 c2 : Nat) (a3 : Option Addr) (n3 c3 : Nat)
    (h1 : Names w (.slice a1 n1 c1) E) :
    Calls Try.prog 36 #[.agg #[.pointer (some ⟨hb, 0, none⟩)], .agg #[.slice a1 n1 c1, .pointer (some ⟨cab, 0, none⟩), .slice a2 n2 c2, .slice a3 n3 c3]] w fun e w' => ViaRes (accL (lookL L O K (lo.zip hi) T) E) D e w' ∧ Below w.heap.size w w' := by
  have hzl : (lo.zip hi).length = lo.length := by rw [List.length_zip, hf.even]; omega
  refine (via_any h.hold a1 n1 c1 _ a2 n2 c2 a3 n3 c3 (accL (lookL L O K (lo.zip hi) T) E) (fun w1 hb1 => ?_) (accL_short mK mE) mD (acc_keys hf)).mono fun e w' ⟨v', h1, h2, h3⟩ => ⟨via_res ⟨v', h1, h2⟩, h3⟩
  exact condChain_other (h.hold.below hb1) cab cs _ _ _ E (h1.below hb1) hne (hr.below hr.lt hb1) mO (by omega) mL mT mK mE (fun o ho => by rw [hzl]; exact hf.owner o ho) (fun x hx => by
    obtain ⟨j, hj⟩ := List.getElem?_of_mem hx
    obtain ⟨g1, g2⟩ := List.getElem?_zip_eq_some.1 hj
    have := hf.chain j x.1 x.2 g1 g2
    exact ⟨this.1, this.2.1, this.2.2.1⟩)

/-- The answer hangs on which attributes are asked, not on their order or number. -/
theorem acc_same_members {L : List ByteArray} {O K lo hi : List Int} {T D E F : List ByteArray} (hf : Fine L O K lo hi T D) (h : ∀ s, s ∈ E ↔ s ∈ F) : accL (lookL L O K (lo.zip hi) T) E = accL (lookL L O K (lo.zip hi) T) F := by
  cases h1 : accL (lookL L O K (lo.zip hi) T) E with
  | none =>
    cases h2 : accL (lookL L O K (lo.zip hi) T) F with
    | none => rfl
    | some l =>
      have g := (accL_some_iff _ F).1 (by rw [h2]; rfl)
      have : (accL (lookL L O K (lo.zip hi) T) E).isSome = true := (accL_some_iff _ E).2 fun s hs => g s ((h s).1 hs)
      rw [h1] at this; cases this
  | some l =>
    have g := (accL_some_iff _ E).1 (by rw [h1]; rfl)
    have hs : (accL (lookL L O K (lo.zip hi) T) F).isSome = true := (accL_some_iff _ F).2 fun s hs => g s ((h s).2 hs)
    cases h2 : accL (lookL L O K (lo.zip hi) T) F with
    | none => rw [h2] at hs; cases hs
    | some m =>
      congr 1
      refine asc_ext (accL_asc _ (lookL_asc hf) E l h1) (accL_asc _ (lookL_asc hf) F m h2) fun x => ?_
      rw [accL_mem _ x E l h1, accL_mem _ x F m h2]
      exact ⟨fun ⟨s, hs, r⟩ => ⟨s, (h s).1 hs, r⟩, fun ⟨s, hs, r⟩ => ⟨s, (h s).2 hs, r⟩⟩

theorem idsL_length (D : List ByteArray) (l : List Int) : (idsL D l).length = l.length := by unfold idsL; rw [List.length_map]

end Go.Proofs.Qxb6608735a
