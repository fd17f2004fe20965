import Derived.Test.Qxb6608735aW14
import Derived.Test.Qxb6608735aAppend
import Derived.Test.Qxb6608735aPlain3
namespace Go.Proofs.Qxb6608735a
open Go.RowKit
set_option linter.unusedVariables false

/-- What zzModel answers: nil and false where one attribute is not held; else the ascending keys of all their chains. -/
def ModelRes (f : ByteArray → Option (List Int)) (C : List ByteArray) (e : Ending) (w' : World) : Prop :=
  ((∃ s ∈ C, f s = none) ∧ e = .returned (.tuple #[.slice none 0 0, .bool false])) ∨
  ((∀ s ∈ C, (f s).isSome = true) ∧ ∃ v keys, e = .returned (.tuple #[v, .bool true]) ∧ I64s w' v keys ∧ Asc keys ∧ ∀ x, x ∈ keys ↔ ∃ s ∈ C, ∃ l, f s = some l ∧ x ∈ l)

theorem falses_get (n j : Nat) : (List.replicate n false)[j]? ≠ some true := by
  rw [List.getElem?_replicate]
  split <;> simp

theorem made_bools (n : Nat) : (madeCells #[Value.bool false] n).toList = (List.replicate n false).map Value.bool := by
  rw [toList_madeCells_one]; simp

set_option maxHeartbeats 8000000 in
set_option maxRecDepth 100000 in
theorem model_any (bx : Nat) (vO vK vlo vhi vT vC : Value) (L : List ByteArray) (O K lo hi : List Int) (T D C : List ByteArray) (w : World)
    (hx : IdxMap strKey w bx L) (hO : I32s w vO O) (hK : I64s w vK K) (hlo : I32s w vlo lo) (hhi : I32s w vhi hi) (hT : Strs w vT T) (hC : Strs w vC C) (hf : Fine L O K lo hi T D)
    (mL : L.length ≤ 4096) (mO : O.length ≤ 4096) (mK : K.length ≤ 4096) (mlo : lo.length ≤ 4096) (mT : T.length ≤ 4096) (mC : C.length ≤ 8192)
    (wO : ∀ o ∈ O, -2147483648 ≤ o ∧ o ≤ 2147483647) :
    Calls Try.prog 31 #[.map (some bx), vO, vK, vlo, vhi, vT, vC] w fun e w' => ModelRes (lookL L O K (lo.zip hi) T) C e w' ∧ Below w.heap.size w w' := by
  obtain ⟨aO, cO, rfl, hcO, hcellO⟩ := hO.open1
  obtain ⟨aK, cK, rfl, hcK, hcellK⟩ := hK.open1
  obtain ⟨alo, clo, rfl, hclo, hcelllo⟩ := hlo.open1
  obtain ⟨ahi, chi, rfl, hchi, hcellhi⟩ := hhi.open1
  obtain ⟨aT, cT, rfl, hcT, hcellT⟩ := hT.open1
  obtain ⟨aC, cC, rfl, hcC, hcellC⟩ := hC.open1
  clear hO hK hlo hhi hT hC
  generalize hnO : O.length = nO at *
  generalize hnK : K.length = nK at *
  generalize hnlo : lo.length = nlo at *
  generalize hnhi : hi.length = nhi at *
  generalize hnT : T.length = nT at *
  generalize hnC : C.length = nC at *
  have heven := hf.even
  rw [hnlo, hnhi] at heven
  subst heven
  have NO := hide hnO
  have NK := hide hnK
  have Nlo := hide hnlo
  have Nhi := hide hnhi
  have NT := hide hnT
  have NC := hide hnC
  have CO := hide hcellO
  have CK := hide hcellK
  have Clo := hide hcelllo
  have Chi := hide hcellhi
  have CT := hide hcellT
  have CC := hide hcellC
  have WO := hide wO
  have HX := hide hx
  have HF := hide hf
  clear hnO hnK hnlo hnhi hnT hnC hcellO hcellK hcelllo hcellhi hcellT hcellC wO hx hf
  have hmm := make_map 100 9 4 Try.underlying100
  have hmk1 := make_run 101 4 1 1 _ Try.underlying101 Try.info4 (by omega) nlo (by omega)
  have hmk2 := make_run 101 4 1 1 _ Try.underlying101 Try.info4 (by omega) nK (by omega)
  go_enter Try.func31, Try.ntmps31
  go_wp2
  go_loopw [17] (fun i wr => ∃ k : Nat, k ≤ nT ∧ i = .int .i64 k ∧ SetMap wr w.heap.size (T.take k) ∧ Below w.heap.size w wr) (fun i _ => nT - (intOf i).toNat)
  case atStart => exact ⟨0, Nat.zero_le _, rfl, ⟨#[], 0, by rw [Go.heap_alloc_new], by simp, by simp⟩, (Below.refl _ _).alloc (Nat.le_refl _) _⟩
  case round =>
    obtain ⟨k, hk, rfl, hset, hb⟩ := hrel
    have HSET := hide hset
    have HB := hide hb
    clear hset hb
    by_cases hlt : k < nT
    · obtain ⟨z, hz⟩ := get_of_lt NT.out hlt
      obtain ⟨b, off, rfl, hbl, g1⟩ := CT.out k z hz
      have g1' : wr.cell? ⟨b, off + k, none⟩ = some (.string z) := (HB.out.cell (p := ⟨b, off + k, none⟩) hbl).trans g1
      obtain ⟨w1, hup, hset1, hg1⟩ := HSET.out.put z
      have HS1 := hide hset1
      have HG1 := hide hg1
      have HZ := hide hz
      clear hz g1 hset1 hg1
      go_wp2
      go_roundw
      case rel =>
        refine ⟨k + 1, by omega, by go_num, ?_, HB.out.grown HG1.out HB.out.size (fun q hq => by cases hq; exact Nat.le_refl _)⟩
        rw [take_snoc HZ.out]; exact HS1.out
      case measure => simp [intOf]; omega
    · have h1 := HSET.out
      rw [take_all NT.out (by omega)] at h1
      have HSETT := hide h1
      clear h1 HSET
      go_wp2
      rename World => w1
      clear hmm hmk1
      go_loopw [19] (fun i wr => ∃ (k2 : Nat) (us : List Bool), k2 ≤ nC ∧ i = .int .i64 k2 ∧ Row wr w1.heap.size 4 (us.map Value.bool) ∧ us.length = nlo ∧ (∀ j, us[j]? = some true ↔ Used L (C.take k2) O j) ∧ (∀ s ∈ C.take k2, (lookL L O K (lo.zip hi) T s).isSome = true) ∧ Below w1.heap.size w1 wr) (fun i _ => nC - (intOf i).toNat)
      case atStart =>
        refine ⟨0, List.replicate nlo false, Nat.zero_le _, rfl, ?_, by simp, fun j => ⟨fun h => absurd h (falses_get _ _), fun ⟨s, hs, _⟩ => by simp at hs⟩, by simp, (Below.refl _ _).alloc (Nat.le_refl _) _⟩
        rw [← made_bools]; exact Row.made _ _ _
      case round =>
        obtain ⟨k2, us, hk2, rfl, hru, hlu, huu, hall, hb2⟩ := hrel
        have HRU := hide hru
        have HLU := hide hlu
        have HUU := hide huu
        have HALL := hide hall
        have HB2 := hide hb2
        clear hru hlu huu hall hb2
        by_cases hlt2 : k2 < nC
        · obtain ⟨z, hz⟩ := get_of_lt NC.out hlt2
          obtain ⟨b, off, rfl, hbl, g1⟩ := CC.out k2 z hz
          have hbw : Below w.heap.size w wr := HB.out.trans (HB2.out.mono HB.out.size)
          have g1' : wr.cell? ⟨b, off + k2, none⟩ = some (.string z) := (hbw.cell (p := ⟨b, off + k2, none⟩) hbl).trans g1
          have hlk := (HX.out.below HX.out.lt hbw).lookup z
          have hlk2 := (HSETT.out.below HSETT.out.lt HB2.out).lookup z
          have HZ := hide hz
          have HBW := hide hbw
          clear hz g1 hbw
          cases hp : pos L z with
          | none =>
            rw [hp] at hlk
            simp only [Option.getD_none, Option.isSome_none] at hlk
            have HP := hide hp
            clear hp
            cases hpt : (pos T z).isSome with
            | false =>
              rw [hpt] at hlk2
              have HPT := hide hpt
              clear hpt
              go_wp2
              go_ret2
              refine ⟨.inl ⟨⟨z, List.mem_of_getElem? HZ.out, ?_⟩, rfl⟩, HBW.out⟩
              unfold lookL
              rw [HP.out]
              simp [HPT.out]
            | true =>
              rw [hpt] at hlk2
              have HPT := hide hpt
              clear hpt
              go_wp2
              go_roundw
              case rel =>
                refine ⟨k2 + 1, us, by omega, by go_num, HRU.out, HLU.out, fun j => (HUU.out j).trans (used_same HZ.out (fun p o h1 => by rw [HP.out] at h1; cases h1) j).symm, ?_, HB2.out⟩
                rw [take_snoc HZ.out]
                intro s hs
                rcases List.mem_append.1 hs with hs | hs
                · exact HALL.out s hs
                · rw [List.mem_singleton.1 hs]
                  unfold lookL
                  rw [HP.out]
                  simp [HPT.out]
              case measure => simp [intOf]; omega
          | some p =>
            rw [hp] at hlk
            simp only [Option.getD_some, Option.isSome_some] at hlk
            have hpl := pos_lt hp
            have HP := hide hp
            clear hp hlk2
            by_cases hpo : p < nO
            · obtain ⟨o, ho⟩ := get_of_lt NO.out hpo
              obtain ⟨b', off', rfl, hbl', g2⟩ := CO.out p o ho
              have g2' : wr.cell? ⟨b', off' + p, none⟩ = some (.int .i32 o) := (HBW.out.cell (p := ⟨b', off' + p, none⟩) hbl').trans g2
              have ro := WO.out o (List.mem_of_getElem? ho)
              have hol := HF.out.owner o (List.mem_of_getElem? ho)
              rw [Nlo.out] at hol
              have hlook : lookL L O K (lo.zip hi) T z = if o = -1 then some [] else if o < 0 then none else some (chainL K (lo.zip hi) o) := by
                unfold lookL
                rw [HP.out]
                unfold atL
                simp only [ho]
              have HLOOK := hide hlook
              have HOo := hide ho
              clear ho g2 hlook
              have hpo' : (p : Int) < (nO : Int) := by omega
              by_cases d1 : o < -1
              · go_wp2
                go_ret2
                refine ⟨.inl ⟨⟨z, List.mem_of_getElem? HZ.out, ?_⟩, rfl⟩, HBW.out⟩
                rw [HLOOK.out, if_neg (by omega), if_pos (by omega)]
              by_cases d2 : 0 ≤ o
              · obtain ⟨o, rfl⟩ := Int.eq_ofNat_of_zero_le d2
                have hol' : o < nlo := by omega
                obtain ⟨ou, hou⟩ := get_of_lt (k := o) HLU.out hol'
                have g3 : wr.cell? ⟨w1.heap.size, o, none⟩ = some (.bool ou) := by rw [HRU.out.cell]; simp [hou]
                have g4 : wr.frozen? ⟨w1.heap.size, o, none⟩ = false := HRU.out.frozen _
                clear hou
                go_wp2
                go_roundw
                case rel =>
                  refine ⟨k2 + 1, us.set o true, by omega, by go_num, ?_, by simpa using HLU.out, fun j => ?_, ?_, HB2.out.setCell (Nat.le_refl _) _⟩
                  · have := HRU.out.set o (.bool true)
                    rw [List.map_set]; exact this
                  · rw [set_true (by rw [HLU.out]; exact hol'), used_more HZ.out HP.out HOo.out, HUU.out j]
                  · rw [take_snoc HZ.out]
                    intro s hs
                    rcases List.mem_append.1 hs with hs | hs
                    · exact HALL.out s hs
                    · rw [List.mem_singleton.1 hs, HLOOK.out, if_neg (by omega), if_neg (by omega)]; rfl
                case measure => simp [intOf]; omega
              · have e : o = -1 := by omega
                subst e
                go_wp2
                go_roundw
                case rel =>
                  refine ⟨k2 + 1, us, by omega, by go_num, HRU.out, HLU.out, fun j => (HUU.out j).trans (used_same HZ.out (fun p' o' h1 h2 => by rw [HP.out] at h1; cases h1; rw [HOo.out] at h2; cases h2; omega) j).symm, ?_, HB2.out⟩
                  rw [take_snoc HZ.out]
                  intro s hs
                  rcases List.mem_append.1 hs with hs | hs
                  · exact HALL.out s hs
                  · rw [List.mem_singleton.1 hs, HLOOK.out, if_pos rfl]; rfl
                case measure => simp [intOf]; omega
            · have hpo' : (nO : Int) ≤ (p : Int) := by omega
              go_wp2
              go_ret2
              refine ⟨.inl ⟨⟨z, List.mem_of_getElem? HZ.out, ?_⟩, rfl⟩, HBW.out⟩
              have hnone : O[p]? = none := List.getElem?_eq_none (by rw [NO.out]; omega)
              unfold lookL
              rw [HP.out]
              unfold atL
              simp [hnone]
        · have h2 := HUU.out
          have h3 := HALL.out
          rw [take_all NC.out (by omega)] at h2 h3
          have HU := hide h2
          have HALLC := hide h3
          clear h2 h3 HUU HALL
          go_wp2
          rename World => w2
          have hbw2 : Below w.heap.size w w2 := HB.out.trans (HB2.out.mono HB.out.size)
          have HBW2 := hide hbw2
          clear hbw2 hmk2
          go_loopw [23] (fun i wr => ∃ (k3 : Nat) (ms : List Bool), k3 ≤ nlo ∧ i = .int .i64 k3 ∧ Row wr w2.heap.size 4 (ms.map Value.bool) ∧ ms.length = nK ∧ (∀ t, t < nK → (ms[t]? = some true ↔ Marked us lo hi k3 t)) ∧ Below w2.heap.size w2 wr) (fun i _ => nlo - (intOf i).toNat)
          case atStart =>
            refine ⟨0, List.replicate nK false, Nat.zero_le _, rfl, ?_, by simp, fun t ht => ⟨fun h => absurd h (falses_get _ _), fun h => absurd h (marked_zero _ _ _ _)⟩, (Below.refl _ _).alloc (Nat.le_refl _) _⟩
            rw [← made_bools]; exact Row.made _ _ _
          case round =>
            obtain ⟨k3, ms, hk3, rfl, hrm, hlm, hmm, hb3⟩ := hrel
            have HRM := hide hrm
            have HLM := hide hlm
            have HMM := hide hmm
            have HB3 := hide hb3
            clear hrm hlm hmm hb3
            by_cases hlt3 : k3 < nlo
            · obtain ⟨u, hu⟩ := get_of_lt HLU.out hlt3
              have gu : wr.cell? ⟨w1.heap.size, k3, none⟩ = some (.bool u) := by
                rw [(HRU.out.below HRU.out.lt HB3.out).cell]; simp [hu]
              have HUk := hide hu
              clear hu
              cases u with
              | false =>
                go_wp2
                go_roundw
                case rel => exact ⟨k3 + 1, ms, by omega, by go_num, HRM.out, HLM.out, fun t ht => (HMM.out t ht).trans (marked_skip (by rw [HUk.out]; simp) t).symm, HB3.out⟩
                case measure => simp [intOf]; omega
              | true =>
                obtain ⟨l, hl⟩ := get_of_lt Nlo.out hlt3
                obtain ⟨h, hh⟩ := get_of_lt Nhi.out hlt3
                obtain ⟨b1, off1, rfl, hbl1, g1⟩ := Clo.out k3 l hl
                obtain ⟨b2, off2, rfl, hbl2, g2⟩ := Chi.out k3 h hh
                have hch := HF.out.chain k3 l h hl hh
                obtain ⟨hc1, hc2, hc3, hc4⟩ := hch
                rw [NK.out] at hc3
                obtain ⟨l, rfl⟩ := Int.eq_ofNat_of_zero_le hc1
                obtain ⟨h, rfl⟩ := Int.eq_ofNat_of_zero_le (Int.le_trans hc1 hc2)
                have hbw3 : Below w.heap.size w wr := HBW2.out.trans (HB3.out.mono HBW2.out.size)
                have g1' : wr.cell? ⟨b1, off1 + k3, none⟩ = some (.int .i32 (l : Int)) := (hbw3.cell (p := ⟨b1, off1 + k3, none⟩) hbl1).trans g1
                have HLk := hide hl
                have HHk := hide hh
                have G2 := hide g2
                clear hl hh g1 g2 hc4 hbw3
                go_wp2
                clear g1' gu
                go_loopw [24] (fun i wr => ∃ (tt : Nat) (ns : List Bool), l ≤ tt ∧ tt ≤ h ∧ i = .int .i32 tt ∧ Row wr w2.heap.size 4 (ns.map Value.bool) ∧ ns.length = nK ∧ (∀ t, t < nK → (ns[t]? = some true ↔ Marked us lo hi k3 t ∨ (l ≤ t ∧ t < tt))) ∧ Below w2.heap.size w2 wr) (fun i _ => h - (intOf i).toNat)
                case atStart => exact ⟨l, ms, Nat.le_refl _, by omega, rfl, HRM.out, HLM.out, fun t ht => (HMM.out t ht).trans ⟨.inl, fun h => h.resolve_right (by omega)⟩, HB3.out⟩
                case round =>
                  obtain ⟨tt, ns, ht1, ht2, rfl, hrn, hln, hnn, hb4⟩ := hrel
                  have hbw4 : Below w.heap.size w wr := HBW2.out.trans (hb4.mono HBW2.out.size)
                  have g2' : wr.cell? ⟨b2, off2 + k3, none⟩ = some (.int .i32 (h : Int)) := (hbw4.cell (p := ⟨b2, off2 + k3, none⟩) hbl2).trans G2.out
                  have HRN := hide hrn
                  have HLN := hide hln
                  have HNN := hide hnn
                  have HB4 := hide hb4
                  clear hrn hln hnn hb4 hbw4
                  by_cases hlt4 : tt < h
                  · obtain ⟨ov, hov⟩ := get_of_lt (k := tt) HLN.out (by omega)
                    have g3 : wr.cell? ⟨w2.heap.size, tt, none⟩ = some (.bool ov) := by rw [HRN.out.cell]; simp [hov]
                    have g4 : wr.frozen? ⟨w2.heap.size, tt, none⟩ = false := HRN.out.frozen _
                    have htK : (tt : Int) < (nK : Int) := by omega
                    clear hov
                    go_wp2
                    go_roundw
                    case rel =>
                      refine ⟨tt + 1, ns.set tt true, by omega, by omega, by go_num, ?_, by simpa using HLN.out, fun t ht => ?_, HB4.out.setCell (Nat.le_refl _) _⟩
                      · have := HRN.out.set tt (.bool true)
                        rw [List.map_set]; exact this
                      · rw [set_true (by rw [HLN.out]; omega), HNN.out t ht]
                        constructor
                        · rintro (e | h1 | h1)
                          · exact .inr (by omega)
                          · exact .inl h1
                          · exact .inr (by omega)
                        · rintro (h1 | h1)
                          · exact .inr (.inl h1)
                          · by_cases e : t = tt
                            · exact .inl e
                            · exact .inr (.inr (by omega))
                    case measure => simp [intOf]; omega
                  · have e : tt = h := by omega
                    subst e
                    go_wp2
                    go_roundw
                    case rel =>
                      refine ⟨k3 + 1, ns, by omega, by go_num, HRN.out, HLN.out, fun t ht => ?_, HB4.out⟩
                      rw [HNN.out t ht, marked_more HUk.out HLk.out HHk.out]
                      constructor
                      · rintro (h1 | h1)
                        · exact .inl h1
                        · exact .inr (by omega)
                      · rintro (h1 | h1)
                        · exact .inl h1
                        · exact .inr (by omega)
                    case measure => simp [intOf]; omega
            · have e : k3 = nlo := by omega
              subst e
              go_wp2
              rename World => w3
              have HTOP := hide HMM.out
              clear HMM
              have hbw3 : Below w.heap.size w w3 := HBW2.out.trans (HB3.out.mono HBW2.out.size)
              have HBW3 := hide hbw3
              clear hbw3
              go_loopw [25, 26] (fun kv i wr => ∃ (k5 : Nat) (ks : List Int), k5 ≤ nK ∧ i = .int .i64 k5 ∧ wr.ownsRow w3.heap.size 2 1 kv ks.length (ks.map (Value.int .i64)) ∧ Asc ks ∧ (∀ x, x ∈ ks ↔ Took ms K k5 x) ∧ ks.length ≤ k5 ∧ Below w3.heap.size w3 wr) (fun _ i _ => nK - (intOf i).toNat)
              case atStart => exact ⟨0, [], Nat.zero_le _, rfl, World.ownsRow_nil _ _ _ _, List.Pairwise.nil, fun x => ⟨(fun h => by cases h), fun h => absurd h (took_zero _ _ _)⟩, Nat.le_refl _, Below.refl _ _⟩
              case round =>
                obtain ⟨k5, ks, hk5, rfl, hown, hasc, htook, hkl, hb5⟩ := hrel
                obtain ⟨ak, ck, rfl, hck, hcellk⟩ := (show Sl wr u25 1 ks.length (ks.map (Value.int .i64)) from ownsRow_sl hown).open1
                generalize hm5 : ks.length = m at *
                have HM5 := hide hm5
                have HCK := hide hcellk
                have HASC := hide hasc
                have HTOOK := hide htook
                have HB5 := hide hb5
                have HLP := hide (ownsRow_lt hown)
                have hsz5 := hb5.size
                obtain ⟨cells, HCE⟩ : ∃ cells, Hid (cells = ks.map (Value.int .i64)) := ⟨_, rfl⟩
                rw [← HCE.out] at hown
                clear hm5 hcellk hasc htook hb5
                by_cases hlt5 : k5 < nK
                · obtain ⟨mb, hmb⟩ := get_of_lt HLM.out hlt5
                  have gm : wr.cell? ⟨w2.heap.size, k5, none⟩ = some (.bool mb) := by
                    rw [(HRM.out.below HRM.out.lt HB5.out).cell]; simp [hmb]
                  obtain ⟨v, hv⟩ := get_of_lt NK.out hlt5
                  obtain ⟨bK, offK, rfl, hblK, gK⟩ := CK.out k5 v hv
                  have gK' : wr.cell? ⟨bK, offK + k5, none⟩ = some (.int .i64 v) := ((HB5.out.cell (p := ⟨bK, offK + k5, none⟩) (Nat.lt_of_lt_of_le hblK HBW3.out.size)).trans (HBW3.out.cell (p := ⟨bK, offK + k5, none⟩) hblK)).trans gK
                  have HMk := hide hmb
                  have HVk := hide hv
                  clear hmb hv gK
                  cases mb with
                  | false =>
                    go_wp2
                    go_roundw
                    case rel =>
                      refine ⟨k5 + 1, ks, by omega, by go_num, by rw [HM5.out, ← HCE.out]; exact hown, HASC.out, fun x => (HTOOK.out x).trans (took_skip (by rw [HMk.out]; simp) x).symm, by rw [HM5.out]; omega, HB5.out⟩
                    case measure => simp [intOf]; omega
                  | true =>
                    go_wp2
                    clear gm gK'
                    go_loop [28] (fun nn => ∃ n : Nat, n ≤ m ∧ nn = .int .i64 n ∧ ∀ i x, i < n → ks[i]? = some x → x < v) (fun nn => m - (intOf nn).toNat)
                    case atStart => exact ⟨0, Nat.zero_le _, rfl, fun i x hi => absurd hi (by omega)⟩
                    case round =>
                      obtain ⟨n, hnm, rfl, hltv⟩ := hrel
                      have HLTV := hide hltv
                      clear hltv
                      by_cases hlt6 : n < m
                      · obtain ⟨y, hy⟩ := get_of_lt HM5.out hlt6
                        obtain ⟨bk, offk, rfl, hblk, gk⟩ := HCK.out n y hy
                        have HYn := hide hy
                        clear hy
                        by_cases d1 : y < v
                        · go_wp2
                          go_round
                          case rel =>
                            refine ⟨n + 1, by omega, by go_num, fun i x hi hx => ?_⟩
                            by_cases e : i = n
                            · subst e; rw [HYn.out] at hx; cases hx; exact d1
                            · exact HLTV.out i x (by omega) hx
                          case measure => simp [intOf]; omega
                        by_cases d2 : y = v
                        · subst d2
                          go_wp2
                          go_roundw
                          case rel =>
                            refine ⟨k5 + 1, ks, by omega, by go_num, by rw [HM5.out, ← HCE.out]; exact hown, HASC.out, fun x => ?_, by rw [HM5.out]; omega, HB5.out⟩
                            rw [took_more HMk.out HVk.out, ← HTOOK.out x]
                            exact ⟨.inr, fun h => h.elim (fun e => by rw [e]; exact List.mem_of_getElem? HYn.out) id⟩
                          case measure => simp [intOf]; omega
                        · have d2' : (y == v) = false := by simp [d2]
                          have hgtv : ∀ x, ks[n]? = some x → v < x := by
                            intro x hx
                            rw [HYn.out] at hx; cases hx; omega
                          have HGTV := hide hgtv
                          clear hgtv
                          go_wp2_with (at_builtin; refine wpList_append_sl _ rfl _ _ 23 rfl w3.heap.size 2 (.int .i64 0) 1 8 Try.underlying23 Try.info2 rfl (by omega) (.slice (some ⟨bk, offk, none⟩) m ck) m cells rfl (hown.alloc _) (.slice (some ⟨wr.heap.size, 0, none⟩) 1 1) 1 [.int .i64 0] rfl (sl_new wr #[.int .i64 0] 2 rfl) (ints_oneCell .i64 [0]) (by unfold maxLen; omega) (by omega) (by simp; omega) ?_)
                          intro v1 w4 hown4 hgrow4 hat4
                          obtain ⟨g, cap4, rfl, hg1, hg2⟩ := hown4.form (by omega)
                          have hb4 : Below w3.heap.size w3 w4 := (HB5.out.alloc hsz5 _).grown hgrow4 (by simp; omega) (fun q hq => (HLP.out q hq).1)
                          have hown4' : w4.ownsRow w3.heap.size 2 1 (.slice (some ⟨g, 0, none⟩) (m + 1) cap4) (m + 1) ((ks ++ [0]).map (Value.int .i64)) := by rw [List.map_append, ← HCE.out]; exact hown4
                          have HO4 := hide hown4'
                          have HB4 := hide hb4
                          clear hown4 hown4' hgrow4 hat4 hb4 hown
                          go_wp2
                          go_loopw [29] (fun sv wr => ∃ (s : Nat) (ys : List Int), n ≤ s ∧ s ≤ m ∧ sv = .int .i64 s ∧ wr.ownsRow w3.heap.size 2 1 (.slice (some ⟨g, 0, none⟩) (m + 1) cap4) (m + 1) (ys.map (Value.int .i64)) ∧ ys.length = m + 1 ∧ (∀ j, j < s → ys[j]? = ks[j]?) ∧ (∀ j, s < j → j ≤ m → ys[j]? = ks[j - 1]?) ∧ Below w3.heap.size w3 wr) (fun sv _ => (intOf sv).toNat)
                          case atStart => exact ⟨m, ks ++ [0], hnm, Nat.le_refl _, by go_num, HO4.out, by simp [HM5.out], fun j hj => List.getElem?_append_left (by rw [HM5.out]; exact hj), fun j h1 h2 => absurd h1 (by omega), HB4.out⟩
                          case round =>
                            obtain ⟨s, ys, hs1, hs2, rfl, hoy, hly, hy1, hy2, hb6⟩ := hrel
                            have HOY := hide hoy
                            have HLY := hide hly
                            have HY1 := hide hy1
                            have HY2 := hide hy2
                            have HB6 := hide hb6
                            clear hoy hly hy1 hy2 hb6
                            by_cases hsn : n < s
                            · obtain ⟨s, rfl⟩ : ∃ r, s = r + 1 := ⟨s - 1, by omega⟩
                              obtain ⟨x, hx⟩ := get_of_lt (l := ys) (k := s) HLY.out (by omega)
                              obtain ⟨x', hx'⟩ := get_of_lt (l := ys) (k := s + 1) HLY.out (by omega)
                              have q1 : wr.cell? ⟨g, s, none⟩ = some (.int .i64 x) := by rw [HOY.out.cellAt s (by omega)]; simp [hx]
                              have q2 : wr.cell? ⟨g, s + 1, none⟩ = some (.int .i64 x') := by rw [HOY.out.cellAt (s + 1) (by omega)]; simp [hx']
                              have q3 : wr.frozen? ⟨g, s + 1, none⟩ = false := HOY.out.frozenAt _
                              have HXs := hide hx
                              clear hx hx'
                              go_wp2
                              go_roundw
                              case rel =>
                                have hst := (HOY.out.stored (s + 1) (.int .i64 x)).1
                                refine ⟨s, ys.set (s + 1) x, by omega, by omega, by go_num, by rw [List.map_set]; exact hst, by simpa using HLY.out, fun j hj => ?_, fun j h1 h2 => ?_, HB6.out.setCell hg1 _⟩
                                · rw [List.getElem?_set_ne (by omega)]; exact HY1.out j (by omega)
                                · by_cases e : j = s + 1
                                  · subst e
                                    have e2 : (ys.set (s + 1) x)[s + 1]? = some x := by
                                      rw [List.getElem?_set]; simp [HLY.out] <;> omega
                                    rw [e2, ← HXs.out, Nat.add_sub_cancel]
                                    exact HY1.out s (by omega)
                                  · rw [List.getElem?_set_ne (by omega)]; exact HY2.out j (by omega) h2
                              case measure => simp [intOf]
                            · have e : s = n := by omega
                              subst e
                              obtain ⟨x, hx⟩ := get_of_lt (l := ys) (k := s) HLY.out (by omega)
                              have q1 : wr.cell? ⟨g, s, none⟩ = some (.int .i64 x) := by rw [HOY.out.cellAt s (by omega)]; simp [hx]
                              have q3 : wr.frozen? ⟨g, s, none⟩ = false := HOY.out.frozenAt _
                              clear hx
                              go_wp2
                              go_roundw
                              case rel =>
                                have hst := (HOY.out.stored s (.int .i64 v)).1
                                have hput := putAt_of_shift (v := v) (by rw [HLY.out, HM5.out]) (by rw [HM5.out]; exact hnm) HY1.out (by rw [HM5.out]; exact HY2.out)
                                have hpl : (putAt ks s v).length = m + 1 := by rw [← hput]; simpa using HLY.out
                                refine ⟨k5 + 1, putAt ks s v, by omega, by go_num, by rw [← hput, List.map_set, List.length_set, HLY.out]; exact hst, putAt_asc HASC.out HLTV.out HGTV.out, fun x => ?_, by rw [hpl]; omega, HB6.out.setCell hg1 _⟩
                                rw [putAt_mem, HTOOK.out x, took_more HMk.out HVk.out]
                              case measure => simp [intOf]; omega
                      · have hgtv : ∀ x, ks[n]? = some x → v < x := by
                          intro x hx
                          have := (List.getElem?_eq_some_iff.1 hx).1
                          have := HM5.out
                          omega
                        have HGTV := hide hgtv
                        clear hgtv
                        go_wp2_with (at_builtin; refine wpList_append_sl _ rfl _ _ 23 rfl w3.heap.size 2 (.int .i64 0) 1 8 Try.underlying23 Try.info2 rfl (by omega) (.slice ak m ck) m cells rfl (hown.alloc _) (.slice (some ⟨wr.heap.size, 0, none⟩) 1 1) 1 [.int .i64 0] rfl (sl_new wr #[.int .i64 0] 2 rfl) (ints_oneCell .i64 [0]) (by unfold maxLen; omega) (by omega) (by simp; omega) ?_)
                        intro v1 w4 hown4 hgrow4 hat4
                        obtain ⟨g, cap4, rfl, hg1, hg2⟩ := hown4.form (by omega)
                        have hb4 : Below w3.heap.size w3 w4 := (HB5.out.alloc hsz5 _).grown hgrow4 (by simp; omega) (fun q hq => (HLP.out q hq).1)
                        have hown4' : w4.ownsRow w3.heap.size 2 1 (.slice (some ⟨g, 0, none⟩) (m + 1) cap4) (m + 1) ((ks ++ [0]).map (Value.int .i64)) := by rw [List.map_append, ← HCE.out]; exact hown4
                        have HO4 := hide hown4'
                        have HB4 := hide hb4
                        clear hown4 hown4' hgrow4 hat4 hb4 hown
                        go_wp2
                        go_loopw [29] (fun sv wr => ∃ (s : Nat) (ys : List Int), n ≤ s ∧ s ≤ m ∧ sv = .int .i64 s ∧ wr.ownsRow w3.heap.size 2 1 (.slice (some ⟨g, 0, none⟩) (m + 1) cap4) (m + 1) (ys.map (Value.int .i64)) ∧ ys.length = m + 1 ∧ (∀ j, j < s → ys[j]? = ks[j]?) ∧ (∀ j, s < j → j ≤ m → ys[j]? = ks[j - 1]?) ∧ Below w3.heap.size w3 wr) (fun sv _ => (intOf sv).toNat)
                        case atStart => exact ⟨m, ks ++ [0], hnm, Nat.le_refl _, by go_num, HO4.out, by simp [HM5.out], fun j hj => List.getElem?_append_left (by rw [HM5.out]; exact hj), fun j h1 h2 => absurd h1 (by omega), HB4.out⟩
                        case round =>
                          obtain ⟨s, ys, hs1, hs2, rfl, hoy, hly, hy1, hy2, hb6⟩ := hrel
                          have HOY := hide hoy
                          have HLY := hide hly
                          have HY1 := hide hy1
                          have HY2 := hide hy2
                          have HB6 := hide hb6
                          clear hoy hly hy1 hy2 hb6
                          by_cases hsn : n < s
                          · exfalso; omega
                          · have e : s = n := by omega
                            subst e
                            obtain ⟨x, hx⟩ := get_of_lt (l := ys) (k := s) HLY.out (by omega)
                            have q1 : wr.cell? ⟨g, s, none⟩ = some (.int .i64 x) := by rw [HOY.out.cellAt s (by omega)]; simp [hx]
                            have q3 : wr.frozen? ⟨g, s, none⟩ = false := HOY.out.frozenAt _
                            clear hx
                            go_wp2
                            go_roundw
                            case rel =>
                              have hst := (HOY.out.stored s (.int .i64 v)).1
                              have hput := putAt_of_shift (v := v) (by rw [HLY.out, HM5.out]) (by rw [HM5.out]; exact hnm) HY1.out (by rw [HM5.out]; exact HY2.out)
                              have hpl : (putAt ks s v).length = m + 1 := by rw [← hput]; simpa using HLY.out
                              refine ⟨k5 + 1, putAt ks s v, by omega, by go_num, by rw [← hput, List.map_set, List.length_set, HLY.out]; exact hst, putAt_asc HASC.out HLTV.out HGTV.out, fun x => ?_, by rw [hpl]; omega, HB6.out.setCell hg1 _⟩
                              rw [putAt_mem, HTOOK.out x, took_more HMk.out HVk.out]
                            case measure => simp [intOf]; omega
                · have e : k5 = nK := by omega
                  subst e
                  go_wp2
                  go_ret2
                  refine ⟨.inr ⟨HALLC.out, _, ks, rfl, by unfold I64s; rw [HM5.out, ← HCE.out]; exact ownsRow_sl hown, HASC.out, fun x => ?_⟩, HBW3.out.trans (HB5.out.mono HBW3.out.size)⟩
                  rw [HTOOK.out x, ← NK.out]
                  exact keys_mem (by rw [Nlo.out, Nhi.out]) (fun j l h h1 h2 => by have := HF.out.chain j l h h1 h2; exact ⟨this.1, this.2.1, this.2.2.1⟩) HF.out.owner HU.out (fun t ht => by rw [Nlo.out]; exact HTOP.out t (by rw [← NK.out]; exact ht))

end Go.Proofs.Qxb6608735a
