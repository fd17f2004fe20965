import Derived.Test.Qxb6608735aW4
import Derived.Test.Qxb6608735aW1
import Derived.Test.Qxb6608735aPlain2
namespace Go.Proofs.Qxb6608735a
open Go.RowKit
set_option linter.unusedVariables false

/-- Neighbours ascend within [a, c). -/
def Adj (K : List Int) (a c : Nat) : Prop := ∀ i x y, a ≤ i → i + 1 < c → K[i]? = some x → K[i + 1]? = some y → x < y

theorem Adj.start (K : List Int) (a : Nat) : Adj K a (a + 1) := fun i x y h1 h2 => absurd h2 (by omega)
theorem Adj.step {K : List Int} {a s : Nat} {y z : Int} (h : Adj K a (s + 1)) (hy : K[s]? = some y) (hz : K[s + 1]? = some z) (hyz : y < z) : Adj K a (s + 1 + 1) := by
  intro i x x' h1 h2 g1 g2
  by_cases hi : i = s
  · subst hi
    rw [hy] at g1; rw [hz] at g2; cases g1; cases g2; exact hyz
  · exact h i x x' h1 (by omega) g1 g2
theorem Adj.mono {K : List Int} {a c d : Nat} (h : Adj K a c) (hd : d ≤ c) : Adj K a d := fun i x y h1 h2 => h i x y h1 (by omega)

/-- What zzStatePremise has seen where it answers true. -/
structure Fine (L : List ByteArray) (O K lo hi : List Int) (T D : List ByteArray) : Prop where
  nodup : L.Nodup
  short : O.length ≤ L.length
  even : lo.length = hi.length
  chain : ∀ (j : Nat) (l h : Int), lo[j]? = some l → hi[j]? = some h → 0 ≤ l ∧ l ≤ h ∧ h ≤ K.length ∧ Adj K l.toNat h.toNat
  owner : ∀ o ∈ O, o < lo.length
  other : ∀ s ∈ T, s ∉ L
  keys : ∀ z ∈ K, 0 ≤ wrap32 z ∧ wrap32 z < D.length

def PremRes (L : List ByteArray) (O K lo hi : List Int) (T D : List ByteArray) (w : World) (e : Ending) (w' : World) : Prop :=
  (Fine L O K lo hi T D ∧ ∃ b, e = .returned (.tuple #[.map (some b), .bool true]) ∧ IdxMap strKey w' b L ∧ w.heap.size ≤ b) ∨ e = .returned (.tuple #[.map none, .bool false])

set_option maxHeartbeats 4000000 in
set_option maxRecDepth 100000 in
theorem premise_any (vL vO vK vlo vhi vT vD : Value) (L : List ByteArray) (O K lo hi : List Int) (T D : List ByteArray) (w : World)
    (hL : Strs w vL L) (hO : I32s w vO O) (hK : I64s w vK K) (hlo : I32s w vlo lo) (hhi : I32s w vhi hi) (hT : Strs w vT T) (hD : Strs w vD D)
    (mL : L.length ≤ 4096) (mO : O.length ≤ 4096) (mK : K.length ≤ 4096) (mlo : lo.length ≤ 4096) (mhi : hi.length ≤ 4096) (mT : T.length ≤ 4096) (mD : D.length ≤ 4096)
    (wO : ∀ o ∈ O, -2147483648 ≤ o ∧ o ≤ 2147483647) (wlo : ∀ o ∈ lo, -2147483648 ≤ o ∧ o ≤ 2147483647) (whi : ∀ o ∈ hi, -2147483648 ≤ o ∧ o ≤ 2147483647) :
    Calls Try.prog 21 #[vL, vO, vK, vlo, vhi, vT, vD] w fun e w' => PremRes L O K lo hi T D w e w' ∧ Below w.heap.size w w' := by
  have HL := hide hL
  have HK := hide hK
  obtain ⟨aL, cL, rfl, hcL, hjL⟩ := hL.open1
  obtain ⟨aO, cO, rfl, hcO, hcellO⟩ := hO.open1
  obtain ⟨aK, cK, rfl, hcK, hcellK⟩ := hK.open1
  obtain ⟨alo, clo, rfl, hclo, hcelllo⟩ := hlo.open1
  obtain ⟨ahi, chi, rfl, hchi, hcellhi⟩ := hhi.open1
  obtain ⟨aT, cT, rfl, hcT, hcellT⟩ := hT.open1
  obtain ⟨aD, cD, rfl, hcD, hjD⟩ := hD.open1
  clear hL hO hK hlo hhi hT hD hjL hjD
  generalize hnL : L.length = nL at *
  generalize hnO : O.length = nO at *
  generalize hnK : K.length = nK at *
  generalize hnlo : lo.length = nlo at *
  generalize hnhi : hi.length = nhi at *
  generalize hnT : T.length = nT at *
  generalize hnD : D.length = nD at *
  have NL := hide hnL
  have NO := hide hnO
  have NK := hide hnK
  have Nlo := hide hnlo
  have Nhi := hide hnhi
  have NT := hide hnT
  have ND := hide hnD
  have CO := hide hcellO
  have CK := hide hcellK
  have Clo := hide hcelllo
  have Chi := hide hcellhi
  have CT := hide hcellT
  have WO := hide wO
  have Wlo := hide wlo
  have Whi := hide whi
  clear hnL hnO hnK hnlo hnhi hnT hnD hcellO hcellK hcelllo hcellhi hcellT wO wlo whi
  go_enter Try.func21, Try.ntmps21
  go_wp2_with fail
  refine (index_any _ L w HL.out (by rw [NL.out]; omega)).mono ?_
  rintro e w1 (⟨hnd, bx, rfl, hx, hbx, hb1⟩ | ⟨hnd, rfl, hb1⟩)
  · have HND := hide hnd
    have HX := hide hx
    have HBX := hide hbx
    have HB1 := hide hb1
    clear hnd hx hbx hb1
    by_cases c1 : nL < nO
    · go_wp2
      go_ret2
      exact ⟨.inr rfl, HB1.out⟩
    by_cases c2 : nlo = nhi
    · subst c2
      go_wp2
      go_loopw [18] (fun i wr => ∃ k : Nat, k ≤ nlo ∧ i = .int .i64 k ∧ (∀ (j : Nat) (l h : Int), j < k → lo[j]? = some l → hi[j]? = some h → 0 ≤ l ∧ l ≤ h ∧ h ≤ nK ∧ Adj K l.toNat h.toNat) ∧ ∃ q, wr = w1.drewN q) (fun i _ => nlo - (intOf i).toNat)
      case atStart => exact ⟨0, Nat.zero_le _, rfl, fun j l h hj => absurd hj (by omega), 0, rfl⟩
      case round =>
        obtain ⟨k, hk, rfl, hch, q, rfl⟩ := hrel
        have HCH := hide hch
        clear hch
        by_cases hlt : k < nlo
        · obtain ⟨l, hl⟩ := get_of_lt Nlo.out hlt
          obtain ⟨h, hh⟩ := get_of_lt Nhi.out hlt
          obtain ⟨b1, off1, rfl, hbl1, g1⟩ := Clo.out k l hl
          obtain ⟨b2, off2, rfl, hbl2, g2⟩ := Chi.out k h hh
          have rl := Wlo.out l (List.mem_of_getElem? hl)
          have rh := Whi.out h (List.mem_of_getElem? hh)
          have g1' : w1.cell? ⟨b1, off1 + k, none⟩ = some (.int .i32 l) := (HB1.out.cell (p := ⟨b1, off1 + k, none⟩) hbl1).trans g1
          have g2' : w1.cell? ⟨b2, off2 + k, none⟩ = some (.int .i32 h) := (HB1.out.cell (p := ⟨b2, off2 + k, none⟩) hbl2).trans g2
          have HLk := hide hl
          have HHk := hide hh
          have hk' : (k : Int) < (nlo : Int) := by omega
          clear hl hh g1 g2
          by_cases d1 : l < 0
          · have d1' : decide (l < 0) = true := by simp [d1]
            go_wp2
            go_quiet (fail)
            go_wp2
            go_ret2
            exact ⟨.inr rfl, below_drewN (below_drewN HB1.out _) _⟩
          have d1' : decide (l < 0) = false := by simp; omega
          by_cases d2 : h < l
          · go_wp2
            go_quiet (fail)
            go_wp2
            go_ret2
            exact ⟨.inr rfl, below_drewN (below_drewN HB1.out _) _⟩
          have d2' : decide (h < l) = false := by simp; omega
          by_cases d3 : (nK : Int) < h
          · go_wp2
            go_quiet (fail)
            go_wp2
            go_ret2
            exact ⟨.inr rfl, below_drewN (below_drewN HB1.out _) _⟩
          have d3' : decide ((nK : Int) < h) = false := by simp; omega
          go_wp2
          go_quiet (fail)
          go_wp2_with fail
          obtain ⟨l, rfl⟩ := Int.eq_ofNat_of_zero_le (show 0 ≤ l by omega)
          obtain ⟨h, rfl⟩ := Int.eq_ofNat_of_zero_le (show 0 ≤ h by omega)
          have hlh : l ≤ h := by omega
          have hhK : h ≤ nK := by omega
          clear d1 d1' d2 d2' d3 d3' g1'
          go_loopw [19] (fun t wr => ∃ tt : Nat, l + 1 ≤ tt ∧ (tt ≤ h ∨ tt = l + 1) ∧ t = .int .i32 tt ∧ Adj K l tt ∧ ∃ q, wr = w1.drewN q) (fun t _ => h - (intOf t).toNat)
          case atStart => exact ⟨l + 1, Nat.le_refl _, .inr rfl, by go_num, Adj.start _ _, _, rfl⟩
          case round =>
            obtain ⟨tt, ht1, ht2, rfl, hadj, q2, rfl⟩ := hrel
            have HADJ := hide hadj
            clear hadj
            by_cases hlt2 : tt < h
            · obtain ⟨s, rfl⟩ : ∃ s, tt = s + 1 := ⟨tt - 1, by omega⟩
              obtain ⟨y, hy⟩ := get_of_lt (k := s) NK.out (by omega)
              obtain ⟨z, hz⟩ := get_of_lt (k := s + 1) NK.out (by omega)
              obtain ⟨b, off, rfl, hbl, g3⟩ := CK.out s y hy
              obtain ⟨b', off', hbo, hbl', g4⟩ := CK.out (s + 1) z hz
              cases hbo
              have g3' : w1.cell? ⟨b, off + s, none⟩ = some (.int .i64 y) := (HB1.out.cell (p := ⟨b, off + s, none⟩) hbl).trans g3
              have g4' : w1.cell? ⟨b, off + (s + 1), none⟩ = some (.int .i64 z) := (HB1.out.cell (p := ⟨b, off + (s + 1), none⟩) hbl).trans g4
              have HY := hide hy
              have HZ := hide hz
              clear hy hz g3 g4
              have hs1 : (s : Int) < (nK : Int) := by omega
              have hs2 : (s : Int) + 1 < (nK : Int) := by omega
              by_cases hyz : y < z
              · go_wp2
                go_quiet (fail)
                go_wp2
                go_roundw
                case rel => exact ⟨s + 1 + 1, by omega, by omega, by go_num, HADJ.out.step HY.out HZ.out hyz, _, rfl⟩
                case measure => simp [intOf]; omega
              · have hyz' : z ≤ y := by omega
                go_wp2
                go_quiet (fail)
                go_wp2
                go_ret2
                exact ⟨.inr rfl, below_drewN (below_drewN HB1.out _) _⟩
            · have hge : h ≤ tt := by omega
              have HT2 := hide ht2
              clear ht2 hlt2
              go_wp2
              go_roundw
              case rel =>
                refine ⟨k + 1, by omega, by go_num, ?_, _, rfl⟩
                intro j l' h' hj g5 g6
                by_cases hjk : j = k
                · subst hjk
                  rw [HLk.out] at g5
                  rw [HHk.out] at g6
                  cases g5
                  cases g6
                  exact ⟨by omega, by omega, by omega, by rw [Int.toNat_natCast, Int.toNat_natCast]; exact HADJ.out.mono (by omega)⟩
                · exact HCH.out j l' h' (by omega) g5 g6
              case measure => simp [intOf]; omega
        · go_wp2
          go_loop [20] (fun i => ∃ k2 : Nat, k2 ≤ nO ∧ i = .int .i64 k2 ∧ ∀ o ∈ O.take k2, o < nlo) (fun i => nO - (intOf i).toNat)
          case atStart => exact ⟨0, Nat.zero_le _, rfl, by simp⟩
          case round =>
            obtain ⟨k2, hk2, rfl, how⟩ := hrel
            have HOW := hide how
            clear how
            by_cases hlt2 : k2 < nO
            · obtain ⟨o, ho⟩ := get_of_lt NO.out hlt2
              obtain ⟨b, off, rfl, hbl, g1⟩ := CO.out k2 o ho
              have ro := WO.out o (List.mem_of_getElem? ho)
              have g1' : w1.cell? ⟨b, off + k2, none⟩ = some (.int .i32 o) := (HB1.out.cell (p := ⟨b, off + k2, none⟩) hbl).trans g1
              have HOk := hide ho
              clear ho g1
              by_cases d : o < nlo
              · go_wp2
                go_round
                case rel =>
                  refine ⟨k2 + 1, by omega, by go_num, ?_⟩
                  rw [take_snoc HOk.out]
                  intro x hx
                  rcases List.mem_append.1 hx with hx | hx
                  · exact HOW.out x hx
                  · rw [List.mem_singleton.1 hx]; exact d
                case measure => simp [intOf]; omega
              · go_wp2
                go_ret2
                exact ⟨.inr rfl, below_drewN HB1.out _⟩
            · have hall := HOW.out
              rw [take_all NO.out (by omega)] at hall
              have HALL := hide hall
              clear hall
              go_wp2
              go_loop [21] (fun i => ∃ k3 : Nat, k3 ≤ nT ∧ i = .int .i64 k3 ∧ ∀ s ∈ T.take k3, s ∉ L) (fun i => nT - (intOf i).toNat)
              case atStart => exact ⟨0, Nat.zero_le _, rfl, by simp⟩
              case round =>
                obtain ⟨k3, hk3, rfl, hot⟩ := hrel
                have HOT := hide hot
                clear hot
                by_cases hlt3 : k3 < nT
                · obtain ⟨s, hs⟩ := get_of_lt NT.out hlt3
                  obtain ⟨b, off, rfl, hbl, g1⟩ := CT.out k3 s hs
                  have g1' : w1.cell? ⟨b, off + k3, none⟩ = some (.string s) := (HB1.out.cell (p := ⟨b, off + k3, none⟩) hbl).trans g1
                  have hlk := (HX.out.drewN q).lookup s
                  have HSk := hide hs
                  clear hs g1
                  by_cases d : s ∈ L
                  · rw [pos_isSome d] at hlk
                    clear d
                    go_wp2
                    go_ret2
                    exact ⟨.inr rfl, below_drewN HB1.out _⟩
                  · rw [pos_isSome_not d] at hlk
                    have HD := hide d
                    clear d
                    go_wp2
                    go_round
                    case rel =>
                      refine ⟨k3 + 1, by omega, by go_num, ?_⟩
                      rw [take_snoc HSk.out]
                      intro x hx
                      rcases List.mem_append.1 hx with hx | hx
                      · exact HOT.out x hx
                      · rw [List.mem_singleton.1 hx]; exact HD.out
                    case measure => simp [intOf]; omega
                · have hall2 := HOT.out
                  rw [take_all NT.out (by omega)] at hall2
                  have HALL2 := hide hall2
                  clear hall2
                  go_wp2_with fail
                  refine (keysNamed_any _ K nD (w1.drewN q) ((HK.out.below HB1.out).drewN q) (by rw [NK.out]; omega) (by omega)).mono ?_
                  rintro e w' ⟨rfl, rfl⟩
                  by_cases d : ∀ z ∈ K, 0 ≤ wrap32 z ∧ wrap32 z < nD
                  · rw [decide_eq_true d]
                    have HD := hide d
                    clear d
                    go_wp2
                    go_ret2
                    refine ⟨.inl ⟨⟨HND.out, by rw [NO.out, NL.out]; omega, by rw [Nlo.out, Nhi.out], ?_, by rw [Nlo.out]; exact HALL.out, HALL2.out, by rw [ND.out]; exact HD.out⟩, bx, rfl, HX.out.drewN q, HBX.out⟩, below_drewN HB1.out _⟩
                    intro j l h g5 g6
                    have hj := (List.getElem?_eq_some_iff.1 g5).1
                    rw [NK.out]
                    exact HCH.out j l h (by rw [Nlo.out] at hj; omega) g5 g6
                  · rw [decide_eq_false d]
                    clear d
                    go_wp2
                    go_ret2
                    exact ⟨.inr rfl, below_drewN HB1.out _⟩
    · have c2' : ((nlo : Int) != (nhi : Int)) = true := by simp; omega
      go_wp2
      go_ret2
      exact ⟨.inr rfl, HB1.out⟩
  · have HB1 := hide hb1
    clear hnd hb1
    go_wp2
    go_ret2
    exact ⟨.inr rfl, HB1.out⟩

end Go.Proofs.Qxb6608735a
