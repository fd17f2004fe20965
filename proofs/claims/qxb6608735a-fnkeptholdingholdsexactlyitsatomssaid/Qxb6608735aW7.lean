import Derived.Test.Qxb6608735aW6
namespace Go.Proofs.Qxb6608735a
open Go.RowKit
set_option linter.unusedVariables false

theorem cell_lt {w : World} {b o : Nat} {v : Value} (h : w.cell? ⟨b, o, none⟩ = some v) : b < w.heap.size := by
  rcases Nat.lt_or_ge b w.heap.size with h' | h'
  · exact h'
  · simp [World.cell?, Array.getElem?_eq_none h'] at h

theorem cell_below {w w' : World} {b o : Nat} {v : Value} (h : w.cell? ⟨b, o, none⟩ = some v) (hb : Below w.heap.size w w') : w'.cell? ⟨b, o, none⟩ = some v :=
  (hb.cell (p := ⟨b, o, none⟩) (cell_lt h)).trans h

/-- THE HOLDING IN MEMORY: the struct at block hb; the atoms at block ab; what its fields read as. -/
structure HoldAt (w : World) (hb ab : Nat) (L : List ByteArray) (O K : List Int) (A : List (Int × Int)) (T D : List ByteArray) (nb cb im : Nat) (vh va vl vo vi : Value) : Prop where
  num : w.cell? ⟨hb, 0, none⟩ = some (.pointer (some ⟨nb, 0, none⟩))
  held : w.cell? ⟨hb, 1, none⟩ = some vh
  base : w.cell? ⟨hb, 2, none⟩ = some (.pointer none)
  chains : w.cell? ⟨hb, 3, none⟩ = some (.pointer (some ⟨cb, 0, none⟩))
  others : w.cell? ⟨hb, 4, none⟩ = some vo
  atoms : w.cell? ⟨nb, 0, none⟩ = some (.pointer (some ⟨ab, 0, none⟩))
  ids : w.cell? ⟨nb, 1, none⟩ = some vi
  applied : w.cell? ⟨cb, 0, none⟩ = some va
  links : w.cell? ⟨cb, 1, none⟩ = some vl
  index : w.cell? ⟨ab, 1, none⟩ = some (.map (some im))
  isIndex : IdxMap nameKey w im L
  isHeld : Helds w vh (heldL O)
  isApplied : Apps w va A
  isLinks : I64s w vl K
  isOthers : Names w vo T
  isIds : Strs w vi D
  isAtoms : ∃ cs, Row w ab 76 cs

theorem HoldAt.below {w w' : World} {hb ab : Nat} {L : List ByteArray} {O K : List Int} {A : List (Int × Int)} {T D : List ByteArray} {nb cb im : Nat} {vh va vl vo vi : Value} (h : HoldAt w hb ab L O K A T D nb cb im vh va vl vo vi) (b : Below w.heap.size w w') : HoldAt w' hb ab L O K A T D nb cb im vh va vl vo vi :=
  ⟨cell_below h.num b, cell_below h.held b, cell_below h.base b, cell_below h.chains b, cell_below h.others b, cell_below h.atoms b, cell_below h.ids b, cell_below h.applied b, cell_below h.links b, cell_below h.index b,
    h.isIndex.below h.isIndex.lt b, h.isHeld.below b, h.isApplied.below b, h.isLinks.below b, h.isOthers.below b, h.isIds.below b, h.isAtoms.imp fun _ hr => hr.below hr.lt b⟩

theorem HoldAt.drewN {w : World} {hb ab : Nat} {L : List ByteArray} {O K : List Int} {A : List (Int × Int)} {T D : List ByteArray} {nb cb im : Nat} {vh va vl vo vi : Value} (h : HoldAt w hb ab L O K A T D nb cb im vh va vl vo vi) (q : Nat) : HoldAt (w.drewN q) hb ab L O K A T D nb cb im vh va vl vo vi :=
  h.below (below_drewN (Below.refl _ _) q)

set_option maxHeartbeats 400000 in
theorem place_any (hb : Nat) (v : Value) (O : List Int) (p : Int) (w : World) (hh : w.cell? ⟨hb, 1, none⟩ = some v) (h : Helds w v (heldL O)) (hm : O.length ≤ 4096) :
    Calls Try.prog 52 #[.pointer (some ⟨hb, 0, none⟩), .int .i64 p] w fun e w' => BisRes (heldL O) p e ∧ w' = w.alloc (.cells #[.pointer (some ⟨hb, 0, none⟩)] 30) := by
  have hlt := cell_lt hh
  have HS := hide h
  obtain ⟨a, cap, rfl, hcap, hj⟩ := h.opened
  clear h hj
  generalize hn : (heldL O).length = n at *
  have HN := hide hn
  clear hn
  go_enter Try.func52, Try.ntmps52
  go_wp2_with fail
  have hbz := bisect_any w.heap.size hb (.slice a n cap) (heldL O) p (w.alloc (.cells #[.pointer (some ⟨hb, 0, none⟩)] 30)) (by simp) (by rw [World.cell?_alloc_past _ _ _ hlt]; exact hh) (HS.out.below ((Below.refl _ _).alloc (Nat.le_refl _) _))
    (Nat.le_trans (heldL_length O) hm) (fun z hz => by
      obtain ⟨q, hq, ho, _⟩ := heldL_mem (q := z.1) (o := z.2) hz
      have := (List.getElem?_eq_some_iff.1 ho).1
      omega) (heldL_asc O)
  rw [HN.out] at hbz
  refine hbz.mono ?_
  clear hbz
  rintro e w' ⟨rfl, hres⟩
  rcases hres with ⟨i, o, hi, rfl⟩ | ⟨hno, rfl⟩
  · have HI := hide hi
    clear hi
    go_wp2
    go_ret2
    exact ⟨.inl ⟨i, o, HI.out, rfl⟩, rfl⟩
  · have HI := hide hno
    clear hno
    go_wp2
    go_ret2
    exact ⟨.inr ⟨HI.out, rfl⟩, rfl⟩

/-- 'links[l:h:h]', its value a letter. -/
theorem I64s.segRun {w : World} {a : Option Addr} {n cap : Nat} {K : List Int} {l h : Int} (hK : I64s w (.slice a n cap) K) (h0 : 0 ≤ l) (h1 : l ≤ h) (h2 : h ≤ K.length) :
    ∃ v, I64s w v (seg K l h) ∧ ∀ w', (Instr.slice 23 (.slice a n cap) (some (.int .i32 l)) (some (.int .i32 h)) (some (.int .i32 h))).run Try.prog w' = .ok v w' := by
  obtain ⟨a', cap', hv, hc, hl, hx⟩ := hK
  cases hv
  obtain ⟨l, rfl⟩ := Int.eq_ofNat_of_zero_le h0
  obtain ⟨h, rfl⟩ := Int.eq_ofNat_of_zero_le (Int.le_trans h0 h1)
  have hlen : (seg K (l : Int) (h : Int)).length = h - l := by
    unfold seg
    rw [List.length_take, List.length_drop, Int.toNat_natCast, Int.toNat_natCast]
    omega
  refine ⟨.slice (if h = l then a else a.map (·.add (l * 1))) (h - l) (h - l), ?_, fun w' => ?_⟩
  · refine ⟨_, _, by rw [hlen], by omega, by simp, fun h3 => ?_⟩
    rw [hlen] at h3
    obtain ⟨b, off, rfl, hb, hcell⟩ := hx (by omega)
    have : ¬ h = l := by omega
    simp only [this, if_false, Option.map_some, Addr.add_lit]
    refine ⟨b, off + l * 1, rfl, hb, fun j hj => ?_⟩
    rw [hlen] at hj
    rw [show off + l * 1 + j = off + (l + j) from by omega, hcell (l + j) (by omega)]
    unfold seg
    simp only [Int.toNat_natCast, List.getElem?_map, List.getElem?_take, List.getElem?_drop]
    rw [if_pos (by omega)]
  · have e := run_slice_lhm (P := Try.prog) w' 23 a K.length cap (by kernel_rfl) .i32 .i32 .i32 (l : Int) (h : Int) (h : Int) (by omega) (by omega) (by omega) (by omega)
    rw [e]
    have hs : (sizeOf 2).run Try.prog w' = .ok 1 w' := by
      obtain ⟨i, hi, h1, h2, h3⟩ := info_parts Try.info2
      simp [sizeOf, typeInfo, hi, h2]
    have he : Try.prog.elem 23 = 2 := by kernel_rfl
    rw [he, hs]
    simp [Result.andThen, sliced]

set_option maxHeartbeats 400000 in
theorem chainOf_any (hb cb : Nat) (va vl : Value) (A : List (Int × Int)) (K : List Int) (o : Nat) (l h : Int) (w : World)
    (hc : w.cell? ⟨hb, 3, none⟩ = some (.pointer (some ⟨cb, 0, none⟩))) (ha : w.cell? ⟨cb, 0, none⟩ = some va) (hl : w.cell? ⟨cb, 1, none⟩ = some vl) (hA : Apps w va A) (hK : I64s w vl K) (hm : A.length ≤ 1099511627776)
    (ho : A[o]? = some (l, h)) (h0 : 0 ≤ l) (h1 : l ≤ h) (h2 : h ≤ K.length) :
    Calls Try.prog 53 #[.pointer (some ⟨hb, 0, none⟩), .int .i32 o] w fun e w' => ∃ v, e = .returned v ∧ I64s w' v (seg K l h) ∧ Below w.heap.size w w' := by
  have hlt1 := cell_lt hc
  have hlt2 := cell_lt ha
  obtain ⟨a, cap, rfl, hcap, hcell⟩ := hA.opened
  have hlt : o < A.length := (List.getElem?_eq_some_iff.1 ho).1
  obtain ⟨b, off, rfl, hbl, g1, g2, g3⟩ := hcell o (l, h) ho
  clear hcell hA ho
  obtain ⟨a', cap', rfl, hcap', hj⟩ := hK.open1
  clear hj
  obtain ⟨v, hv, hrun⟩ := hK.segRun h0 h1 h2
  have HV := hide hv
  clear hv hK
  simp only at g1 g2 g3
  generalize A.length = n at *
  generalize K.length = k at *
  go_enter Try.func53, Try.ntmps53
  go_wp2
  go_quiet (fail)
  go_wp2
  go_ret
  have hbel : Below w.heap.size w ((w.alloc (.cells #[.int .i64 0, .int .i32 l, .int .i32 h] 96)).drewN nq) := below_drewN ((Below.refl _ _).alloc (Nat.le_refl _) _) _
  exact ⟨_, rfl, HV.out.below hbel, hbel⟩

/-- A chain and whether it is one, as the two results. -/
def ChainRes (r : Option (List Int)) (e : Ending) (w' : World) : Prop :=
  match r with
  | none => e = .returned (.tuple #[.slice none 0 0, .bool false])
  | some l => ∃ v, e = .returned (.tuple #[v, .bool true]) ∧ I64s w' v l

theorem nil64 (w : World) : I64s w (.slice none 0 0) [] := ⟨_, _, rfl, Nat.le_refl _, rfl, fun h => absurd h (by simp)⟩

set_option maxHeartbeats 1000000 in
theorem at_any {w : World} {hb ab : Nat} {L : List ByteArray} {O K : List Int} {A : List (Int × Int)} {T D : List ByteArray} {nb cb im : Nat} {vh va vl vo vi : Value} (h : HoldAt w hb ab L O K A T D nb cb im vh va vl vo vi) (p : Nat)
    (hm : O.length ≤ 4096) (hmA : A.length ≤ 4096) (hO : ∀ o ∈ O, o < A.length) (hA : ∀ x ∈ A, 0 ≤ x.1 ∧ x.1 ≤ x.2 ∧ x.2 ≤ K.length) :
    Calls Try.prog 48 #[.pointer (some ⟨hb, 0, none⟩), .int .i64 p] w fun e w' => ChainRes (atL O K A p) e w' ∧ Below w.heap.size w w' := by
  have H := hide h
  have hlt := cell_lt h.base
  have hbase := h.base
  have hheld := h.held
  obtain ⟨a, cap, rfl, hcap, hcell⟩ := h.isHeld.opened
  clear h
  have HC := hide hcell
  have HO := hide hO
  have HA := hide hA
  clear hcell hO hA
  go_enter Try.func48, Try.ntmps48
  go_wp2_with fail
  refine (place_any hb _ O p w H.out.held H.out.isHeld hm).mono ?_
  rintro e w' ⟨hres, rfl⟩
  have hbel : Below w.heap.size w (w.alloc (.cells #[.pointer (some ⟨hb, 0, none⟩)] 30)) := (Below.refl _ _).alloc (Nat.le_refl _) _
  have HBEL := hide hbel
  clear hbel
  rcases hres with ⟨i, o, hi, rfl⟩ | ⟨hno, rfl⟩
  · obtain ⟨b, off, rfl, hbl, g1, g2⟩ := HC.out i (p, o) hi
    have hil : i < (heldL O).length := (List.getElem?_eq_some_iff.1 hi).1
    have hil2 := heldL_length O
    obtain ⟨p', hp', hop, ho2⟩ := heldL_mem (List.mem_of_getElem? hi)
    have hpp : p' = p := by omega
    subst hpp
    have HOP := hide hop
    have hlo := HO.out o (List.mem_of_getElem? hop)
    have h1 : atL O K A p' = if o = -1 then some [] else if o < 0 then none else some (chainL K A o) := by unfold atL; rw [hop]
    have H1 := hide h1
    clear hi hop h1 hp' g1
    simp only at g2
    generalize (heldL O).length = n at *
    by_cases c1 : o = -1
    · subst c1
      go_wp2
      go_ret2
      refine ⟨?_, HBEL.out⟩
      rw [H1.out]
      exact ⟨_, rfl, nil64 _⟩
    · have c1' : (o == -1) = false := by simp [c1]
      by_cases c2 : o = -2
      · subst c2
        go_wp2
        go_ret2
        refine ⟨?_, HBEL.out⟩
        rw [H1.out]
        rfl
      · have c2' : (o == -2) = false := by simp [c2]
        obtain ⟨o, rfl⟩ := Int.eq_ofNat_of_zero_le (show 0 ≤ o by omega)
        obtain ⟨x, hx⟩ := get_of_lt (k := o) (l := A) rfl (by omega)
        have hxx := HA.out x (List.mem_of_getElem? hx)
        have HX := hide hx
        clear hx
        go_wp2_with fail
        have hd := H.out.below HBEL.out
        refine (chainOf_any hb cb va vl A K o x.1 x.2 _ hd.chains hd.applied hd.links hd.isApplied hd.isLinks (by omega) HX.out hxx.1 hxx.2.1 hxx.2.2).mono ?_
        rintro e w1 ⟨v, rfl, hv, hb1⟩
        have HV := hide hv
        have HB1 := hide hb1
        clear hv hb1 hd
        go_wp2
        go_ret2
        refine ⟨?_, HBEL.out.trans (HB1.out.mono HBEL.out.size)⟩
        rw [H1.out, if_neg c1, if_neg (by omega)]
        refine ⟨v, rfl, ?_⟩
        unfold chainL
        rw [Int.toNat_natCast, HX.out]
        exact HV.out
  · have HNO := hide hno
    clear hno
    go_wp2
    go_ret2
    refine ⟨?_, HBEL.out⟩
    have : atL O K A p = none := by
      unfold atL
      cases hop : O[p]? with
      | none => rfl
      | some o =>
        have : ¬ -2 ≤ o := fun ho => HNO.out (p, o) (heldL_get hop ho) rfl
        simp only
        rw [if_neg (by omega), if_pos (by omega)]
    rw [this]
    rfl

end Go.Proofs.Qxb6608735a
