/-
  append onto a slice of the call's own, whatever slice is appended (nil, empty or not): at the run, at a plain list, at a step of a region that draws.
-/
import Derived.Test.Qxb6608735aRowsOwn
import Derived.Deep.RegionLaw
namespace Go.Proofs.Qxb6608735a
open Go.RowKit
set_option linter.unusedVariables false

section
variable {P : Program} (w : World)

theorem append_run (t ty : TypeId) (base : Nat) (e : TypeId) (z : Value) (size bytes : Nat) (ht : P.underlying t = some (.slice e)) (hinfo : (P.info? e).map (fun i => (i.zero, i.size, i.bytes)) = some (some z, size, bytes)) (hzs : z.cells.size = size) (hsz : 0 < size)
    (v : Value) (n : Nat) (xs : List Value) (hown : w.ownsRow base e size v n xs)
    (u : Value) (m : Nat) (news : List Value) (hu : Sl w u size m news) (h1 : ∀ u ∈ news, u.oneCell' = true) (h63 : n + m ≤ maxLen) (hbytes : (n + m) * bytes ≤ 140737488355328) (hbase : base ≤ w.heap.size) :
    ∃ v' w', (Builtin.append_ #[t, t] ty #[v, u]).run P w = .ok v' w' ∧ w'.ownsRow base e size v' (n + m) (xs ++ news) ∧ w.grownBy w' v.ownBlock ∧ (v'.ownBlock = v.ownBlock ∨ v'.ownBlock = some w.heap.size) := by
  obtain ⟨i, hi, hz, hsize, hby⟩ := info_parts hinfo
  obtain ⟨a, cap, rfl, hc, hl, hx⟩ := hu
  cases a with
  | none =>
    have hm : m = 0 := by
      rcases Nat.eq_zero_or_pos m with h | h
      · exact h
      · obtain ⟨b, off, hb, _⟩ := hx h
        cases hb
    subst hm
    have hnews : news = [] := List.eq_nil_of_length_eq_zero (by simpa using hl)
    subst hnews
    refine ⟨v, w, ?_, by simpa using hown, World.grownBy.refl _ _, .inl rfl⟩
    rcases hown.2 with ⟨rfl, rfl⟩ | ⟨g, cap', cur, rfl, _, _, hnc, _⟩
    · simp [Builtin.append_, run_underlying ht, sizeOf, typeInfo, hi, Builtin.lenOf, Builtin.firstCells]
    · simp [Builtin.append_, run_underlying ht, sizeOf, typeInfo, hi, Builtin.lenOf, Builtin.firstCells, hnc, storeCells]
  | some ad =>
    obtain ⟨v', w', hr, h2, h3, _, h5⟩ := run_append_own_at (P := P) w base t ty e i z size bytes ht hi hz hsize hby hzs hsz v n xs hown ad m cap news hl (fun j x hj => by
      have hjl : j < news.length := (List.getElem?_eq_some_iff.1 hj).1
      have hm : 0 < m := by
        rcases Nat.eq_zero_or_pos m with h | h
        · rw [h] at hl; omega
        · exact h
      obtain ⟨b, off, hb, _, hcell⟩ := hx hm
      cases hb
      rw [Addr.add_lit, hcell j (by omega)]
      exact hj) h1 h63 hbytes hbase
    exact ⟨v', w', hr, h2, h3, h5⟩

/-- At the operation. -/
theorem wp_append_sl {o : Oper} {a : Act} {K : Act → World → Prop} {Q : Exit → Act → World → Prop} (s x : Operand) (t : TypeId)
    (ho : o.op = .call { callee := .builtin .append, args := #[s, x], argTypes := #[t, t] })
    (base : Nat) (e : TypeId) (z : Value) (size bytes : Nat) (ht : P.underlying t = some (.slice e)) (hinfo : (P.info? e).map (fun i => (i.zero, i.size, i.bytes)) = some (some z, size, bytes)) (hzs : z.cells.size = size) (hsz : 0 < size)
    (v : Value) (n : Nat) (xs : List Value) (hs : a.eval s = v) (hown : w.ownsRow base e size v n xs)
    (u : Value) (m : Nat) (news : List Value) (hx : a.eval x = u) (hu : Sl w u size m news) (h1 : ∀ u ∈ news, u.oneCell' = true) (h63 : n + m ≤ maxLen) (hbytes : (n + m) * bytes ≤ 140737488355328) (hbase : base ≤ w.heap.size)
    (h : ∀ v' w', w'.ownsRow base e size v' (n + m) (xs ++ news) → w.grownBy w' v.ownBlock → (v'.ownBlock = v.ownBlock ∨ v'.ownBlock = some w.heap.size) → K (a.put o.dst v') w') : o.wp P a w K Q := by
  obtain ⟨v', w', hr, h2, h3, h4⟩ := append_run (P := P) w t o.type base e z size bytes ht hinfo hzs hsz v n xs hown u m news hu h1 h63 hbytes hbase
  unfold Oper.wp execOp
  simp only [ho, resolve, invoke, builtin, Sem.run_bind, Sem.run_pure, Result.andThen_ok, List.map_toArray, List.map_cons, List.map_nil, hs, hx, hr]
  exact h v' w' h2 h3 h4

/-- At the list of a plain region's operations. -/
theorem wpList_append_sl {ops : Array Oper} {rest : List Oper} {o : Oper} {a : Act} {Q : Exit → Act → World → Prop} (hgd : o.guard = none) (s x : Operand) (t : TypeId)
    (ho : o.op = .call { callee := .builtin .append, args := #[s, x], argTypes := #[t, t] })
    (base : Nat) (e : TypeId) (z : Value) (size bytes : Nat) (ht : P.underlying t = some (.slice e)) (hinfo : (P.info? e).map (fun i => (i.zero, i.size, i.bytes)) = some (some z, size, bytes)) (hzs : z.cells.size = size) (hsz : 0 < size)
    (v : Value) (n : Nat) (xs : List Value) (hs : a.eval s = v) (hown : w.ownsRow base e size v n xs)
    (u : Value) (m : Nat) (news : List Value) (hx : a.eval x = u) (hu : Sl w u size m news) (h1 : ∀ u ∈ news, u.oneCell' = true) (h63 : n + m ≤ maxLen) (hbytes : (n + m) * bytes ≤ 140737488355328) (hbase : base ≤ w.heap.size)
    (h : ∀ v' w', w'.ownsRow base e size v' (n + m) (xs ++ news) → w.grownBy w' v.ownBlock → (v'.ownBlock = v.ownBlock ∨ v'.ownBlock = some w.heap.size) → wpList P ops Q rest (a.put o.dst v') w') : wpList P ops Q (o :: rest) a w :=
  wpList_plain hgd fun _ hK => wp_append_sl w s x t ho base e z size bytes ht hinfo hzs hsz v n xs hs hown u m news hx hu h1 h63 hbytes hbase fun v' w' h2 h3 h4 => hK _ _ (h v' w' h2 h3 h4)

/-- At a step of a region that draws its order. -/
theorem step_append_sl {ops : Array Oper} {o : Oper} {a : Act} {K : Act → World → Prop} {Q : Exit → Act → World → Prop} {E : Prop} (hgd : o.guard = none) (s x : Operand) (t : TypeId)
    (ho : o.op = .call { callee := .builtin .append, args := #[s, x], argTypes := #[t, t] })
    (base : Nat) (e : TypeId) (z : Value) (size bytes : Nat) (ht : P.underlying t = some (.slice e)) (hinfo : (P.info? e).map (fun i => (i.zero, i.size, i.bytes)) = some (some z, size, bytes)) (hzs : z.cells.size = size) (hsz : 0 < size)
    (v : Value) (n : Nat) (xs : List Value) (hs : a.eval s = v) (hown : w.ownsRow base e size v n xs)
    (u : Value) (m : Nat) (news : List Value) (hx : a.eval x = u) (hu : Sl w u size m news) (h1 : ∀ u ∈ news, u.oneCell' = true) (h63 : n + m ≤ maxLen) (hbytes : (n + m) * bytes ≤ 140737488355328) (hbase : base ≤ w.heap.size)
    (h : ∀ v' w', w'.ownsRow base e size v' (n + m) (xs ++ news) → w.grownBy w' v.ownBlock → (v'.ownBlock = v.ownBlock ∨ v'.ownBlock = some w.heap.size) → K (a.put o.dst v') w') :
    if Region.wanted o (yielded ops a.tmps) = true then Oper.wp P o a w K Q else E := by
  have hw : Region.wanted o (yielded ops a.tmps) = true := by simp [Region.wanted, hgd]
  rw [if_pos hw]
  exact wp_append_sl w s x t ho base e z size bytes ht hinfo hzs hsz v n xs hs hown u m news hx hu h1 h63 hbytes hbase h

end

/-- The one-element slice that the translation lays ahead of an append. -/
theorem sl_new (w : World) (cs : Array Value) (e : TypeId) {size m : Nat} (h : cs.size = m * size) : Sl (w.alloc (.cells cs e)) (.slice (some ⟨w.heap.size, 0, none⟩) m m) size m cs.toList :=
  (Row.made w cs e).sl (by simpa using h)

theorem sl_new_at (w : World) (cs : Array Value) (e : TypeId) (q : Nat) {size m : Nat} (h : cs.size = m * size) : Sl ((w.alloc (.cells cs e)).drewN q) (.slice (some ⟨w.heap.size, 0, none⟩) m m) size m cs.toList := sl_new w cs e h

end Go.Proofs.Qxb6608735a
