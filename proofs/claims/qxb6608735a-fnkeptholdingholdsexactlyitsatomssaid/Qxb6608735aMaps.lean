/-
  The maps of this program, entry by entry: string to place, name to place, a set of strings.
-/
import Derived.Test.Qxb6608735aRowsOwn
import Derived.Maps.Own
namespace Go.Proofs.Qxb6608735a
open Go.RowKit
set_option linter.unusedVariables false

/-- The entries of a map from strings to their places. -/
def idxEnts (f : ByteArray → Value) : List ByteArray → Nat → List MapEntry
  | [], _ => []
  | s :: l, i => ⟨f s, .int .i64 i, i⟩ :: idxEnts f l (i + 1)

def strKey (s : ByteArray) : Value := .string s
def nameKey (s : ByteArray) : Value := .agg #[.string ⟨#[]⟩, .string s]

theorem idxEnts_snoc (f : ByteArray → Value) (s : ByteArray) : ∀ (L : List ByteArray) (i : Nat), idxEnts f (L ++ [s]) i = idxEnts f L i ++ [⟨f s, .int .i64 ((i + L.length : Nat) : Int), i + L.length⟩]
  | [], i => by simp [idxEnts]
  | x :: l, i => by
    simp only [List.cons_append, idxEnts, idxEnts_snoc f s l (i + 1), List.length_cons]
    rw [show i + 1 + l.length = i + (l.length + 1) from by omega]

/-- Block b is a map from the strings of L (under f) to their places. -/
def IdxMap (f : ByteArray → Value) (w : World) (b : Nat) (L : List ByteArray) : Prop := w.heap[b]? = some (.map (idxEnts f L 0).toArray L.length)

theorem IdxMap.lt {f : ByteArray → Value} {w : World} {b : Nat} {L : List ByteArray} (h : IdxMap f w b L) : b < w.heap.size := by
  unfold IdxMap at h
  rcases Nat.lt_or_ge b w.heap.size with h' | h'
  · exact h'
  · rw [Array.getElem?_eq_none h'] at h; cases h

theorem IdxMap.below {f : ByteArray → Value} {w w' : World} {b : Nat} {L : List ByteArray} (h : IdxMap f w b L) {B : Nat} (hB : b < B) (hb : Below B w w') : IdxMap f w' b L := by
  unfold IdxMap
  rw [hb.block b hB]; exact h

theorem IdxMap.drewN {f : ByteArray → Value} {w : World} {b : Nat} {L : List ByteArray} (h : IdxMap f w b L) (q : Nat) : IdxMap f (w.drewN q) b L := h

/-! ### strings for keys -/
theorem obj_get {w : World} {b : Nat} {es : Array MapEntry} {c : Nat} (h : w.heap[b]? = some (.map es c)) : (getObj b).run Try.prog w = .ok (.map es c) w := by
  simp [getObj, Sem.run, h]
theorem obj_set {w : World} {b : Nat} {es : Array MapEntry} {c : Nat} (h : w.heap[b]? = some (.map es c)) (o : Obj) : (setObj b o).run Try.prog w = .ok () { w with heap := w.heap.setIfInBounds b o } := by
  simp [setObj, Sem.run, h]

theorem heap_put {w : World} {b : Nat} (hb : b < w.heap.size) (o : Obj) : ({ w with heap := w.heap.setIfInBounds b o } : World).heap[b]? = some o := by
  simp [hb]
theorem grown_put (w : World) (b : Nat) (o : Obj) : w.grownBy { w with heap := w.heap.setIfInBounds b o } (some b) :=
  ⟨rfl, rfl, rfl, by simp, fun k hk hne => by
    simp only
    rw [Array.getElem?_setIfInBounds_ne (fun e => hne (by rw [e]))]⟩

theorem findNow_str (s : ByteArray) : ∀ (L : List ByteArray) (i : Nat), Instr.findNow .string (.string s) (idxEnts strKey L i) i = some ((posFrom s L i).map fun p => (p, .int .i64 p))
  | [], i => by simp [idxEnts, Instr.findNow, posFrom]
  | x :: l, i => by
    have ih := findNow_str s l (i + 1)
    unfold idxEnts posFrom Instr.findNow
    have e : Instr.sameNow .string (.string s) (strKey x) = some (s == x) := rfl
    rw [e, ba_beq]
    by_cases h : s = x
    · rw [decide_eq_true h, if_pos h]; rfl
    · rw [decide_eq_false h, if_neg h]; exact ih

theorem checkKey_str (e : Bool) (n : Nat) (s : ByteArray) (w : World) : (Instr.checkKey e (n + 1) 9 (.string s)).run Try.prog w = .ok () w := by
  simp [Instr.checkKey, run_underlying Try.underlying9]

theorem zero3 (w : World) : (zeroValue 3).run Try.prog w = .ok (.int .i64 0) w := by
  obtain ⟨i, hi, h1, h2, h3⟩ := info_parts Try.info3
  simp [zeroValue, typeInfo, hi, h1]

theorem IdxMap.lookup {w : World} {b : Nat} {L : List ByteArray} (h : IdxMap strKey w b L) (s : ByteArray) :
    (Instr.lookup 26 (.map (some b)) (.string s) true).run Try.prog w = .ok (.tuple #[.int .i64 ((pos L s).getD 0 : Nat), .bool (pos L s).isSome]) w := by
  unfold IdxMap at h
  have hf := findNow_str s L 0
  have hck := fun e => checkKey_str e 9999 s w
  unfold pos
  simp [Instr.lookup, run_underlying Try.underlying26, obj_get h, hck, Instr.findKey, run_underlying Try.underlying9, hf]
  cases hp : posFrom s L 0 <;> simp

theorem IdxMap.put {w : World} {b : Nat} {L : List ByteArray} (h : IdxMap strKey w b L) {s : ByteArray} (hs : s ∉ L) :
    ∃ w1, (Instr.mapUpdate 26 (.map (some b)) (.string s) (.int .i64 L.length)).run Try.prog w = .ok () w1 ∧ IdxMap strKey w1 b (L ++ [s]) ∧ w.grownBy w1 (some b) := by
  have hlt := h.lt
  unfold IdxMap at h
  have hf := findNow_str s L 0
  have hp : posFrom s L 0 = none := posFrom_none.2 hs
  have hck := fun e => checkKey_str e 9999 s w
  rw [hp] at hf
  refine ⟨_, ?_, ?_, grown_put w b (.map ((idxEnts strKey L 0).toArray.push ⟨.string s, .int .i64 L.length, L.length⟩) (L.length + 1))⟩
  · simp [Instr.mapUpdate, run_underlying Try.underlying26, obj_get h, hck, Instr.findKey, run_underlying Try.underlying9, hf, obj_set h]
  · unfold IdxMap
    rw [heap_put hlt, idxEnts_snoc]
    simp [strKey]

theorem make_map (t k e : TypeId) (hu : Try.prog.underlying t = some (.map k e)) (n : Int) (w : World) : (Instr.makeMap t (some (.int .i64 n))).run Try.prog w = .ok (.map (some w.heap.size)) (w.alloc (.map #[] 0)) := by
  simp [Instr.makeMap, run_underlying hu, asInt, asIntOf, newObj, Sem.run]

/-! ### names for keys -/
theorem str_eq (n : Nat) (a b : ByteArray) (w : World) : (Op.equalIn (n + 1) 9 (.string a) (.string b)).run Try.prog w = .ok (decide (a = b)) w := by
  rw [Op.equalIn]
  simp [run_underlying Try.underlying9, ba_beq]

theorem name_eq (s t : ByteArray) (w : World) : (Op.equal 91 (nameKey s) (nameKey t)).run Try.prog w = .ok (decide (s = t)) w := by
  have hp : Try.prog.stoodInHeld 91 = false := by kernel_rfl
  have hf : Try.prog.underlying 91 = some (.struct (Try.prog.fieldsOf 91)) := by kernel_rfl
  have h9 : (isAgg 9).run Try.prog w = .ok false w := by kernel_rfl
  have h := run_equalIn_agg (P := Try.prog) w 9999 91 #[.string ⟨#[]⟩, .string s] #[.string ⟨#[]⟩, .string t] hf hp
  have hs := fun a b => str_eq 9998 a b w
  unfold nameKey Op.equal Op.maxDepth
  rw [h]
  simp only [Program.fieldsOf, Try.underlying91, Op.eqFields, part]
  simp [h9, hs]
  by_cases e : s = t <;> simp [e]

theorem checkKey_name (e : Bool) (s : ByteArray) (w : World) : (Instr.checkKey e 10000 91 (nameKey s)).run Try.prog w = .ok () w := by
  have h9 : (isAgg 9).run Try.prog w = .ok false w := by kernel_rfl
  have hck := fun n => checkKey_str e n s w
  have hck2 := fun n => checkKey_str e n ⟨#[]⟩ w
  show (Instr.checkKey e (9998 + 1 + 1) 91 (nameKey s)).run Try.prog w = .ok () w
  rw [Instr.checkKey]
  simp [run_underlying Try.underlying91, nameKey, part, h9, hck, hck2]

theorem findAsking_name (s : ByteArray) (w : World) : ∀ (L : List ByteArray) (i : Nat), (Instr.findAsking 91 (nameKey s) (idxEnts nameKey L i) i).run Try.prog w = .ok ((posFrom s L i).map fun p => (p, .int .i64 p)) w
  | [], i => by simp [idxEnts, Instr.findAsking, posFrom]
  | x :: l, i => by
    have ih := findAsking_name s w l (i + 1)
    unfold idxEnts posFrom Instr.findAsking
    by_cases h : s = x
    · simp [name_eq, h]
    · simp [name_eq, h, ih]

theorem findKey_name (s : ByteArray) (w : World) (L : List ByteArray) : (Instr.findKey 91 (nameKey s) (idxEnts nameKey L 0)).run Try.prog w = .ok ((posFrom s L 0).map fun p => (p, .int .i64 p)) w := by
  have h := findAsking_name s w L 0
  unfold Instr.findKey
  cases L with
  | nil => simp [run_underlying Try.underlying91, idxEnts, Instr.findNow, posFrom]
  | cons x l =>
    have e : ∀ fs, Instr.findNow (.struct fs) (nameKey s) (idxEnts nameKey (x :: l) 0) 0 = none := fun fs => by
      unfold idxEnts Instr.findNow nameKey Instr.sameNow; rfl
    simp [run_underlying Try.underlying91, e, h]

theorem IdxMap.lookupName {w : World} {b : Nat} {L : List ByteArray} (h : IdxMap nameKey w b L) (s : ByteArray) :
    (Instr.lookup 50 (.map (some b)) (nameKey s) true).run Try.prog w = .ok (.tuple #[.int .i64 ((pos L s).getD 0 : Nat), .bool (pos L s).isSome]) w := by
  unfold IdxMap at h
  have hf := findKey_name s w L
  have hck := fun e => checkKey_name e s w
  unfold pos
  simp [Instr.lookup, run_underlying Try.underlying50, obj_get h, hck, hf]
  cases hp : posFrom s L 0 <;> simp

theorem IdxMap.putName {w : World} {b : Nat} {L : List ByteArray} (h : IdxMap nameKey w b L) {s : ByteArray} (hs : s ∉ L) :
    ∃ w1, (Instr.mapUpdate 50 (.map (some b)) (nameKey s) (.int .i64 L.length)).run Try.prog w = .ok () w1 ∧ IdxMap nameKey w1 b (L ++ [s]) ∧ w.grownBy w1 (some b) := by
  have hlt := h.lt
  unfold IdxMap at h
  have hf := findKey_name s w L
  have hp : posFrom s L 0 = none := posFrom_none.2 hs
  have hck := fun e => checkKey_name e s w
  rw [hp] at hf
  refine ⟨_, ?_, ?_, grown_put w b (.map ((idxEnts nameKey L 0).toArray.push ⟨nameKey s, .int .i64 L.length, L.length⟩) (L.length + 1))⟩
  · simp [Instr.mapUpdate, run_underlying Try.underlying50, obj_get h, hck, hf, obj_set h]
  · unfold IdxMap
    rw [heap_put hlt, idxEnts_snoc]
    simp

/-! ### a set of strings: map[string]bool, every element true -/
def SetMap (w : World) (b : Nat) (T : List ByteArray) : Prop :=
  ∃ es c, w.heap[b]? = some (.map es c) ∧ (∀ e ∈ es.toList, ∃ s ∈ T, e.key = .string s ∧ e.val = .bool true) ∧ ∀ s ∈ T, ∃ e ∈ es.toList, e.key = .string s

theorem SetMap.lt {w : World} {b : Nat} {T : List ByteArray} (h : SetMap w b T) : b < w.heap.size := by
  obtain ⟨es, c, h, _⟩ := h
  rcases Nat.lt_or_ge b w.heap.size with h' | h'
  · exact h'
  · rw [Array.getElem?_eq_none h'] at h; cases h

theorem SetMap.below {w w' : World} {b : Nat} {T : List ByteArray} (h : SetMap w b T) {B : Nat} (hB : b < B) (hb : Below B w w') : SetMap w' b T := by
  obtain ⟨es, c, h, r⟩ := h
  exact ⟨es, c, by rw [hb.block b hB]; exact h, r⟩

theorem set_found {w : World} {b : Nat} {T : List ByteArray} {es : Array MapEntry} (h1 : ∀ e ∈ es.toList, ∃ s ∈ T, e.key = .string s ∧ e.val = .bool true) (h2 : ∀ s ∈ T, ∃ e ∈ es.toList, e.key = .string s) (s : ByteArray) :
    (s ∉ T ∧ Instr.findNow .string (.string s) es.toList 0 = some none) ∨ (s ∈ T ∧ ∃ j e, Instr.findNow .string (.string s) es.toList 0 = some (some (j, .bool true)) ∧ es.toList[j]? = some e ∧ e.key = .string s) := by
  rcases Go.MapKept.findNow_spec (d := .string) (k := .string s) trivial es.toList 0 (fun x hx => by
    obtain ⟨t, _, hk, _⟩ := h1 x hx
    rw [hk]; trivial) with ⟨hn, ha⟩ | ⟨j, e, hn, hj, hk⟩
  · refine .inl ⟨fun hs => ?_, hn⟩
    obtain ⟨e, he, hk⟩ := h2 s hs
    exact ha e he hk
  · obtain ⟨t, ht, hk', hv⟩ := h1 e (List.mem_of_getElem? hj)
    rw [hk] at hk'
    cases hk'
    exact .inr ⟨ht, j, e, by rw [hn, hv, Nat.zero_add], hj, hk⟩

theorem SetMap.lookup {w : World} {b : Nat} {T : List ByteArray} (h : SetMap w b T) (s : ByteArray) :
    (Instr.lookup 100 (.map (some b)) (.string s) false).run Try.prog w = .ok (.bool (pos T s).isSome) w := by
  obtain ⟨es, c, h, h1, h2⟩ := h
  have hck := fun e => checkKey_str e 9999 s w
  rcases set_found (w := w) (b := b) h1 h2 s with ⟨hs, hn⟩ | ⟨hs, j, e, hn, _⟩
  · rw [pos_isSome_not hs]
    simp [Instr.lookup, run_underlying Try.underlying100, obj_get h, hck, Instr.findKey, run_underlying Try.underlying9, hn]
  · rw [pos_isSome hs]
    simp [Instr.lookup, run_underlying Try.underlying100, obj_get h, hck, Instr.findKey, run_underlying Try.underlying9, hn]

theorem SetMap.put {w : World} {b : Nat} {T : List ByteArray} (h : SetMap w b T) (s : ByteArray) :
    ∃ w1, (Instr.mapUpdate 100 (.map (some b)) (.string s) (.bool true)).run Try.prog w = .ok () w1 ∧ SetMap w1 b (T ++ [s]) ∧ w.grownBy w1 (some b) := by
  have hlt := h.lt
  obtain ⟨es, c, h, h1, h2⟩ := h
  have hck := fun e => checkKey_str e 9999 s w
  rcases set_found (w := w) (b := b) h1 h2 s with ⟨hs, hn⟩ | ⟨hs, j, e, hn, hj, hk⟩
  · refine ⟨_, ?_, ?_, grown_put w b (.map (es.push ⟨.string s, .bool true, c⟩) (c + 1))⟩
    · simp [Instr.mapUpdate, run_underlying Try.underlying100, obj_get h, hck, Instr.findKey, run_underlying Try.underlying9, hn, obj_set h]
    · refine ⟨_, _, heap_put hlt _, ?_, ?_⟩
      · intro x hx
        rw [Array.toList_push] at hx
        rcases List.mem_append.1 hx with hx | hx
        · obtain ⟨t, ht, hh⟩ := h1 x hx
          exact ⟨t, List.mem_append_left _ ht, hh⟩
        · rw [List.mem_singleton.1 hx]
          exact ⟨s, by simp, rfl, rfl⟩
      · intro t ht
        rw [Array.toList_push]
        rcases List.mem_append.1 ht with ht | ht
        · obtain ⟨x, hx, hh⟩ := h2 t ht
          exact ⟨x, List.mem_append_left _ hx, hh⟩
        · rw [List.mem_singleton.1 ht]
          exact ⟨_, List.mem_append_right _ (List.mem_singleton.2 rfl), rfl⟩
  · have hje : es[j]? = some e := by simpa using hj
    have hsb : Instr.sameBits 10000 (.string s) (.string s) = true := by
      unfold Instr.sameBits
      rw [ba_beq]; simp
    have hw : (es.modify j fun x => { key := .string s, val := .bool true, born := x.born }).toList = es.toList.modify j fun x => { key := .string s, val := .bool true, born := x.born } := by simp
    refine ⟨_, ?_, ?_, grown_put w b (.map (es.modify j fun x => { key := .string s, val := .bool true, born := x.born }) c)⟩
    · simp [Instr.mapUpdate, run_underlying Try.underlying100, obj_get h, hck, Instr.findKey, run_underlying Try.underlying9, hn, obj_set h, hje, hk, Instr.keyThatStays, hsb]
    · have hmem : ∀ x, x ∈ (es.modify j fun x => { key := .string s, val := .bool true, born := x.born }).toList → x ∈ es.toList ∨ (x.key = .string s ∧ x.val = .bool true) := by
        intro x hx
        obtain ⟨i, hi⟩ := List.getElem?_of_mem hx
        rw [hw, List.getElem?_modify] at hi
        by_cases hij : j = i
        · subst hij
          rw [hj] at hi
          simp at hi
          rw [← hi]
          exact .inr ⟨rfl, rfl⟩
        · simp only [if_neg hij] at hi
          exact .inl (List.mem_of_getElem? (by simpa using hi))
      refine ⟨_, _, heap_put hlt _, ?_, ?_⟩
      · intro x hx
        rcases hmem x hx with hx | hx
        · obtain ⟨t, ht, hh⟩ := h1 x hx
          exact ⟨t, List.mem_append_left _ ht, hh⟩
        · exact ⟨s, by simp, hx⟩
      · intro t ht
        have hts : t ∈ T := by
          rcases List.mem_append.1 ht with ht | ht
          · exact ht
          · rw [List.mem_singleton.1 ht]; exact hs
        obtain ⟨x, hx, hkx⟩ := h2 t hts
        obtain ⟨i, hi⟩ := List.getElem?_of_mem hx
        by_cases hij : j = i
        · subst hij
          rw [hj] at hi
          cases hi
          rw [hk] at hkx
          cases hkx
          refine ⟨{ key := .string s, val := .bool true, born := e.born }, ?_, rfl⟩
          rw [hw]
          exact List.mem_of_getElem? (i := j) (by rw [List.getElem?_modify]; simp [hj])
        · refine ⟨x, ?_, hkx⟩
          rw [hw]
          exact List.mem_of_getElem? (i := i) (by rw [List.getElem?_modify]; simp [hij, hi])

end Go.Proofs.Qxb6608735a
