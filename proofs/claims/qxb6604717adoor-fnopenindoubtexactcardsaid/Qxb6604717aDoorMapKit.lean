import Derived.Test.Qxb6604717aDoorKit
import Derived.Maps.RangeRun
import Derived.Maps.RangeWalk
namespace Go.Proofs.Qxb6604717aDoor
open Go.RowKit
open Go.ChangeMaps (setBlock)

/-! ### Maps keyed by strings, nothing ever deleted: the i-th entry bears the stamp i -/
abbrev AL := List (ByteArray × Value)
def entsFrom (n : Nat) : AL → List MapEntry
  | [] => []
  | p :: l => ⟨.string p.1, p.2, n⟩ :: entsFrom (n + 1) l
def ents (l : AL) : Array MapEntry := (entsFrom 0 l).toArray
def MapAt (w : World) (r : Nat) (l : AL) : Prop := w.heap[r]? = some (.map (ents l) l.length)

def look : AL → ByteArray → Option Value
  | [], _ => none
  | p :: l, k => if p.1 = k then some p.2 else look l k
def put : AL → ByteArray → Value → AL
  | [], k, v => [(k, v)]
  | p :: l, k, v => if p.1 = k then (k, v) :: l else p :: put l k v

theorem entsFrom_length (l : AL) : ∀ n, (entsFrom n l).length = l.length := by
  induction l with
  | nil => intro n; rfl
  | cons p l ih => intro n; simp [entsFrom, ih]
theorem ents_size (l : AL) : (ents l).size = l.length := by unfold ents; simp [entsFrom_length]
theorem entsFrom_get (l : AL) : ∀ (n i : Nat), (entsFrom n l)[i]? = (l[i]?).map fun p => ⟨.string p.1, p.2, n + i⟩ := by
  induction l with
  | nil => intro n i; simp [entsFrom]
  | cons p l ih =>
    intro n i
    cases i with
    | zero => simp [entsFrom]
    | succ i => simp [entsFrom, ih, Nat.add_assoc, Nat.add_comm 1 i]

theorem ba_beq (a b : ByteArray) : (a == b) = decide (a = b) := by
  show (a.data == b.data) = _
  rcases a with ⟨a⟩
  rcases b with ⟨b⟩
  by_cases h : a = b
  · subst h; simp
  · simp [h]
theorem same_string (a b : ByteArray) : Instr.sameNow .string (.string a) (.string b) = some (decide (a = b)) := by
  show some (a == b) = _
  rw [ba_beq]

/-- Where the key stands. -/
def idx : AL → ByteArray → Option Nat
  | [], _ => none
  | p :: l, k => if p.1 = k then some 0 else (idx l k).map (· + 1)

theorem findNow_ents (k : ByteArray) (l : AL) : ∀ n i, Instr.findNow .string (.string k) (entsFrom n l) i = some ((idx l k).bind fun j => (look l k).map fun v => (i + j, v)) := by
  induction l with
  | nil => intro n i; rfl
  | cons p l ih =>
    intro n i
    unfold entsFrom Instr.findNow
    rw [same_string]
    by_cases h : p.1 = k
    · have hb : decide (k = p.1) = true := by simp [h]
      rw [hb]
      simp [idx, look, h]
    · have hb : decide (k = p.1) = false := by simp; exact fun e => h e.symm
      rw [hb]
      simp only [ih, idx, look, h, if_false]
      congr 1
      cases idx l k with
      | none => rfl
      | some j => simp [Nat.add_comm j 1, Nat.add_assoc]
theorem idx_some {l : AL} {k : ByteArray} {v : Value} (h : look l k = some v) : ∃ j, idx l k = some j := by
  induction l with
  | nil => simp [look] at h
  | cons p l ih =>
    unfold look at h
    unfold idx
    by_cases e : p.1 = k
    · simp [e]
    · rw [if_neg e] at h
      obtain ⟨j, hj⟩ := ih h
      simp [e, hj]
theorem idx_none {l : AL} {k : ByteArray} (h : look l k = none) : idx l k = none := by
  induction l with
  | nil => rfl
  | cons p l ih =>
    unfold look at h
    unfold idx
    by_cases e : p.1 = k
    · simp [e] at h
    · rw [if_neg e] at h
      simp [e, ih h]

theorem put_new {l : AL} {k : ByteArray} (v : Value) (h : look l k = none) : put l k v = l ++ [(k, v)] := by
  induction l with
  | nil => rfl
  | cons p l ih =>
    unfold look at h
    unfold put
    by_cases e : p.1 = k
    · simp [e] at h
    · rw [if_neg e] at h
      simp [e, ih h]
theorem put_old {l : AL} {k : ByteArray} (v : Value) {j : Nat} (h : idx l k = some j) : put l k v = l.set j (k, v) ∧ j < l.length ∧ ((l[j]?).map (·.1)) = some k := by
  induction l generalizing j with
  | nil => simp [idx] at h
  | cons p l ih =>
    unfold idx at h
    unfold put
    by_cases e : p.1 = k
    · simp [e] at h; subst h; simp [e]
    · rw [if_neg e] at h
      obtain ⟨i, hi, rfl⟩ := Option.map_eq_some_iff.1 h
      obtain ⟨h1, h2, h3⟩ := ih hi
      simp [e, h1]
      exact ⟨h2, by simpa using h3⟩
theorem entsFrom_set (l : AL) : ∀ (n j : Nat) (p : ByteArray × Value), entsFrom n (l.set j p) = (entsFrom n l).modify j fun e => { e with key := .string p.1, val := p.2 } := by
  induction l with
  | nil => intro n j p; simp [entsFrom]
  | cons q l ih =>
    intro n j p
    cases j with
    | zero => simp [entsFrom]
    | succ j => simp [entsFrom, ih]
theorem entsFrom_snoc (l : AL) : ∀ (n : Nat) (p : ByteArray × Value), entsFrom n (l ++ [p]) = entsFrom n l ++ [⟨.string p.1, p.2, n + l.length⟩] := by
  induction l with
  | nil => intro n p; simp [entsFrom]
  | cons q l ih => intro n p; simp [entsFrom, ih, Nat.add_assoc, Nat.add_comm 1]

section
variable {P : Program} {T K E : TypeId}

theorem run_check1 (hK : P.underlying K = some .string) (em : Bool) (s : ByteArray) (w : World) (n : Nat) : (Instr.checkKey em (n + 1) K (.string s)).run P w = .ok () w := by
  simp [Instr.checkKey, run_underlying hK]
theorem run_check (hK : P.underlying K = some .string) (em : Bool) (s : ByteArray) (w : World) : (Instr.checkKey em 10000 K (.string s)).run P w = .ok () w := run_check1 hK em s w 9999
theorem run_find (hK : P.underlying K = some .string) (s : ByteArray) (l : AL) (w : World) : (Instr.findKey K (.string s) (ents l).toList).run P w = .ok ((idx l s).bind fun j => (look l s).map fun v => (j, v)) w := by
  have := findNow_ents s l 0 0
  simp only [Nat.zero_add] at this
  simp [Instr.findKey, run_underlying hK, ents, this]
theorem run_stays (s : ByteArray) (w : World) : (Instr.keyThatStays (.string s) (.string s)).run P w = .ok (.string s) w := by
  have : Instr.sameBits 10000 (.string s) (.string s) = true := by
    unfold Instr.sameBits
    rw [ba_beq]; simp
  simp [Instr.keyThatStays, this]

/-- 'm[k]' and 'v, ok := m[k]'. -/
def got (l : AL) (k : ByteArray) (z : Value) (c : Bool) : Value := if c then .tuple #[(look l k).getD z, .bool (look l k).isSome] else (look l k).getD z
theorem run_look (hT : P.underlying T = some (.map K E)) (hK : P.underlying K = some .string) {z : Value} (hz : ∀ w, (zeroValue E).run P w = .ok z w) {w : World} {r : Nat} {l : AL} (h : MapAt w r l) (s : ByteArray) (c : Bool) :
    (Instr.lookup T (.map (some r)) (.string s) c).run P w = .ok (got l s z c) w := by
  unfold MapAt at h
  cases hl : look l s with
  | none =>
    have hi := idx_none hl
    simp [Instr.lookup, run_underlying hT, getObj, Sem.run, h, run_check hK, run_find hK, hl, hi, hz, got]
  | some v =>
    obtain ⟨j, hj⟩ := idx_some hl
    simp [Instr.lookup, run_underlying hT, getObj, Sem.run, h, run_check hK, run_find hK, hl, hj, got]
theorem run_look_nil (hT : P.underlying T = some (.map K E)) (hK : P.underlying K = some .string) {z : Value} (hz : ∀ w, (zeroValue E).run P w = .ok z w) (w : World) (s : ByteArray) (c : Bool) :
    (Instr.lookup T (.map none) (.string s) c).run P w = .ok (got [] s z c) w := by
  have e := run_find (P := P) hK s [] w
  simp [ents, entsFrom] at e
  simp [Instr.lookup, run_underlying hT, run_check hK, e, hz, got, look, idx]

/-- 'm[k] = v'. -/
theorem run_put (hT : P.underlying T = some (.map K E)) (hK : P.underlying K = some .string) {w : World} {r : Nat} {l : AL} (h : MapAt w r l) (s : ByteArray) (v : Value) :
    (Instr.mapUpdate T (.map (some r)) (.string s) v).run P w = .ok () (setBlock w r (.map (ents (put l s v)) (put l s v).length)) := by
  unfold MapAt at h
  cases hl : look l s with
  | none =>
    have hi := idx_none hl
    have e := put_new v hl
    have e2 : ents (put l s v) = (ents l).push ⟨.string s, v, l.length⟩ := by
      unfold ents; rw [e, entsFrom_snoc]; simp
    simp [Instr.mapUpdate, run_underlying hT, getObj, setObj, Sem.run, h, run_check hK, run_find hK, hl, hi, setBlock, e2]
    rw [e]; simp
  | some u =>
    obtain ⟨j, hj⟩ := idx_some hl
    obtain ⟨e1, e2, e3⟩ := put_old v hj
    have e4 : ents (put l s v) = (ents l).modify j fun e => { e with key := .string s, val := v } := by
      unfold ents; rw [e1, entsFrom_set]; simp
    have e5 : ((ents l)[j]?.map (·.key)).getD (.string s) = .string s := by
      unfold ents
      simp only [List.getElem?_toArray, entsFrom_get]
      cases hq : l[j]? with
      | none => rfl
      | some p => rw [hq] at e3; simp at e3; simp [e3]
    simp [Instr.mapUpdate, run_underlying hT, getObj, setObj, Sem.run, h, run_check hK, run_find hK, hl, hj, setBlock, e4]
    rw [e5, run_stays]
    simp [Result.andThen, h, e1]

/-- 'len(m)'. -/
theorem run_len (hT : P.underlying T = some (.map K E)) {w : World} {r : Nat} {l : AL} (h : MapAt w r l) (ty : TypeId) : (Builtin.len_ #[T] ty #[.map (some r)]).run P w = .ok (.int .i64 l.length) w := by
  unfold MapAt at h
  simp [Builtin.len_, run_underlying hT, MapKept.run_getObj_map h, goInt, Result.andThen, ents_size]
theorem run_len_nil (hT : P.underlying T = some (.map K E)) (w : World) (ty : TypeId) : (Builtin.len_ #[T] ty #[.map none]).run P w = .ok (.int .i64 0) w := by
  simp [Builtin.len_, run_underlying hT, goInt, Result.andThen]
end

/-! ### The frame -/
structure Kept (w w' : World) (S : List Nat) : Prop where
  os : w'.os = w.os
  tape : w'.tape = w.tape
  output : w'.output = w.output
  size : w.heap.size ≤ w'.heap.size
  block : ∀ k, k < w.heap.size → k ∉ S → w'.heap[k]? = w.heap[k]?

theorem Kept.refl (w : World) (S : List Nat) : Kept w w S := ⟨rfl, rfl, rfl, Nat.le_refl _, fun _ _ _ => rfl⟩
/-- May block g be written? -/
def May (w : World) (S : List Nat) (g : Nat) : Prop := g ∈ S ∨ w.heap.size ≤ g
theorem Kept.trans {w w1 w2 : World} {S S' : List Nat} (h : Kept w w1 S) (k : Kept w1 w2 S') (hs : ∀ g ∈ S', May w S g) : Kept w w2 S :=
  ⟨k.os.trans h.os, k.tape.trans h.tape, k.output.trans h.output, Nat.le_trans h.size k.size, fun i hi hn => by
    rw [k.block i (Nat.lt_of_lt_of_le hi h.size) (fun hm => by rcases hs i hm with h' | h'; exact hn h'; omega), h.block i hi hn]⟩
theorem Kept.below {w w1 w2 : World} {S : List Nat} (h : Kept w w1 S) (k : Below w1.heap.size w1 w2) : Kept w w2 S :=
  h.trans (S' := []) ⟨k.os, k.tape, k.output, k.size, fun i hi _ => k.block i hi⟩ (fun _ h => absurd h List.not_mem_nil)
theorem Kept.dr {w w1 : World} {S : List Nat} (h : Kept w w1 S) (n : Nat) : Kept w (w1.drewN n) S := ⟨h.os, h.tape, h.output, h.size, h.block⟩
theorem Kept.drew {w w1 : World} {S : List Nat} (h : Kept w w1 S) : Kept w w1.drew S := ⟨h.os, h.tape, h.output, h.size, h.block⟩
theorem Kept.alloc {w w1 : World} {S : List Nat} (h : Kept w w1 S) (o : Obj) : Kept w (w1.alloc o) S :=
  ⟨h.os, h.tape, h.output, Nat.le_trans h.size (by simp), fun i hi hn => by rw [Below.heap_alloc w1 o i (Nat.lt_of_lt_of_le hi h.size), h.block i hi hn]⟩
theorem Kept.set {w w1 : World} {S : List Nat} {g : Nat} (h : Kept w w1 S) (hg : May w S g) (o : Nat) (v : Value) : Kept w (w1.setCell ⟨g, o, none⟩ v) S :=
  ⟨h.os, h.tape, h.output, by simpa [World.setCell] using h.size, fun i hi hn => by
    rw [Below.heap_setCell _ _ _ _ (show i ≠ g by rintro rfl; rcases hg with h' | h'; exact hn h'; omega)]; exact h.block i hi hn⟩
theorem Kept.setB {w w1 : World} {S : List Nat} {g : Nat} (h : Kept w w1 S) (hg : May w S g) (o : Obj) : Kept w (setBlock w1 g o) S :=
  ⟨h.os, h.tape, h.output, by simpa [setBlock] using h.size, fun i hi hn => by
    have : i ≠ g := by rintro rfl; rcases hg with h' | h'; exact hn h'; omega
    show (w1.heap.setIfInBounds g o)[i]? = _
    rw [Array.getElem?_setIfInBounds_ne (Ne.symm this)]; exact h.block i hi hn⟩
theorem Kept.grown {w w1 w2 : World} {S : List Nat} {row : Option Nat} (h : Kept w w1 S) (k : w1.grownBy w2 row) (hr : ∀ g, row = some g → May w S g) : Kept w w2 S :=
  ⟨k.os.trans h.os, k.tape.trans h.tape, k.output.trans h.output, Nat.le_trans h.size k.size, fun i hi hn => by
    rw [k.block i (Nat.lt_of_lt_of_le hi h.size) (fun e => by rcases hr i e.symm with h' | h'; exact hn h'; omega), h.block i hi hn]⟩
theorem Kept.toBelow {B : Nat} {w w' : World} {S : List Nat} (h : Kept w w' S) (hB : B ≤ w.heap.size) (hs : ∀ g ∈ S, B ≤ g) : Below B w w' :=
  ⟨h.os, h.tape, h.output, h.size, fun k hk => h.block k (by omega) (fun hm => by have := hs k hm; omega)⟩
theorem Kept.mono {w w' : World} {S S' : List Nat} (h : Kept w w' S) (hs : ∀ g ∈ S, May w S' g) : Kept w w' S' := (Kept.refl w S').trans h hs
theorem RowAt.kept {w w' : World} {S : List Nat} {g : Nat} {e : TypeId} {xs : List Value} (h : RowAt w g e xs) (k : Kept w w' S) (hg : g ∉ S) : RowAt w' g e xs := by
  unfold RowAt; rw [k.block g h.lt hg]; exact h
theorem MapAt.lt {w : World} {r : Nat} {l : AL} (h : MapAt w r l) : r < w.heap.size := (Array.getElem?_eq_some_iff.1 h).1
theorem MapAt.kept {w w' : World} {S : List Nat} {r : Nat} {l : AL} (h : MapAt w r l) (k : Kept w w' S) (hg : r ∉ S) : MapAt w' r l := by
  unfold MapAt; rw [k.block r h.lt hg]; exact h
theorem MapAt.put {w : World} {r : Nat} {l : AL} (h : MapAt w r l) (s : ByteArray) (v : Value) : MapAt (setBlock w r (.map (ents (put l s v)) (put l s v).length)) r (put l s v) := by
  show (w.heap.setIfInBounds r _)[r]? = _
  rw [Array.getElem?_setIfInBounds_self_of_lt h.lt]
theorem row_ne_map {w : World} {g r : Nat} {e : TypeId} {xs : List Value} {l : AL} (h : RowAt w g e xs) (h' : MapAt w r l) : g ≠ r := by
  rintro rfl; unfold RowAt at h; unfold MapAt at h'; rw [h] at h'; cases h'
theorem row_ne_row {w : World} {g g' : Nat} {e e' : TypeId} {xs xs' : List Value} (h : RowAt w g e xs) (h' : RowAt w g' e' xs') (hne : e ≠ e') : g ≠ g' := by
  rintro rfl; unfold RowAt at h h'; rw [h] at h'; injection h' with h'; injection h' with _ h2 _; exact hne h2
theorem mapAt_new (w : World) : MapAt (w.alloc (.map #[] 0)) w.heap.size [] := heap_alloc_new w _

/-! ### Ranging -/
def IterAt (w : World) (r bm n : Nat) (seen : List Nat) : Prop := w.heap[r]? = some (.mapIter (some bm) n seen.toArray n)
theorem IterAt.lt {w : World} {r bm n : Nat} {seen : List Nat} (h : IterAt w r bm n seen) : r < w.heap.size := (Array.getElem?_eq_some_iff.1 h).1
theorem IterAt.kept {w w' : World} {S : List Nat} {r bm n : Nat} {seen : List Nat} (h : IterAt w r bm n seen) (k : Kept w w' S) (hg : r ∉ S) : IterAt w' r bm n seen := by
  unfold IterAt; rw [k.block r h.lt hg]; exact h
theorem row_ne_iter {w : World} {g r bm n : Nat} {seen : List Nat} {e : TypeId} {xs : List Value} (h : RowAt w g e xs) (h' : IterAt w r bm n seen) : g ≠ r := by
  rintro rfl; unfold RowAt at h; unfold IterAt at h'; rw [h] at h'; cases h'
theorem map_ne_iter {w : World} {g r bm n : Nat} {seen : List Nat} {l : AL} (h : MapAt w g l) (h' : IterAt w r bm n seen) : g ≠ r := by
  rintro rfl; unfold MapAt at h; unfold IterAt at h'; rw [h] at h'; cases h'

theorem mem_ents {l : AL} {e : MapEntry} (h : e ∈ (ents l).toList) : ∃ i p, l[i]? = some p ∧ e = ⟨.string p.1, p.2, i⟩ := by
  unfold ents at h
  obtain ⟨i, hi⟩ := List.getElem?_of_mem h
  simp only [entsFrom_get, Nat.zero_add] at hi
  obtain ⟨p, hp, rfl⟩ := Option.map_eq_some_iff.1 hi
  exact ⟨i, p, hp, rfl⟩
theorem ents_mem {l : AL} {i : Nat} {p : ByteArray × Value} (h : l[i]? = some p) : (⟨.string p.1, p.2, i⟩ : MapEntry) ∈ (ents l).toList := by
  unfold ents
  apply List.mem_of_getElem? (i := i)
  simp only [entsFrom_get, Nat.zero_add, h]
  rfl
theorem entsFrom_born (l : AL) : ∀ n, (entsFrom n l).map (·.born) = List.range' n l.length := by
  induction l with
  | nil => intro n; rfl
  | cons p l ih => intro n; simp [entsFrom, ih, List.range'_succ]
theorem ents_nodup (l : AL) : ((ents l).toList.map (·.born)).Nodup := by
  unfold ents
  simp only [entsFrom_born]
  exact List.nodup_range'

theorem wpList_next_at {P : Program} {w : World} {ops : Array Oper} {rest : List Oper} {o : Oper} {a : Act} {Q : Exit → Act → World → Prop}
    (hg : o.guard = none) (it : Operand) (hop : o.op = Op.next it false) (r bm : Nat) (seen : List Nat) (l : AL) (hit : a.eval it = .pointer (some ⟨r, 0, none⟩))
    (hr : IterAt w r bm l.length seen) (hm : MapAt w bm l)
    (hDone : (∀ i, i < l.length → i ∈ seen) → wpList P ops Q rest (a.put o.dst (.tuple #[.bool false])) w)
    (hMore : ∀ (i : Nat) (p : ByteArray × Value) (w' : World), l[i]? = some p → i ∉ seen → IterAt w' r bm l.length (seen ++ [i]) → Kept w w' [r] →
      (Instr.entry (.pointer (some ⟨r, 0, none⟩))).run P w' = .ok (.tuple #[.string p.1, p.2]) w' → wpList P ops Q rest (a.put o.dst (.tuple #[.bool true, .string p.1, p.2])) w') :
    wpList P ops Q (o :: rest) a w := by
  refine wpList_plain hg fun K' hK' => ?_
  unfold Oper.wp
  rcases run_next_at (P := P) w o.type r bm l.length l.length seen.toArray (ents l) l.length hr hm (fun x hx => by
    obtain ⟨i, p, hp, rfl⟩ := mem_ents hx
    exact (List.getElem?_eq_some_iff.1 hp).1) (Nat.le_refl _) with ⟨h0, hrun⟩ | ⟨e, he, w1, hw1, hrun⟩
  · simp [execOp, hop, hit, hrun, Result.andThen]
    refine hK' _ _ (hDone fun i hi => ?_)
    apply Classical.byContradiction
    intro hn
    have hmem : (⟨.string (l[i]).1, (l[i]).2, i⟩ : MapEntry) ∈ leftOf (ents l) seen.toArray := by
      unfold leftOf
      rw [Array.mem_filter]
      refine ⟨?_, by simpa using hn⟩
      have := ents_mem (l := l) (i := i) (p := l[i]) (List.getElem?_eq_getElem hi)
      simpa using this
    rw [Array.eq_empty_of_size_eq_zero h0] at hmem
    simp at hmem
  · simp [execOp, hop, hit, hrun, Result.andThen]
    have he' : e ∈ leftOf (ents l) seen.toArray := by simpa using he
    unfold leftOf at he'
    rw [Array.mem_filter] at he'
    obtain ⟨i, p, hp, rfl⟩ := mem_ents (l := l) (by simpa using he'.1)
    have hns : i ∉ seen := by simpa using he'.2
    have hw1' : Kept w w1 [r] := by rcases hw1 with rfl | rfl; exact Kept.refl _ _; exact (Kept.refl _ _).drew
    have hr1 : IterAt w1 r bm l.length seen := by rcases hw1 with rfl | rfl <;> exact hr
    have hm1 : MapAt w1 bm l := by rcases hw1 with rfl | rfl <;> exact hm
    have hne := map_ne_iter hm hr
    have hI : IterAt (setBlock w1 r (.mapIter (some bm) l.length (seen ++ [i]).toArray l.length)) r bm l.length (seen ++ [i]) := by
      show (w1.heap.setIfInBounds r _)[r]? = _
      rw [Array.getElem?_setIfInBounds_self_of_lt hr1.lt]
    have hM : MapAt (setBlock w1 r (.mapIter (some bm) l.length (seen ++ [i]).toArray l.length)) bm l := by
      show (w1.heap.setIfInBounds r _)[bm]? = _
      rw [Array.getElem?_setIfInBounds_ne (Ne.symm hne)]; exact hm1
    refine hK' _ _ (hMore i p _ hp hns hI (hw1'.setB (.inl (by simp)) _) ?_)
    have hI' : (setBlock w1 r (.mapIter (some bm) l.length (seen ++ [i]).toArray l.length)).heap[r]? = some (.mapIter (some bm) l.length (seen.toArray.push i) l.length) := by
      have := hI
      unfold IterAt at this
      rw [this]; simp
    exact run_entry_at _ r bm l.length seen.toArray (ents l) l.length ⟨.string p.1, p.2, i⟩ hI' hM (ents_mem hp) (ents_nodup l)

theorem run_range_at {P : Program} {T K E : TypeId} (hT : P.underlying T = some (.map K E)) {w : World} {bm : Nat} {l : AL} (h : MapAt w bm l) :
    (Instr.range T (.map (some bm))).run P w = .ok (.pointer (some ⟨w.heap.size, 0, none⟩)) (w.alloc (.mapIter (some bm) l.length #[] l.length)) :=
  run_range_map w T K E bm (ents l) l.length hT h
theorem iter_new (w : World) (bm n : Nat) : IterAt (w.alloc (.mapIter (some bm) n #[] n)) w.heap.size bm n [] := heap_alloc_new w _
end Go.Proofs.Qxb6604717aDoor
