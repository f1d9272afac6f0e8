import Derived.Test.Qxb6604717aDoorGuard
import Derived.Deep.AppendLies
import Derived.Deep.RegionHeld3
import Derived.Deep.CutRange
namespace Go.Proofs.Qxb6604717aDoor
open Go.ChangeShapes Go.WideShapes Go.ChangeAt Go.RowKit
set_option linter.unusedVariables false

/-! ### Lists of keys and values -/
section
variable {α : Type}
def lookG : List (ByteArray × α) → ByteArray → Option α
  | [], _ => none
  | p :: l, k => if p.1 = k then some p.2 else lookG l k
def putG : List (ByteArray × α) → ByteArray → α → List (ByteArray × α)
  | [], k, v => [(k, v)]
  | p :: l, k, v => if p.1 = k then (k, v) :: l else p :: putG l k v
def mapV (f : α → Value) (l : List (ByteArray × α)) : AL := l.map fun p => (p.1, f p.2)
theorem mapV_length (f : α → Value) (l : List (ByteArray × α)) : (mapV f l).length = l.length := by simp [mapV]
theorem look_mapV (f : α → Value) (l : List (ByteArray × α)) (k : ByteArray) : look (mapV f l) k = (lookG l k).map f := by
  induction l with
  | nil => rfl
  | cons p l ih =>
    show look ((p.1, f p.2) :: mapV f l) k = _
    unfold look lookG
    by_cases h : p.1 = k
    · simp [h]
    · simp [h, ih]
theorem put_mapV (f : α → Value) (l : List (ByteArray × α)) (k : ByteArray) (v : α) : put (mapV f l) k (f v) = mapV f (putG l k v) := by
  induction l with
  | nil => rfl
  | cons p l ih =>
    show put ((p.1, f p.2) :: mapV f l) k (f v) = _
    unfold put putG
    by_cases h : p.1 = k
    · simp [h, mapV]
    · simp only [h, if_false, ih]; rfl
theorem lookG_putG (l : List (ByteArray × α)) (k j : ByteArray) (v : α) : lookG (putG l k v) j = if k = j then some v else lookG l j := by
  induction l with
  | nil => simp [putG, lookG]
  | cons p l ih =>
    unfold putG
    by_cases h : p.1 = k
    · by_cases hj : k = j
      · simp [h, hj, lookG]
      · have : ¬ p.1 = j := fun e => hj (h ▸ e)
        simp [h, hj, lookG]
    · by_cases hj : k = j
      · subst hj
        simp [h, lookG, ih]
      · by_cases hp : p.1 = j
        · have : ¬ k = j := hj
          simp [hj, lookG, hp, show ¬ j = k from fun e => hj e.symm]
        · simp [h, lookG, hp, ih, hj]
def keys (l : List (ByteArray × α)) : List ByteArray := l.map (·.1)
theorem keys_putG (l : List (ByteArray × α)) (k : ByteArray) (v : α) : keys (putG l k v) = if (lookG l k).isSome then keys l else keys l ++ [k] := by
  induction l with
  | nil => rfl
  | cons p l ih =>
    unfold putG lookG
    by_cases h : p.1 = k
    · simp [h, keys]
    · simp only [h, if_false]
      show p.1 :: keys (putG l k v) = _
      rw [ih]
      split <;> rfl
theorem length_putG (l : List (ByteArray × α)) (k : ByteArray) (v : α) : (putG l k v).length = if (lookG l k).isSome then l.length else l.length + 1 := by
  have := congrArg List.length (keys_putG l k v)
  simp only [keys, List.length_map] at this
  rw [this]
  split <;> simp
theorem lookG_none {l : List (ByteArray × α)} {k : ByteArray} : lookG l k = none ↔ k ∉ keys l := by
  induction l with
  | nil => simp [lookG, keys]
  | cons p l ih =>
    unfold lookG
    by_cases h : p.1 = k
    · simp [h, keys]
    · simp only [h, if_false, ih, keys, List.map_cons, List.mem_cons]
      exact ⟨fun h1 h2 => h2.elim (fun e => h e.symm) h1, fun h1 h2 => h1 (.inr h2)⟩
theorem nodup_putG {l : List (ByteArray × α)} (k : ByteArray) (v : α) (h : (keys l).Nodup) : (keys (putG l k v)).Nodup := by
  rw [keys_putG]
  split
  · exact h
  · rename_i hn
    rw [List.nodup_append]
    refine ⟨h, by simp, ?_⟩
    intro a ha b hb
    simp at hb
    subst hb
    rintro rfl
    exact (lookG_none.1 (Option.not_isSome_iff_eq_none.1 hn)) ha
theorem lookG_of_mem {l : List (ByteArray × α)} (h : (keys l).Nodup) {k : ByteArray} {v : α} (hm : (k, v) ∈ l) : lookG l k = some v := by
  induction l with
  | nil => simp at hm
  | cons p l ih =>
    unfold lookG
    simp only [keys, List.map_cons, List.nodup_cons] at h
    rcases List.mem_cons.1 hm with rfl | hm
    · simp
    · have : ¬ p.1 = k := fun e => h.1 (by rw [e]; exact List.mem_map.2 ⟨_, hm, rfl⟩)
      simp [this, ih h.2 hm]
theorem mem_of_lookG {l : List (ByteArray × α)} {k : ByteArray} {v : α} (h : lookG l k = some v) : (k, v) ∈ l := by
  induction l with
  | nil => simp [lookG] at h
  | cons p l ih =>
    unfold lookG at h
    by_cases e : p.1 = k
    · simp [e] at h; subst h; subst e; simp
    · simp [e] at h; exact List.mem_cons_of_mem _ (ih h)
end

/-! ### Parts of a checkpoint, owned -/
def zOf (q : PQ) (vo vs : Sl) : ZP := ⟨vo, q.pause, vs, q.comp, q.run, q.ind, q.outs, q.stop, q.ver⟩
def OwnZ (w : World) (z : ZP) (q : PQ) : Prop := z = zOf q z.vo z.vs ∧ OwnB w z.vo.v q.out ∧ OwnB w z.vs.v q.state
/-- Whatever rows of bytes there were are still there. -/
def K5 (w w' : World) : Prop := ∀ g xs, RowAt w g 5 xs → RowAt w' g 5 xs
theorem K5.refl (w : World) : K5 w w := fun _ _ h => h
theorem K5.trans {a b c : World} (h : K5 a b) (k : K5 b c) : K5 a c := fun g xs r => k g xs (h g xs r)
theorem K5.below {w w' : World} (h : Below w.heap.size w w') : K5 w w' := fun g xs r => r.below h r.lt
theorem K5.kept {w w' : World} {S : List Nat} (k : Kept w w' S) (n5 : No5 w S) : K5 w w' := fun g xs r => r.kept k (fun hm => n5 g hm _ r)
theorem OwnB.k5 {w w' : World} {v : Value} {o : Option (List UInt8)} (h : OwnB w v o) (k : K5 w w') : OwnB w' v o := by
  rcases h with h | ⟨g, l, h1, h2, h3, h4⟩
  · exact .inl h
  · exact .inr ⟨g, l, h1, h2, k g _ h3, h4⟩
theorem OwnZ.k5 {w w' : World} {z : ZP} {q : PQ} (h : OwnZ w z q) (k : K5 w w') : OwnZ w' z q := ⟨h.1, h.2.1.k5 k, h.2.2.k5 k⟩
theorem Own.k5 {w w' : World} {p : RP} {q : PQ} (h : Own w p q) (k : K5 w w') : Own w' p q := by
  obtain ⟨vo, vs, h1, h2, h3⟩ := h
  exact ⟨vo, vs, h1, h2.k5 k, h3.k5 k⟩
theorem Owns.k5 {w w' : World} {ps : List RP} {qs : List PQ} (h : Owns w ps qs) (k : K5 w w') : Owns w' ps qs := ⟨h.1, fun i h1 h2 => (h.2 i h1 h2).k5 k⟩

def MOwn (w : World) : List (ByteArray × ZP) → List (ByteArray × PQ) → Prop
  | [], [] => True
  | a :: m, b :: g => a.1 = b.1 ∧ OwnZ w a.2 b.2 ∧ MOwn w m g
  | _, _ => False
theorem MOwn.k5 {w w' : World} (k : K5 w w') : ∀ {m : List (ByteArray × ZP)} {g : List (ByteArray × PQ)}, MOwn w m g → MOwn w' m g
  | [], [], _ => trivial
  | _ :: _, _ :: _, h => ⟨h.1, h.2.1.k5 k, h.2.2.k5 k⟩
  | [], _ :: _, h => h.elim
  | _ :: _, [], h => h.elim
theorem MOwn.keys {w : World} : ∀ {m : List (ByteArray × ZP)} {g : List (ByteArray × PQ)}, MOwn w m g → keys m = keys g
  | [], [], _ => rfl
  | a :: m, b :: g, h => by show a.1 :: Qxb6604717aDoor.keys m = b.1 :: Qxb6604717aDoor.keys g; rw [h.1, h.2.2.keys]
  | [], _ :: _, h => h.elim
  | _ :: _, [], h => h.elim
theorem MOwn.put {w : World} {k : ByteArray} {z : ZP} {q : PQ} (hz : OwnZ w z q) : ∀ {m : List (ByteArray × ZP)} {g : List (ByteArray × PQ)}, MOwn w m g → MOwn w (putG m k z) (putG g k q)
  | [], [], _ => ⟨rfl, hz, trivial⟩
  | a :: m, b :: g, h => by
    unfold putG
    by_cases e : a.1 = k
    · have e' : b.1 = k := h.1 ▸ e
      simp only [e, e', if_true]
      exact ⟨rfl, hz, h.2.2⟩
    · have e' : ¬ b.1 = k := fun c => e (h.1.trans c)
      simp only [e, e', if_false]
      exact ⟨h.1, h.2.1, h.2.2.put hz⟩
  | [], _ :: _, h => h.elim
  | _ :: _, [], h => h.elim
theorem MOwn.look {w : World} {k : ByteArray} {q : PQ} : ∀ {m : List (ByteArray × ZP)} {g : List (ByteArray × PQ)}, MOwn w m g → lookG g k = some q → ∃ z, lookG m k = some z ∧ OwnZ w z q
  | [], [], _, h => by simp [lookG] at h
  | a :: m, b :: g, h, hl => by
    unfold lookG at hl ⊢
    by_cases e : a.1 = k
    · have e' : b.1 = k := h.1 ▸ e
      simp only [e', if_true] at hl
      obtain rfl := Option.some.inj hl
      exact ⟨a.2, by simp [e], h.2.1⟩
    · have e' : ¬ b.1 = k := fun c => e (h.1.trans c)
      simp only [e', if_false] at hl
      obtain ⟨z, h1, h2⟩ := h.2.2.look hl
      exact ⟨z, by simp [e, h1], h2⟩
  | [], _ :: _, h, _ => h.elim
  | _ :: _, [], h, _ => h.elim

/-- What zzBuild lays. -/
def gParts (qs : List PQ) : List (ByteArray × PQ) := qs.foldl (fun g q => putG g q.addr q) []
def gSeq (ss : List SE) : List (ByteArray × Int) := ss.foldl (fun g s => putG g s.addr s.n) []
theorem gParts_take (qs : List PQ) (k : Nat) (h : k < qs.length) : gParts (qs.take (k + 1)) = putG (gParts (qs.take k)) qs[k].addr qs[k] := by
  unfold gParts
  rw [List.take_succ_eq_append_getElem h, List.foldl_append]
  rfl
theorem gSeq_take (ss : List SE) (k : Nat) (h : k < ss.length) : gSeq (ss.take (k + 1)) = putG (gSeq (ss.take k)) ss[k].addr ss[k].n := by
  unfold gSeq
  rw [List.take_succ_eq_append_getElem h, List.foldl_append]
  rfl

/-! ### A checkpoint -/
abbrev iV (n : Int) : Value := .int .i64 n
def cpL (m s t : Value) : List Value := [.int .i64 0, .slice none 0 0, .int .i64 0, .bool false, .slice none 0 0, m, s, .slice none 0 0, .int .i64 0, t, .slice none 0 0]
def MAt {α : Type} (f : α → Value) (B : Nat) (w : World) (v : Value) (m : List (ByteArray × α)) : Prop :=
  (v = .map none ∧ m = []) ∨ ∃ b, v = .map (some b) ∧ B ≤ b ∧ MapAt w b (mapV f m)
end Go.Proofs.Qxb6604717aDoor
