import Derived.Test.Qxb6604717aDoorBase
namespace Go.Proofs.Qxb6604717aDoor
open Go.RowKit

def setMany : List Value → Nat → List Value → List Value
  | L, _, [] => L
  | L, i, v :: vs => setMany (L.set i v) (i + 1) vs
theorem setMany_eq (vs : List Value) : ∀ (L : List Value) (i : Nat), i + vs.length ≤ L.length → setMany L i vs = L.take i ++ (vs ++ L.drop (i + vs.length)) := by
  induction vs with
  | nil => intro L i _; simp [setMany]
  | cons v vs ih =>
    intro L i h
    simp only [List.length_cons] at h
    rw [setMany, ih _ _ (by simp; omega)]
    have e1 : (L.set i v).take (i + 1) = L.take i ++ [v] := by
      rw [List.take_succ_eq_append_getElem (by simp; omega), List.take_set_of_le (by omega)]
      simp
    have e2 : (L.set i v).drop (i + 1 + vs.length) = L.drop (i + (v :: vs).length) := by
      rw [List.drop_set_of_lt (by omega)]
      congr 1
      simp; omega
    rw [e1, e2]
    simp

section
variable {α : Type} (f : α → List Value) (N : Nat)
theorem flat_length (hN : ∀ x, (f x).length = N) (xs : List α) : (xs.flatMap f).length = xs.length * N := by
  induction xs with
  | nil => simp
  | cons x xs ih => simp only [List.flatMap_cons, List.length_append, ih, hN, List.length_cons, Nat.add_mul]; omega
theorem flat_split (xs : List α) (k : Nat) (h : k < xs.length) : xs.flatMap f = (xs.take k).flatMap f ++ (f xs[k] ++ (xs.drop (k + 1)).flatMap f) := by
  have e : xs = xs.take k ++ (xs[k] :: xs.drop (k + 1)) := by rw [List.getElem_cons_drop, List.take_append_drop]
  have e2 : (xs.take k ++ (xs[k] :: xs.drop (k + 1))).flatMap f = (xs.take k).flatMap f ++ (f xs[k] ++ (xs.drop (k + 1)).flatMap f) := by
    rw [List.flatMap_append, List.flatMap_cons]
  rw [← e2, ← e]
theorem flat_take (hN : ∀ x, (f x).length = N) (xs : List α) (k : Nat) (h : k ≤ xs.length) : ((xs.take k).flatMap f).length = k * N := by
  rw [flat_length f N hN, List.length_take, Nat.min_eq_left h]
theorem flat_get (hN : ∀ x, (f x).length = N) (xs : List α) (k : Nat) (h : k < xs.length) (j : Nat) (hj : j < N) : (xs.flatMap f)[k * N + j]? = (f xs[k])[j]? := by
  rw [flat_split f xs k h]
  have hl := flat_take f N hN xs k (Nat.le_of_lt h)
  rw [List.getElem?_append_right (by omega), List.getElem?_append_left (by rw [hN, hl]; omega), hl]
  congr 1
  omega
theorem flat_set (hN : ∀ x, (f x).length = N) (xs : List α) (k : Nat) (h : k < xs.length) (x : α) : setMany (xs.flatMap f) (k * N) (f x) = (xs.set k x).flatMap f := by
  have hl := flat_take f N hN xs k (Nat.le_of_lt h)
  have hx := hN x
  rw [setMany_eq _ _ _ (by rw [flat_length f N hN, hx]; have : (k + 1) * N ≤ xs.length * N := Nat.mul_le_mul_right N h; rw [Nat.add_mul] at this; omega)]
  have e : (xs.set k x).flatMap f = (xs.take k).flatMap f ++ (f x ++ (xs.drop (k + 1)).flatMap f) := by
    rw [flat_split f (xs.set k x) k (by simpa using h)]
    simp [List.take_set_of_le, List.drop_set_of_lt]
  rw [e, flat_split f xs k h, ← hl, List.take_left]
  congr 2
  have e3 : (f x).length = (f xs[k]).length := by rw [hN, hN]
  rw [e3, ← List.drop_drop, List.drop_left, List.drop_left]

theorem madeCells_flat (hN : ∀ x, (f x).length = N) (hp : 0 < N) (u : α) (cs : Array Value) (hcs : cs = (f u).toArray) (n : Nat) : (madeCells cs (n * N)).toList = (List.replicate n u).flatMap f := by
  have hsz : cs.size = N := by rw [hcs]; simpa using hN u
  apply List.ext_getElem?
  intro j
  by_cases hj : j < n * N
  · have hk : j / N < n := Nat.div_lt_of_lt_mul (by rw [Nat.mul_comm]; exact hj)
    have hr : j % N < N := Nat.mod_lt _ hp
    have e := flat_get f N hN (List.replicate n u) (j / N) (by simpa using hk) (j % N) hr
    have ej : j / N * N + j % N = j := by rw [Nat.mul_comm]; exact Nat.div_add_mod j N
    rw [ej, List.getElem_replicate] at e
    rw [e]
    have hm : (madeCells cs (n * N)).toList[j]? = some (cs[j % cs.size]!) := by
      simp [madeCells, hj]
    rw [hm, hsz, hcs]
    have hr' : j % N < (f u).length := by rw [hN]; exact hr
    simp [hr']
  · rw [List.getElem?_eq_none (by simp [madeCells]; omega), List.getElem?_eq_none (by rw [flat_length f N hN]; simp; omega)]

/-- 'make([]T, n)' of N-cell elements. -/
theorem wpList_make_flat {P : Program} {w : World} {ops : Array Oper} {rest : List Oper} {o : Oper} {a : Act} {Q : Exit → Act → World → Prop} (hN : ∀ x, (f x).length = N) (hp : 0 < N) (u : α)
    (hg : o.guard = none) (l c : Operand) (t : TypeId) (hop : o.op = Op.makeSlice t l c)
    (e : TypeId) (i : TypeInfo) (z : Value) (h1 : P.underlying t = some (.slice e)) (h2 : P.info? e = some i) (h3 : i.zero = some z) (h4 : i.size = N) (hz : z.cells = (f u).toArray)
    (kl kc : IntKind) (L C : Int) (n : Nat) (hl : a.eval l = .int kl L) (hc : a.eval c = .int kc C) (hL : L = (n : Int)) (hC : C = (n : Int)) (b2 : i.bytes * n ≤ 281474976710656) (b3 : n ≤ maxLen)
    (hK : ∀ w', RowAt w' w.heap.size e ((List.replicate n u).flatMap f) → Below w.heap.size w w' → wpList P ops Q rest (a.put o.dst (.slice (some ⟨w.heap.size, 0, none⟩) n n)) w') :
    wpList P ops Q (o :: rest) a w := by
  refine wpList_plain hg fun K hK' => ?_
  have h63' : (n : Int) ≤ 9223372036854775807 := by
    have h := b3
    simp [maxLen] at h
    omega
  have hb' : (i.bytes : Int) * (n : Int) ≤ 281474976710656 := by
    have h : ((i.bytes * n : Nat) : Int) ≤ 281474976710656 := by omega
    rwa [Int.natCast_mul] at h
  have hrun := run_make (P := P) w t e i z h1 h2 h3 kl kc n n (by omega) (Int.le_refl _) hb' h63'
  simp only [Int.toNat_natCast, h4] at hrun
  subst hL
  subst hC
  unfold Oper.wp
  simp [execOp, hop, hl, hc, hrun, Result.andThen]
  refine hK' _ _ (hK _ ?_ ((Below.refl _ _).alloc (Nat.le_refl _) _))
  have e1 : madeCells z.cells (n * N) = ((List.replicate n u).flatMap f).toArray := by
    rw [← madeCells_flat f N hN hp u z.cells hz n]
  rw [e1]
  exact heap_alloc_new w _

def upF (u : α) (xs : List α) (k : Nat) : List α := xs.take k ++ List.replicate (xs.length - k) u
theorem upF_zero (u : α) (xs : List α) : upF u xs 0 = List.replicate xs.length u := by simp [upF]
theorem upF_full (u : α) (xs : List α) : upF u xs xs.length = xs := by simp [upF]
theorem upF_length (u : α) (xs : List α) (k : Nat) (h : k ≤ xs.length) : (upF u xs k).length = xs.length := by simp [upF]; omega
theorem upF_succ (u : α) (xs : List α) (k : Nat) (h : k < xs.length) : (upF u xs k).set k xs[k] = upF u xs (k + 1) := by
  unfold upF
  have e : xs.length - k = (xs.length - (k + 1)) + 1 := by omega
  rw [e, List.replicate_succ, List.set_append_right _ _ (by simp; omega)]
  have e2 : k - (List.take k xs).length = 0 := by simp; omega
  rw [e2, List.set_cons_zero, List.take_succ_eq_append_getElem h, List.append_assoc]
  rfl
end

/-! ### Entries of a sequence; parts -/
structure SE where
  addr : ByteArray
  n : Int
def SE.cells (s : SE) : List Value := [.string s.addr, .int .i64 s.n]
theorem SE.len (s : SE) : s.cells.length = 2 := rfl
def SE.zero : SE := ⟨ByteArray.empty, 0⟩
/-- A part as it lies in memory. -/
structure RP where
  addr : ByteArray
  vo : Value
  pause : Int
  vs : Value
  comp : Bool
  run : Bool
  ind : ByteArray
  outs : Bool
  stop : Bool
  ver : Int
def RP.cells (p : RP) : List Value := [.string p.addr, p.vo, .int .i64 p.pause, p.vs, .bool p.comp, .bool p.run, .string p.ind, .bool p.outs, .bool p.stop, .int .i64 p.ver]
theorem RP.len (p : RP) : p.cells.length = 10 := rfl
def RP.zero : RP := ⟨ByteArray.empty, .slice none 0 0, 0, .slice none 0 0, false, false, ByteArray.empty, false, false, 0⟩

/-- The cells behind an address: N cells an element. -/
def CellsF {α : Type} (f : α → List Value) (N : Nat) (w : World) (a : Option Addr) (xs : List α) : Prop :=
  xs = [] ∨ ∃ b off, a = some ⟨b, off, none⟩ ∧ ∀ k (h : k < xs.length) j, j < N → w.cell? ⟨b, off + k * N + j, none⟩ = (f xs[k])[j]?
theorem RowAt.cellsF {α : Type} {f : α → List Value} {N : Nat} (hN : ∀ x, (f x).length = N) {w : World} {g : Nat} {e : TypeId} {xs : List α} (h : RowAt w g e (xs.flatMap f)) : CellsF f N w (some ⟨g, 0, none⟩) xs :=
  .inr ⟨g, 0, rfl, fun k hk j hj => by rw [Nat.zero_add, h.cell, flat_get f N hN xs k hk j hj]⟩
theorem CellsF.old {α : Type} {f : α → List Value} {N : Nat} (hN : ∀ x, (f x).length = N) {w w' : World} {a : Option Addr} {xs : List α} (h : CellsF f N w a xs) (hb : Below w.heap.size w w') : CellsF f N w' a xs := by
  rcases h with h | ⟨b, off, rfl, hc⟩
  · exact .inl h
  · refine .inr ⟨b, off, rfl, fun i hi j hj => ?_⟩
    have h := hc i hi j hj
    have hj' : j < (f xs[i]).length := by rw [hN]; exact hj
    rw [List.getElem?_eq_getElem hj'] at h
    rw [hb.cell (p := ⟨b, off + i * N + j, none⟩) (World.block_lt_of_cell? w _ h), hc i hi j hj]
end Go.Proofs.Qxb6604717aDoor
