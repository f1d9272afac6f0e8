import Derived.Test.Qxb6604717aDoorMapKit
import Derived.Laws.OwnMore
namespace Go.Proofs.Qxb6604717aDoor
open Go.RowKit

theorem hide {p : Prop} (h : p) : Hid p := h
theorem ret_bool {a b : Bool} (h : a = b) : Ending.returned (.bool a) = .returned (.bool b) := by rw [h]
theorem run_equalIn_nil {P : Program} (d : Nat) (t e : TypeId) (h : P.underlying t = some (.slice e)) (w : World) (a : Option Addr) (l c : Nat) : (Op.equalIn (d + 1) t (.slice a l c) (.slice none 0 0)).run P w = .ok a.isNone w := by
  cases a <;> simp [Op.equalIn, run_underlying h]
theorem run_equal_nil {P : Program} (t e : TypeId) (h : P.underlying t = some (.slice e)) (w : World) (a : Option Addr) (l c : Nat) : (Op.equal t (.slice a l c) (.slice none 0 0)).run P w = .ok a.isNone w := run_equalIn_nil 9999 t e h w a l c
theorem run_eql_nil {P : Program} (t e : TypeId) (h : P.underlying t = some (.slice e)) : ∀ (w : World) (a : Option Addr) (l c : Nat), (binOp .eql t (.slice a l c) (.slice none 0 0)).run P w = .ok (.bool a.isNone) w := by
  intro w a l c
  simp [binOp, run_equal_nil t e h w a l c]
theorem run_neq_nil {P : Program} (t e : TypeId) (h : P.underlying t = some (.slice e)) : ∀ (w : World) (a : Option Addr) (l c : Nat), (binOp .neq t (.slice a l c) (.slice none 0 0)).run P w = .ok (.bool (!a.isNone)) w := by
  intro w a l c
  simp [binOp, run_equal_nil t e h w a l c]

/-- 'make([]T, n)' of one-cell elements. -/
theorem wpList_make_row {P : Program} {w : World} {ops : Array Oper} {rest : List Oper} {o : Oper} {a : Act} {Q : Exit → Act → World → Prop}
    (hg : o.guard = none) (l c : Operand) (t : TypeId) (hop : o.op = Op.makeSlice t l c)
    (e : TypeId) (i : TypeInfo) (z : Value) (h1 : P.underlying t = some (.slice e)) (h2 : P.info? e = some i) (h3 : i.zero = some z) (h4 : i.size = 1) (hz : z.cells = #[z])
    (kl kc : IntKind) (L C : Int) (n : Nat) (hl : a.eval l = .int kl L) (hc : a.eval c = .int kc C) (hL : L = (n : Int)) (hC : C = (n : Int)) (b2 : i.bytes * n ≤ 281474976710656) (b3 : n ≤ maxLen)
    (hK : ∀ w', RowAt w' w.heap.size e (List.replicate n z) → Below w.heap.size w w' → wpList P ops Q rest (a.put o.dst (.slice (some ⟨w.heap.size, 0, none⟩) n n)) w') :
    wpList P ops Q (o :: rest) a w := by
  refine wpList_plain hg fun K hK' => ?_
  have h63' : (n : Int) ≤ 9223372036854775807 := by
    have h := b3
    simp [maxLen] at h
    omega
  have hb' : (i.bytes : Int) * (n : Int) ≤ 281474976710656 := by
    have h : ((i.bytes * n : Nat) : Int) ≤ 281474976710656 := by omega
    rwa [Int.natCast_mul] at h
  have hrun := run_make (P := P) w t e i z h1 h2 h3 kl kc n n (by omega) (Int.le_refl _) hb' h63'
  simp only [Int.toNat_natCast, h4, Nat.mul_one, hz] at hrun
  subst hL
  subst hC
  unfold Oper.wp
  simp [execOp, hop, hl, hc, hrun, Result.andThen]
  refine hK' _ _ (hK _ ?_ ((Below.refl _ _).alloc (Nat.le_refl _) _))
  have e1 : (madeCells #[z] n) = (List.replicate n z).toArray := by
    rw [← toList_madeCells_one]
  rw [e1]
  exact heap_alloc_new w _


/-- After k rounds of 'out[k] = s[k]', one cell an element. -/
def upV (vs : List Value) (z : Value) (k : Nat) : List Value := vs.take k ++ List.replicate (vs.length - k) z
theorem upV_zero (vs : List Value) (z : Value) : upV vs z 0 = List.replicate vs.length z := by simp [upV]
theorem upV_full (vs : List Value) (z : Value) : upV vs z vs.length = vs := by simp [upV]
theorem upV_length (vs : List Value) (z : Value) (k : Nat) (h : k ≤ vs.length) : (upV vs z k).length = vs.length := by simp [upV]; omega
theorem upV_succ (vs : List Value) (z : Value) (k : Nat) (h : k < vs.length) : (upV vs z k).set k vs[k] = upV vs z (k + 1) := by
  unfold upV
  have e : vs.length - k = (vs.length - (k + 1)) + 1 := by omega
  rw [e, List.replicate_succ, List.set_append_right _ _ (by simp; omega)]
  have e2 : k - (List.take k vs).length = 0 := by simp; omega
  rw [e2, List.set_cons_zero, List.take_succ_eq_append_getElem h, List.append_assoc]
  rfl

/-- The cells behind an address: one cell an element. -/
def Cells (w : World) (a : Option Addr) (vs : List Value) : Prop :=
  vs = [] ∨ ∃ b off, a = some ⟨b, off, none⟩ ∧ ∀ i (h : i < vs.length), w.cell? ⟨b, off + i, none⟩ = some vs[i]
theorem RowAt.cells {w : World} {g : Nat} {e : TypeId} {vs : List Value} (h : RowAt w g e vs) : Cells w (some ⟨g, 0, none⟩) vs :=
  .inr ⟨g, 0, rfl, fun i hi => by rw [Nat.zero_add, h.cell, List.getElem?_eq_getElem hi]⟩
theorem Cells.block {w : World} {b off : Nat} {vs : List Value} (h : ∀ i (h : i < vs.length), w.cell? ⟨b, off + i, none⟩ = some vs[i]) (hl : 0 < vs.length) : b < w.heap.size :=
  World.block_lt_of_cell? w _ (h 0 hl)
theorem Cells.old {w w' : World} {a : Option Addr} {vs : List Value} (h : Cells w a vs) (hb : Below w.heap.size w w') : Cells w' a vs := by
  rcases h with h | ⟨b, off, rfl, hc⟩
  · exact .inl h
  · exact .inr ⟨b, off, rfl, fun i hi => by rw [hb.cell (p := ⟨b, off + i, none⟩) (World.block_lt_of_cell? w _ (hc i hi))]; exact hc i hi⟩
end Go.Proofs.Qxb6604717aDoor
