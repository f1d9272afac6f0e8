import Derived.Test.Qxb6604639aKit
import Derived.Laws.OwnMore
namespace Go.Proofs.Qxb6604639a
open Go.RowKit

/-- The first 'zs.length' cells behind the address 'a' hold the numbers 'zs'. -/
def Ints (w : World) (a : Option Addr) (zs : List Int) : Prop :=
  zs = [] ∨ ∃ b off, a = some ⟨b, off, none⟩ ∧ ∀ i, i < zs.length → w.cell? ⟨b, off + i, none⟩ = some (.int .i64 (zs.getD i 0))

theorem run_equalIn_nil {P : Program} (d : Nat) (t e : TypeId) (h : P.underlying t = some (.slice e)) (w : World) (a : Option Addr) (l c : Nat) : (Op.equalIn (d + 1) t (.slice a l c) (.slice none 0 0)).run P w = .ok a.isNone w := by
  cases a <;> simp [Op.equalIn, run_underlying h]
theorem run_equal_nil {P : Program} (t e : TypeId) (h : P.underlying t = some (.slice e)) (w : World) (a : Option Addr) (l c : Nat) : (Op.equal t (.slice a l c) (.slice none 0 0)).run P w = .ok a.isNone w := run_equalIn_nil 9999 t e h w a l c
theorem run_eql_nil {P : Program} (t e : TypeId) (h : P.underlying t = some (.slice e)) : ∀ (w : World) (a : Option Addr) (l c : Nat), (binOp .eql t (.slice a l c) (.slice none 0 0)).run P w = .ok (.bool a.isNone) w := by
  intro w a l c
  simp [binOp, run_equal_nil t e h w a l c]
theorem run_neq_nil {P : Program} (t e : TypeId) (h : P.underlying t = some (.slice e)) : ∀ (w : World) (a : Option Addr) (l c : Nat), (binOp .neq t (.slice a l c) (.slice none 0 0)).run P w = .ok (.bool (!a.isNone)) w := by
  intro w a l c
  simp [binOp, run_equal_nil t e h w a l c]

/-- 'make([]T, n)' of one-cell elements. -/
theorem wpList_make_row {P : Program} {w : World} {ops : Array Oper} {rest : List Oper} {o : Oper} {a : Act} {Q : Exit → Act → World → Prop}
    (hg : o.guard = none) (l c : Operand) (t : TypeId) (hop : o.op = Op.makeSlice t l c)
    (e : TypeId) (i : TypeInfo) (z : Value) (h1 : P.underlying t = some (.slice e)) (h2 : P.info? e = some i) (h3 : i.zero = some z) (h4 : i.size = 1) (hz : z.cells = #[z])
    (kl kc : IntKind) (L C : Int) (n : Nat) (hl : a.eval l = .int kl L) (hc : a.eval c = .int kc C) (hL : L = (n : Int)) (hC : C = (n : Int)) (b2 : i.bytes * n ≤ 281474976710656) (b3 : n ≤ maxLen)
    (hK : ∀ w', RowAt w' w.heap.size e (List.replicate n z) → Below w.heap.size w w' → wpList P ops Q rest (a.put o.dst (.slice (some ⟨w.heap.size, 0, none⟩) n n)) w') :
    wpList P ops Q (o :: rest) a w := by
  refine wpList_plain hg fun K hK' => ?_
  have h63' : (n : Int) ≤ 9223372036854775807 := by
    have h := b3
    simp [maxLen] at h
    omega
  have hb' : (i.bytes : Int) * (n : Int) ≤ 281474976710656 := by
    have h : ((i.bytes * n : Nat) : Int) ≤ 281474976710656 := by omega
    rwa [Int.natCast_mul] at h
  have hrun := run_make (P := P) w t e i z h1 h2 h3 kl kc n n (by omega) (Int.le_refl _) hb' h63'
  simp only [Int.toNat_natCast, h4, Nat.mul_one, hz] at hrun
  subst hL
  subst hC
  unfold Oper.wp
  simp [execOp, hop, hl, hc, hrun, Result.andThen]
  refine hK' _ _ (hK _ ?_ ((Below.refl _ _).alloc (Nat.le_refl _) _))
  have e1 : (madeCells #[z] n) = (List.replicate n z).toArray := by
    rw [← toList_madeCells_one]
  rw [e1]
  exact heap_alloc_new w _

/-- Numbers in cells. -/
def cellsOf (k : IntKind) (zs : List Int) : List Value := zs.map (Value.int k)
theorem cellsOf_length (k : IntKind) (zs : List Int) : (cellsOf k zs).length = zs.length := by simp [cellsOf]
theorem cellsOf_get (k : IntKind) (zs : List Int) (j : Nat) (h : j < zs.length) : (cellsOf k zs)[j]? = some (.int k (zs.getD j 0)) := by
  simp [cellsOf, List.getD, h]
theorem cellsOf_set (k : IntKind) (zs : List Int) (j : Nat) (x : Int) : (cellsOf k zs).set j (.int k x) = cellsOf k (zs.set j x) := by
  simp [cellsOf, List.map_set]
theorem cellsOf_replicate (k : IntKind) (n : Nat) (x : Int) : List.replicate n (Value.int k x) = cellsOf k (List.replicate n x) := by
  simp [cellsOf]

/-- After k rounds of 'out[k] = s[k]'. -/
def upTo (zs : List Int) (m k : Nat) : List Int := zs.take k ++ List.replicate (m - k) 0
theorem upTo_zero (zs : List Int) (m : Nat) : upTo zs m 0 = List.replicate m 0 := by simp [upTo]
theorem upTo_succ (zs : List Int) (m k : Nat) (h : k < zs.length) (hm : k < m) : (upTo zs m k).set k (zs.getD k 0) = upTo zs m (k + 1) := by
  unfold upTo
  have e : m - k = (m - (k + 1)) + 1 := by omega
  rw [e, List.replicate_succ, List.set_append_right _ _ (by simp; omega)]
  have e2 : k - (List.take k zs).length = 0 := by simp; omega
  have e3 : zs.getD k 0 = zs[k] := by simp [List.getD, h]
  rw [e2, List.set_cons_zero, List.take_succ_eq_append_getElem h, e3, List.append_assoc]
  rfl
theorem upTo_length (zs : List Int) (m k : Nat) (h : k ≤ zs.length) (hm : k ≤ m) : (upTo zs m k).length = m := by
  unfold upTo; simp; omega
theorem upTo_full (zs : List Int) : upTo zs zs.length zs.length = zs := by simp [upTo]
theorem upTo_more (zs : List Int) (x : Int) : (upTo zs (zs.length + 1) zs.length).set zs.length x = zs ++ [x] := by
  unfold upTo
  rw [List.set_append_right _ _ (by simp)]
  simp
end Go.Proofs.Qxb6604639a
