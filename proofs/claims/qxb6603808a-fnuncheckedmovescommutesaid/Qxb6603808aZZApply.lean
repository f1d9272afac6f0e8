import Derived.Test.Qxb6603808aApply
import Derived.RegionTactic
import Derived.ChangeAlike
namespace Go.Proofs.Qxb6603808a
open Go.ChangeShapes Go.WideShapes Go.ChangeAt Go.RowKit

theorem Try.info40 : (Try.prog.info? 40).map (fun i => (i.zero, i.size, i.bytes)) = some (some (.agg #[.int .i32 0, .int .i64 0, .bool false]), 3, 24) := by kernel_rfl

def st0 : St := ⟨0, 0, false⟩

theorem madeCells_steps (n : Nat) : (madeCells #[.int .i32 0, .int .i64 0, .bool false] (n * 3)).toList = stepCells (List.replicate n st0) := by
  apply List.ext_getElem?
  intro j
  by_cases hj : j < n * 3
  · have hk : j / 3 < (List.replicate n st0).length := by simp; omega
    obtain ⟨h0, h1, h2⟩ := stepCells_get (List.replicate n st0) (j / 3) hk
    simp only [List.getElem_replicate, st0] at h0 h1 h2
    have e : (madeCells #[.int .i32 0, .int .i64 0, .bool false] (n * 3)).toList[j]? = some (#[Value.int .i32 0, .int .i64 0, .bool false][j % 3]!) := by
      simp [madeCells, hj]
    rw [e]
    rcases (show j % 3 = 0 ∨ j % 3 = 1 ∨ j % 3 = 2 by omega) with hr | hr | hr
    · rw [hr]; have : j = j / 3 * 3 := by omega
      rw [this]; exact h0.symm
    · rw [hr]; have : j = j / 3 * 3 + 1 := by omega
      rw [this]; exact h1.symm
    · rw [hr]; have : j = j / 3 * 3 + 2 := by omega
      rw [this]; exact h2.symm
  · rw [List.getElem?_eq_none (by simp [madeCells]; omega), List.getElem?_eq_none (by rw [stepCells_length]; simp; omega)]

/-- 'make([]T, n)' of three-cell elements. -/
theorem wpList_make_steps {P : Program} {w : World} {ops : Array Oper} {rest : List Oper} {o : Oper} {a : Act} {Q : Exit → Act → World → Prop}
    (hg : o.guard = none) (l c : Operand) (t : TypeId) (hop : o.op = Op.makeSlice t l c)
    (e : TypeId) (i : TypeInfo) (h1 : P.underlying t = some (.slice e)) (h2 : P.info? e = some i) (h3 : i.zero = some (.agg #[.int .i32 0, .int .i64 0, .bool false])) (h4 : i.size = 3)
    (kl kc : IntKind) (L C : Int) (n : Nat) (hl : a.eval l = .int kl L) (hc : a.eval c = .int kc C) (hL : L = (n : Int)) (hC : C = (n : Int)) (b2 : i.bytes * n ≤ 281474976710656) (b3 : n ≤ maxLen)
    (hK : ∀ w', RowAt w' w.heap.size e (stepCells (List.replicate n st0)) → Below w.heap.size w w' → wpList P ops Q rest (a.put o.dst (.slice (some ⟨w.heap.size, 0, none⟩) n n)) w') :
    wpList P ops Q (o :: rest) a w := by
  refine wpList_plain hg fun K hK' => ?_
  have h63' : (n : Int) ≤ 9223372036854775807 := by
    have h := b3
    simp [maxLen] at h
    omega
  have hb' : (i.bytes : Int) * (n : Int) ≤ 281474976710656 := by
    have h : ((i.bytes * n : Nat) : Int) ≤ 281474976710656 := by omega
    rwa [Int.natCast_mul] at h
  have hrun := run_make (P := P) w t e i _ h1 h2 h3 kl kc n n (by omega) (Int.le_refl _) hb' h63'
  simp only [Int.toNat_natCast, h4, Value.cells] at hrun
  subst hL
  subst hC
  unfold Oper.wp
  simp [execOp, hop, hl, hc, hrun, Result.andThen]
  refine hK' _ _ (hK _ ?_ ((Below.refl _ _).alloc (Nat.le_refl _) _))
  have e1 : (madeCells #[.int .i32 0, .int .i64 0, .bool false] (n * 3)) = (stepCells (List.replicate n st0)).toArray := by
    rw [← madeCells_steps]
  rw [e1]
  exact heap_alloc_new w _

def stUpTo (ss : List St) (k : Nat) : List St := ss.take k ++ List.replicate (ss.length - k) st0
theorem stUpTo_zero (ss : List St) : stUpTo ss 0 = List.replicate ss.length st0 := by simp [stUpTo]
theorem stUpTo_full (ss : List St) : stUpTo ss ss.length = ss := by simp [stUpTo]
theorem stUpTo_length (ss : List St) (k : Nat) (h : k ≤ ss.length) : (stUpTo ss k).length = ss.length := by simp [stUpTo]; omega
theorem stUpTo_succ (ss : List St) (k : Nat) (h : k < ss.length) : (stUpTo ss k).set k ss[k] = stUpTo ss (k + 1) := by
  unfold stUpTo
  have e : ss.length - k = (ss.length - (k + 1)) + 1 := by omega
  rw [e, List.replicate_succ, List.set_append_right _ _ (by simp; omega)]
  have e2 : k - (List.take k ss).length = 0 := by simp; omega
  rw [e2, List.set_cons_zero, List.take_succ_eq_append_getElem h, List.append_assoc]
  rfl
theorem stepCells_set (ss : List St) : ∀ (k : Nat) (s : St), k < ss.length → (((stepCells ss).set (k * 3) (.int .i32 s.slot)).set (k * 3 + 1) (.int .i64 s.read)).set (k * 3 + 2) (.bool s.inc) = stepCells (ss.set k s) := by
  induction ss with
  | nil => intro k s h; simp at h
  | cons t ss ih =>
    intro k s h
    have e : stepCells (t :: ss) = .int .i32 t.slot :: .int .i64 t.read :: .bool t.inc :: stepCells ss := rfl
    rw [e]
    match k with
    | 0 => rfl
    | k + 1 =>
      have := ih k s (by simpa using h)
      have e3 : (k + 1) * 3 = k * 3 + 3 := by omega
      rw [e3]
      show _ = .int .i32 t.slot :: .int .i64 t.read :: .bool t.inc :: stepCells (ss.set k s)
      rw [← this]
      rfl

def slotCells (ss : List St) : List Value := ss.map fun s => .int .i32 s.slot
def readCells (ss : List St) : List Value := ss.map fun s => .int .i64 s.read
def incCells (ss : List St) : List Value := ss.map fun s => .bool s.inc

set_option maxHeartbeats 1000000 in
theorem zzapply_any (zs : List Int) (a : Option Addr) (c : Nat) (ss : List St) (g1 g2 g3 : Nat) (w : World) (hs : Ints w a zs) (h1 : RowAt w g1 21 (slotCells ss)) (h2 : RowAt w g2 2 (readCells ss)) (h3 : RowAt w g3 4 (incCells ss))
    (hb : Below32 zs.length ss) (hwf : Wf32 ss) (hz : zs.length ≤ 1000000000) (hl : ss.length ≤ 1000000000) :
    Calls Try.prog 12 #[.slice a zs.length c, .slice (some ⟨g1, 0, none⟩) ss.length ss.length, .slice (some ⟨g2, 0, none⟩) ss.length ss.length, .slice (some ⟨g3, 0, none⟩) ss.length ss.length, .bool false] w fun e w' => ∃ a' c', e = .returned (.tuple #[.slice a' zs.length c', .bool true]) ∧ Ints w' a' (applyAll zs ss) ∧ a'.isNone = a.isNone ∧ Below w.heap.size w w' := by
  obtain ⟨i0, hi, hz0, hz1, hz2⟩ := info_parts Try.info40
  have l1 := h1.lt
  have l2 := h2.lt
  have l3 := h3.lt
  go_enter Try.func12, Try.ntmps12
  go_wp2_with (at_make; refine wpList_make_steps rfl _ _ 38 rfl 40 i0 Try.underlying38 hi hz0 hz1 _ _ _ _ ss.length rfl rfl rfl rfl (by rw [hz2]; omega) (by unfold maxLen; omega) ?_)
  intro w1 hrow hbw
  rw [← stUpTo_zero] at hrow
  clear hi hz0 hz1 hz2
  go_wp2_with fail
  go_loopw [13] (fun i wr => ∃ k : Nat, k ≤ ss.length ∧ i = .int .i64 k ∧ RowAt wr w.heap.size 40 (stepCells (stUpTo ss k)) ∧ Below w.heap.size w wr) (fun i _ => ss.length - (intOf i).toNat)
  case atStart => exact ⟨0, Nat.zero_le _, rfl, hrow, hbw⟩
  case round =>
    clear hrow hbw
    obtain ⟨k, hk, rfl, hrow, hbw⟩ := hrel
    by_cases hlt : k < ss.length
    · have hlti : (k : Int) < (ss.length : Int) := by omega
      have c1 : wr.cell? ⟨g1, k, none⟩ = some (.int .i32 ss[k].slot) := by rw [hbw.cell (p := ⟨g1, k, none⟩) l1, h1.cell]; simp [slotCells, hlt]
      have c2 : wr.cell? ⟨g2, k, none⟩ = some (.int .i64 ss[k].read) := by rw [hbw.cell (p := ⟨g2, k, none⟩) l2, h2.cell]; simp [readCells, hlt]
      have c3 : wr.cell? ⟨g3, k, none⟩ = some (.bool ss[k].inc) := by rw [hbw.cell (p := ⟨g3, k, none⟩) l3, h3.cell]; simp [incCells, hlt]
      have hul := stUpTo_length ss k hk
      obtain ⟨q0, q1, q2⟩ := stepCells_get (stUpTo ss k) k (by omega)
      have o0 := hrow.cell (k * 3)
      have o1 := hrow.cell (k * 3 + 1)
      have o2 := hrow.cell (k * 3 + 2)
      rw [q0] at o0
      rw [q1] at o1
      rw [q2] at o2
      have f0 := hrow.frozen (k * 3)
      have f1 := hrow.frozen (k * 3 + 1)
      have f2 := hrow.frozen (k * 3 + 2)
      have R := ((hrow.set (k * 3) (.int .i32 ss[k].slot)).set (k * 3 + 1) (.int .i64 ss[k].read)).set (k * 3 + 2) (.bool ss[k].inc)
      rw [stepCells_set _ _ _ (by omega), stUpTo_succ _ _ hlt] at R
      generalize ss[k] = s at *
      generalize (stUpTo ss k)[k] = s' at *
      clear q0 q1 q2
      go_wp2
      go_region
      go_wp2
      go_roundw
      case rel =>
        refine ⟨k + 1, by omega, by go_num, ?_, ?_⟩
        · exact R
        · exact (((hbw.setCell (p := ⟨w.heap.size, k * 3, none⟩) (Nat.le_refl _) _).setCell (p := ⟨w.heap.size, k * 3 + 1, none⟩) (Nat.le_refl _) _).setCell (p := ⟨w.heap.size, k * 3 + 2, none⟩) (Nat.le_refl _) _).drew
      case measure => simp [intOf]; omega
    · have e : k = ss.length := by omega
      subst e
      rw [stUpTo_full] at hrow
      have hsz := hbw.size
      have hmr : RowAt (wr.alloc (.cells #[.slice (some ⟨w.heap.size, 0, none⟩) ss.length ss.length, .bool false] 45)) wr.heap.size 45 [.slice (some ⟨w.heap.size, 0, none⟩) ss.length ss.length, .bool false] := heap_alloc_new wr _
      have hrow2 := hrow.alloc (.cells #[.slice (some ⟨w.heap.size, 0, none⟩) ss.length ss.length, .bool false] 45)
      have hbw2 := hbw.alloc hsz (.cells #[.slice (some ⟨w.heap.size, 0, none⟩) ss.length ss.length, .bool false] 45)
      have hs2 : Ints (wr.alloc (.cells #[.slice (some ⟨w.heap.size, 0, none⟩) ss.length ss.length, .bool false] 45)) a zs := by
        rcases hs with hs | ⟨b, off, rfl, hca⟩
        · exact .inl hs
        · refine .inr ⟨b, off, rfl, fun i hi => ?_⟩
          have hc := hca i hi
          rw [hbw2.cell (p := ⟨b, off + i, none⟩) (World.block_lt_of_cell? w _ hc)]
          exact hc
      clear hrow hbw
      go_wp2_with fail
      refine (apply_any zs a c ss w.heap.size wr.heap.size _ hs2 hrow2 hmr hb hwf hz hl).mono ?_
      rintro e w2 ⟨a', c', rfl, hi', hn', hb'⟩
      go_wp2_with fail
      go_ret2
      exact ⟨a', c', rfl, hi', hn', hbw2.trans (hb'.mono (by simp; omega))⟩
end Go.Proofs.Qxb6603808a
