import Derived.Test.Qxb6604717aDoorOpen
import Derived.BigQuiet
import Derived.Laws.Concat
import Derived.Laws.Rows
import Derived.Lib.ItoaLen
namespace Go.Proofs.Qxb6604717aDoor
open Go.ChangeShapes Go.WideShapes Go.ChangeAt Go.RowKit
set_option linter.unusedVariables false

/-- A slice's three words. -/
structure Sl where
  a : Option Addr
  n : Nat
  c : Nat
def Sl.v (s : Sl) : Value := .slice s.a s.n s.c
/-- A part of a checkpoint. -/
structure ZP where
  vo : Sl
  pause : Int
  vs : Sl
  comp : Bool
  run : Bool
  ind : ByteArray
  outs : Bool
  stop : Bool
  ver : Int
abbrev ZP.arr (z : ZP) : Array Value := #[.slice z.vo.a z.vo.n z.vo.c, .int .i64 z.pause, .slice z.vs.a z.vs.n z.vs.c, .bool z.comp, .bool z.run, .string z.ind, .bool z.outs, .bool z.stop, .int .i64 z.ver]
def ZP.val (z : ZP) : Value := .agg z.arr

theorem acting_any (z : ZP) (w : World) : Calls Tryd.prog 21 #[z.val] w fun e w' => e = .returned (.bool z.run) ∧ Below w.heap.size w w' := by
  unfold ZP.val
  have B := (Below.refl w.heap.size w).alloc (Nat.le_refl _) (.cells z.arr 42)
  go_enter Tryd.func21, Tryd.ntmps21
  go_wp2
  go_ret
  exact ⟨rfl, B⟩

/-- The part of a checkpoint out of a part. -/
def asZP (p : RP) (vo vs : Sl) : ZP := ⟨vo, p.pause, vs, p.comp, p.run, p.ind, p.outs, p.stop, p.ver⟩
theorem asPart_any (p : RP) (vo vs : Sl) (h1 : p.vo = vo.v) (h2 : p.vs = vs.v) (w : World) : Calls Tryd.prog 13 #[.agg p.cells.toArray] w fun e w' => e = .returned (asZP p vo vs).val ∧ Below w.heap.size w w' := by
  obtain ⟨a, b, pa, d, co, ru, ind, outs, st, ver⟩ := p
  obtain ⟨a1, n1, c1⟩ := vo
  obtain ⟨a2, n2, c2⟩ := vs
  simp only [Sl.v] at h1 h2
  subst h1 h2
  show Calls Tryd.prog 13 #[.agg #[.string a, .slice a1 n1 c1, .int .i64 pa, .slice a2 n2 c2, .bool co, .bool ru, .string ind, .bool outs, .bool st, .int .i64 ver]] w fun e w' => e = .returned (.agg #[.slice a1 n1 c1, .int .i64 pa, .slice a2 n2 c2, .bool co, .bool ru, .string ind, .bool outs, .bool st, .int .i64 ver]) ∧ Below w.heap.size w w'
  have hi : (Tryd.prog.info? 42).map (·.size) = some 9 := by kernel_rfl
  go_enter Tryd.func13, Tryd.ntmps13
  go_wp2
  refine bodyPost_ret (results_cell_row rfl _ _ (w.heap.size + 1) 42 #[.slice a1 n1 c1, .int .i64 pa, .slice a2 n2 c2, .bool co, .bool ru, .string ind, .bool outs, .bool st, .int .i64 ver] (0, 0) _ rfl (heap_alloc2_new w _ _) Tryd.underlying42 rfl hi) rfl ?_
  exact ⟨rfl, ((Below.refl _ w).alloc (Nat.le_refl _) _).alloc (by simp) _⟩

def pausedZ (n : Int) (vs : Sl) (c : Bool) (ind : ByteArray) : ZP := ⟨⟨none, 0, 0⟩, n, vs, c, false, ind, false, false, 0⟩
theorem paused_any (n : Int) (vs : Sl) (c : Bool) (ind : ByteArray) (w : World) : Calls Tryd.prog 22 #[.int .i64 n, vs.v, .bool c, .string ind] w fun e w' => e = .returned (pausedZ n vs c ind).val ∧ Below w.heap.size w w' := by
  obtain ⟨a1, n1, c1⟩ := vs
  show Calls Tryd.prog 22 #[.int .i64 n, .slice a1 n1 c1, .bool c, .string ind] w fun e w' => e = .returned (.agg #[.slice none 0 0, .int .i64 n, .slice a1 n1 c1, .bool c, .bool false, .string ind, .bool false, .bool false, .int .i64 0]) ∧ Below w.heap.size w w'
  have hi : (Tryd.prog.info? 42).map (·.size) = some 9 := by kernel_rfl
  go_enter Tryd.func22, Tryd.ntmps22
  go_wp2
  refine bodyPost_ret (results_cell_row rfl _ _ w.heap.size 42 #[.slice none 0 0, .int .i64 n, .slice a1 n1 c1, .bool c, .bool false, .string ind, .bool false, .bool false, .int .i64 0] (0, 0) _ rfl (heap_alloc_new w _) Tryd.underlying42 rfl hi) rfl ?_
  exact ⟨rfl, ((Below.refl _ w).alloc (Nat.le_refl _) _)⟩

/-- strconv.Itoa serves, here and in every world behind this one. -/
def Tab (w : World) : Prop := ∀ n : Int, -9223372036854775808 ≤ n → n ≤ 9223372036854775807 → ∀ w', Below w.heap.size w w' →
  Calls Tryd.prog 24 #[.int .i64 n] w' fun e w2 => e = .returned (.string ⟨(Lib.itoa n).toArray⟩) ∧ ∃ k os, w2 = Sort.grow (w'.drewN k) os
theorem Tab.below {w w' : World} (h : Tab w) (hb : Below w.heap.size w w') : Tab w' := fun n h0 h1 w2 hb2 => h n h0 h1 w2 (hb.trans (hb2.mono hb.size))
def pid (a : ByteArray) (n : Int) : ByteArray := a ++ ⟨#[35]⟩ ++ ⟨(Lib.itoa n).toArray⟩
theorem below_grow (w : World) (k : Nat) (os : Array Obj) : Below w.heap.size w (Sort.grow (w.drewN k) os) :=
  ⟨rfl, rfl, rfl, by simp, fun i hi => Sort.heap_grow_old (w.drewN k) os hi⟩
theorem pauseID_any (a : ByteArray) (n : Int) (w : World) (ht : Tab w) (h0 : -9223372036854775808 ≤ n) (h1 : n ≤ 9223372036854775807) (ha : a.size ≤ 1048576) : Calls Tryd.prog 23 #[.string a, .int .i64 n] w fun e w' => e = .returned (.string (pid a n)) ∧ Below w.heap.size w w' := by
  have hs := Lib.itoa_length_le n h0 h1
  have g1 : ¬ 9223372036854775807 < a.size + 1 := by omega
  have g2 : ¬ 9223372036854775807 < a.size + 1 + (Lib.itoa n).length := by omega
  go_enter Tryd.func23, Tryd.ntmps23
  go_wp2_with fail
  refine (ht n h0 h1 w (Below.refl _ _)).mono ?_
  rintro e w' ⟨rfl, k, os, rfl⟩
  go_wp2_with fail
  go_ret
  exact ⟨rfl, below_grow w k os⟩

theorem bytesEq_any (v v' : Value) (o : Option (List UInt8)) (w : World) (h : InB w v o) (h' : InB w v' o) : Calls Tryd.prog 20 #[v, v'] w fun e w' => e = .returned (.bool true) ∧ Below w.heap.size w w' := by
  have hnil := run_eql_nil (P := Tryd.prog) 34 5 Tryd.underlying34
  rcases h with ⟨rfl, rfl⟩ | ⟨a, c, l, rfl, rfl, h3, h4⟩
  · rcases h' with ⟨_, rfl⟩ | ⟨a, c, l, h1, rfl, h3, h4⟩
    · have hlt : ¬ ((0 : Int) < 0) := by omega
      go_enter Tryd.func20, Tryd.ntmps20
      go_wp2
      go_loop [5] (fun i => i = .int .i64 0) (fun _ => 0)
      case atStart => rfl
      case round =>
        subst hrel
        go_wp2
        go_ret
        exact ⟨rfl, Below.refl _ _⟩
    · cases h1
  · rcases h' with ⟨h1, _⟩ | ⟨a', c', l', h1, rfl, h3', h4'⟩
    · cases h1
    · obtain rfl := Option.some.inj h1
      have hlt : (l.length : Int) ≤ 1048576 := by omega
      go_enter Tryd.func20, Tryd.ntmps20
      go_wp2
      clear hnil
      go_loopw [5] (fun v wr => ∃ k : Nat, k ≤ l.length ∧ v = .int .i64 k ∧ Below w.heap.size w wr) (fun v _ => l.length - (intOf v).toNat)
      case atStart => exact ⟨0, Nat.zero_le _, rfl, Below.refl _ _⟩
      case round =>
        obtain ⟨k, hk, rfl, hb⟩ := hrel
        by_cases hkl : k < l.length
        · have hlti : (k : Int) < (l.length : Int) := by omega
          rcases h3.old hb with ha | ⟨ba, oa, hxa, hca⟩
          · exfalso; have hz := byteCells_length l; rw [ha] at hz; simp at hz; omega
          rcases h3'.old hb with ha | ⟨bb, ob, hxb, hcb⟩
          · exfalso; have hz := byteCells_length l; rw [ha] at hz; simp at hz; omega
          obtain rfl := Option.some.inj hxa
          obtain rfl := Option.some.inj hxb
          have c1 := hca k (by rw [byteCells_length]; exact hkl)
          have c2 := hcb k (by rw [byteCells_length]; exact hkl)
          have e : (byteCells l)[k]'(by rw [byteCells_length]; exact hkl) = .int .u8 (l[k].toNat : Int) := by simp [byteCells]
          rw [e] at c1 c2
          clear hca hcb h3 h3' hxa hxb e
          generalize (l[k].toNat : Int) = x at *
          go_wp2_with fail
          go_quiet (fail)
          go_wp2_with fail
          go_roundw
          case rel => exact ⟨k + 1, by omega, by go_num, below_dr hb _⟩
          case measure => simp [intOf]; omega
        · go_wp2_with fail
          go_ret
          exact ⟨rfl, hb⟩

set_option maxHeartbeats 2000000 in
theorem partEq_any (z z' : ZP) (o s : Option (List UInt8)) (w : World) (h1 : InB w z.vo.v o) (h2 : InB w z'.vo.v o) (h3 : InB w z.vs.v s) (h4 : InB w z'.vs.v s)
    (e : z' = { z with vo := z'.vo, vs := z'.vs }) : Calls Tryd.prog 12 #[z.val, z'.val] w fun e w' => e = .returned (.bool true) ∧ Below w.heap.size w w' := by
  obtain ⟨⟨a1, n1, c1⟩, pa, ⟨a2, n2, c2⟩, co, ru, ind, outs, st, ver⟩ := z
  obtain ⟨⟨a1', n1', c1'⟩, pa', ⟨a2', n2', c2'⟩, co', ru', ind', outs', st', ver'⟩ := z'
  simp only [Sl.v, ZP.mk.injEq, true_and] at h1 h2 h3 h4 e
  obtain ⟨rfl, rfl, rfl, rfl, rfl, rfl, rfl⟩ := e
  show Calls Tryd.prog 12 #[.agg #[.slice a1 n1 c1, .int .i64 pa', .slice a2 n2 c2, .bool co', .bool ru', .string ind', .bool outs', .bool st', .int .i64 ver'], .agg #[.slice a1' n1' c1', .int .i64 pa', .slice a2' n2' c2', .bool co', .bool ru', .string ind', .bool outs', .bool st', .int .i64 ver']] w fun e w' => e = .returned (.bool true) ∧ Below w.heap.size w w'
  have RA : RowAt ((w.alloc (.cells #[.slice a1 n1 c1, .int .i64 pa', .slice a2 n2 c2, .bool co', .bool ru', .string ind', .bool outs', .bool st', .int .i64 ver'] 42)).alloc (.cells #[.slice a1' n1' c1', .int .i64 pa', .slice a2' n2' c2', .bool co', .bool ru', .string ind', .bool outs', .bool st', .int .i64 ver'] 42)) w.heap.size 42 [.slice a1 n1 c1, .int .i64 pa', .slice a2 n2 c2, .bool co', .bool ru', .string ind', .bool outs', .bool st', .int .i64 ver'] := RowAt.alloc (show RowAt (w.alloc (.cells #[.slice a1 n1 c1, .int .i64 pa', .slice a2 n2 c2, .bool co', .bool ru', .string ind', .bool outs', .bool st', .int .i64 ver'] 42)) w.heap.size 42 [.slice a1 n1 c1, .int .i64 pa', .slice a2 n2 c2, .bool co', .bool ru', .string ind', .bool outs', .bool st', .int .i64 ver'] from heap_alloc_new w _) _
  have RB : RowAt ((w.alloc (.cells #[.slice a1 n1 c1, .int .i64 pa', .slice a2 n2 c2, .bool co', .bool ru', .string ind', .bool outs', .bool st', .int .i64 ver'] 42)).alloc (.cells #[.slice a1' n1' c1', .int .i64 pa', .slice a2' n2' c2', .bool co', .bool ru', .string ind', .bool outs', .bool st', .int .i64 ver'] 42)) (w.heap.size + 1) 42 [.slice a1' n1' c1', .int .i64 pa', .slice a2' n2' c2', .bool co', .bool ru', .string ind', .bool outs', .bool st', .int .i64 ver'] := heap_alloc2_new w _ _
  have BW : Below w.heap.size w ((w.alloc (.cells #[.slice a1 n1 c1, .int .i64 pa', .slice a2 n2 c2, .bool co', .bool ru', .string ind', .bool outs', .bool st', .int .i64 ver'] 42)).alloc (.cells #[.slice a1' n1' c1', .int .i64 pa', .slice a2' n2' c2', .bool co', .bool ru', .string ind', .bool outs', .bool st', .int .i64 ver'] 42)) := ((Below.refl _ w).alloc (Nat.le_refl _) _).alloc (by simp) _
  have SZ : ((w.alloc (.cells #[.slice a1 n1 c1, .int .i64 pa', .slice a2 n2 c2, .bool co', .bool ru', .string ind', .bool outs', .bool st', .int .i64 ver'] 42)).alloc (.cells #[.slice a1' n1' c1', .int .i64 pa', .slice a2' n2' c2', .bool co', .bool ru', .string ind', .bool outs', .bool st', .int .i64 ver'] 42)).heap.size = w.heap.size + 2 := by simp
  go_enter Tryd.func12, Tryd.ntmps12
  go_wp2_with fail
  generalize ((w.alloc (.cells #[.slice a1 n1 c1, .int .i64 pa', .slice a2 n2 c2, .bool co', .bool ru', .string ind', .bool outs', .bool st', .int .i64 ver'] 42)).alloc (.cells #[.slice a1' n1' c1', .int .i64 pa', .slice a2' n2' c2', .bool co', .bool ru', .string ind', .bool outs', .bool st', .int .i64 ver'] 42)) = w1 at *
  refine (bytesEq_any _ _ o w1 (h1.old BW) (h2.old BW)).mono ?_
  rintro e w2 ⟨rfl, hb2⟩
  have BW2 := BW.trans (hb2.mono (by omega))
  replace RA := RA.below hb2 RA.lt
  replace RB := RB.below hb2 RB.lt
  have ca0 : w2.cell? ⟨w.heap.size, 0, none⟩ = some (.slice a1 n1 c1) := by rw [RA.cell]; rfl
  have cb0 : w2.cell? ⟨w.heap.size + 1, 0, none⟩ = some (.slice a1' n1' c1') := by rw [RB.cell]; rfl
  have ca1 : w2.cell? ⟨w.heap.size, 1, none⟩ = some (.int .i64 pa') := by rw [RA.cell]; rfl
  have cb1 : w2.cell? ⟨w.heap.size + 1, 1, none⟩ = some (.int .i64 pa') := by rw [RB.cell]; rfl
  have ca2 : w2.cell? ⟨w.heap.size, 2, none⟩ = some (.slice a2 n2 c2) := by rw [RA.cell]; rfl
  have cb2 : w2.cell? ⟨w.heap.size + 1, 2, none⟩ = some (.slice a2' n2' c2') := by rw [RB.cell]; rfl
  have ca3 : w2.cell? ⟨w.heap.size, 3, none⟩ = some (.bool co') := by rw [RA.cell]; rfl
  have cb3 : w2.cell? ⟨w.heap.size + 1, 3, none⟩ = some (.bool co') := by rw [RB.cell]; rfl
  have ca4 : w2.cell? ⟨w.heap.size, 4, none⟩ = some (.bool ru') := by rw [RA.cell]; rfl
  have cb4 : w2.cell? ⟨w.heap.size + 1, 4, none⟩ = some (.bool ru') := by rw [RB.cell]; rfl
  have ca5 : w2.cell? ⟨w.heap.size, 5, none⟩ = some (.string ind') := by rw [RA.cell]; rfl
  have cb5 : w2.cell? ⟨w.heap.size + 1, 5, none⟩ = some (.string ind') := by rw [RB.cell]; rfl
  have ca6 : w2.cell? ⟨w.heap.size, 6, none⟩ = some (.bool outs') := by rw [RA.cell]; rfl
  have cb6 : w2.cell? ⟨w.heap.size + 1, 6, none⟩ = some (.bool outs') := by rw [RB.cell]; rfl
  have ca7 : w2.cell? ⟨w.heap.size, 7, none⟩ = some (.bool st') := by rw [RA.cell]; rfl
  have cb7 : w2.cell? ⟨w.heap.size + 1, 7, none⟩ = some (.bool st') := by rw [RB.cell]; rfl
  have ca8 : w2.cell? ⟨w.heap.size, 8, none⟩ = some (.int .i64 ver') := by rw [RA.cell]; rfl
  have cb8 : w2.cell? ⟨w.heap.size + 1, 8, none⟩ = some (.int .i64 ver') := by rw [RB.cell]; rfl
  go_wp2_with fail
  refine (bytesEq_any _ _ s w2 (h3.old BW2) (h4.old BW2)).mono ?_
  rintro e w3 ⟨rfl, hb3⟩
  have BW3 := BW2.trans (hb3.mono (Nat.le_trans (by omega) hb2.size))
  replace RA := RA.below hb3 RA.lt
  replace RB := RB.below hb3 RB.lt
  have da0 : w3.cell? ⟨w.heap.size, 0, none⟩ = some (.slice a1 n1 c1) := by rw [RA.cell]; rfl
  have db0 : w3.cell? ⟨w.heap.size + 1, 0, none⟩ = some (.slice a1' n1' c1') := by rw [RB.cell]; rfl
  have da1 : w3.cell? ⟨w.heap.size, 1, none⟩ = some (.int .i64 pa') := by rw [RA.cell]; rfl
  have db1 : w3.cell? ⟨w.heap.size + 1, 1, none⟩ = some (.int .i64 pa') := by rw [RB.cell]; rfl
  have da2 : w3.cell? ⟨w.heap.size, 2, none⟩ = some (.slice a2 n2 c2) := by rw [RA.cell]; rfl
  have db2 : w3.cell? ⟨w.heap.size + 1, 2, none⟩ = some (.slice a2' n2' c2') := by rw [RB.cell]; rfl
  have da3 : w3.cell? ⟨w.heap.size, 3, none⟩ = some (.bool co') := by rw [RA.cell]; rfl
  have db3 : w3.cell? ⟨w.heap.size + 1, 3, none⟩ = some (.bool co') := by rw [RB.cell]; rfl
  have da4 : w3.cell? ⟨w.heap.size, 4, none⟩ = some (.bool ru') := by rw [RA.cell]; rfl
  have db4 : w3.cell? ⟨w.heap.size + 1, 4, none⟩ = some (.bool ru') := by rw [RB.cell]; rfl
  have da5 : w3.cell? ⟨w.heap.size, 5, none⟩ = some (.string ind') := by rw [RA.cell]; rfl
  have db5 : w3.cell? ⟨w.heap.size + 1, 5, none⟩ = some (.string ind') := by rw [RB.cell]; rfl
  have da6 : w3.cell? ⟨w.heap.size, 6, none⟩ = some (.bool outs') := by rw [RA.cell]; rfl
  have db6 : w3.cell? ⟨w.heap.size + 1, 6, none⟩ = some (.bool outs') := by rw [RB.cell]; rfl
  have da7 : w3.cell? ⟨w.heap.size, 7, none⟩ = some (.bool st') := by rw [RA.cell]; rfl
  have db7 : w3.cell? ⟨w.heap.size + 1, 7, none⟩ = some (.bool st') := by rw [RB.cell]; rfl
  have da8 : w3.cell? ⟨w.heap.size, 8, none⟩ = some (.int .i64 ver') := by rw [RA.cell]; rfl
  have db8 : w3.cell? ⟨w.heap.size + 1, 8, none⟩ = some (.int .i64 ver') := by rw [RB.cell]; rfl
  go_wp2_with fail
  go_ret
  exact ⟨rfl, BW3⟩
end Go.Proofs.Qxb6604717aDoor
