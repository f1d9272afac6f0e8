import Derived.Test.Qxb6604717aDoorRead
import Derived.Test.Qxb6604717aDoorRows
namespace Go.Proofs.Qxb6604717aDoor
open Go.ChangeShapes Go.WideShapes Go.ChangeAt Go.RowKit
set_option linter.unusedVariables false

/-- The table that strconv.Itoa reads, out of what the row lists. -/
theorem tab_of {W : World} (h : laidMetH Tryd.prog Rows.fnOpenInDoubtSettlesRow.laid W) : ∀ w', Below W.heap.size W w' → Tab w' := by
  rw [MakeChecks.laidMetH_plain _ _ _ (by kernel_rfl)] at h
  have h3 := laidMet.tail (laidMet.tail h)
  intro w' hb n h0 h1 w2 hb2
  exact Any.strconv_Itoa Tryd.laysM171 n h0 h1 w2 (TabIs_below (g := 0) (by kernel_rfl) (Lib.tabIs_of_head (g := 0) (t := 70) (e := 58) (n := 20) (by kernel_rfl) (by kernel_rfl) Tryd.underlying70 Tryd.underlying58 (by kernel_rfl) (by kernel_rfl) h3) (hb.trans (hb2.mono hb.size)))
theorem own : ownKnob Tryd.prog.godebug = none := by kernel_rfl
theorem laidOut : laidOutB Tryd.prog = true := by kernel_rfl
theorem door_met (os : Os) (args : Array Value) : laidMetH Tryd.prog Rows.fnOpenInDoubtSettlesRow.laid ((World.doorLaid Tryd.prog 24 os).forCall (fun _ _ => 0) ⟨#[], args, []⟩).memory :=
  laidMetH_of_parts3 (fuel := 8) (laidMet_of_run' 8 (by kernel_rfl) (by kernel_rfl)) (by kernel_rfl) (by kernel_rfl)

/-- The arguments as they are read. -/
theorem args_of {H : Type} {enc : TypeId × Value → H} (W : World) (hT : ∀ w', Below W.heap.size W w' → Tab w') (a0 a1 a2 : Option Addr) (l0 c0 l1 c1 l2 c2 : Nat) (sp : Nat → Bool) (f0 f1 f2 : Nat) (x0 x1 x2 : DataW H × List MemPlace)
    (h0 : DataW.trod enc Tryd.prog W 0 sp true f0 22 [.slice a0 l0 c0] = some x0) (h1 : DataW.trod enc Tryd.prog W 0 sp true f1 23 [.slice a1 l1 c1] = some x1) (h2 : DataW.trod enc Tryd.prog W 0 sp true f2 24 [.slice a2 l2 c2] = some x2) :
    ∃ ps qs ss ts, l0 = ps.length ∧ l1 = ss.length ∧ l2 = ts.length ∧ Args W ps qs ss ts a0 a1 a2 c0 c1 c2 := by
  obtain ⟨ps, qs, rfl, i0, n0, q0, r0, p0, m0⟩ := parts_of h0
  obtain ⟨ss, rfl, i1, n1, s1, m1⟩ := seqs_of h1
  obtain ⟨ts, rfl, i2, n2, s2, m2⟩ := strs_of h2
  exact ⟨ps, qs, ss, ts, rfl, rfl, rfl, ⟨i0, i1, i2, n0, n1, n2, q0, r0, s1, s2, m0, m1, m2, p0, hT⟩⟩
end Go.Proofs.Qxb6604717aDoor
