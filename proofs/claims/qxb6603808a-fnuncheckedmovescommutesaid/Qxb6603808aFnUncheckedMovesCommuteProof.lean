/- FnUncheckedMovesCommute: the row, out of the walk 'moves_small'. The frame after the kit's skeleton for slices of integers, turned to slices of structs. -/
import Derived.Test.Qxb6603808aMoves
import Derived.WalkKit
import Derived.ProofKit
import Derived.OpenShut
import Derived.ShutString
import Derived.ChangeOld
import Derived.Below
import Derived.Deep.Slices
namespace Go.Proofs.Qxb6603808a.fnUncheckedMovesCommute
open Go.ChangeShapes Go.WideShapes Go.ChangeAt Go.RowKit
open Go.ChangeMaps (open_string shut_string)
open Go.Deep
set_option linter.unusedVariables false

theorem own : ownKnob Try.prog.godebug = none := by kernel_rfl
theorem laidOut : laidOutB Try.prog = true := by kernel_rfl
theorem cells2 : Try.prog.cellsOf 2 = 1 := by kernel_rfl
theorem cells4 : Try.prog.cellsOf 4 = 1 := by kernel_rfl
theorem cells21 : Try.prog.cellsOf 21 = 1 := by kernel_rfl
theorem cells32 : Try.prog.cellsOf 32 = 3 := by kernel_rfl

/-- What the walk is told of a slice of numbers that came in. -/
theorem ints_of {H : Type} {enc : TypeId × Value → H} {W : World} {sp : Nat → Bool} {fuel : Nat} {a : Option Addr} {len cap : Nat} {x : DataW H × List MemPlace}
    (hf : DataW.trod enc Try.prog W 0 sp true fuel 22 [.slice a len cap] = some x) : ∃ zs : List Int, zs.length = len ∧ Ints W a zs ∧ len ≤ maxLen := by
  rcases open_slice1 Try.underlying22 cells2 hf with ⟨hcs, _⟩ | ⟨y, l, c, m, n, V, D, Pl, hcs, _, hl, hm, hmm, _, hx⟩
  · simp at hcs
    obtain ⟨rfl, rfl, rfl⟩ := hcs
    exact ⟨[], rfl, .inl rfl, by simp⟩
  · simp at hcs
    obtain ⟨rfl, rfl, rfl⟩ := hcs
    have hlm : len ≤ m := by rw [hmm]; split <;> omega
    obtain ⟨S, hS⟩ := choose_lt (α := Int) (p := fun i v => W.cell? (y.add i) = some (.int .i64 v)) (n := len) (fun i hi => by
      obtain ⟨h1, h2⟩ := hx i (by omega)
      obtain ⟨v, hv, _, _⟩ := DataW.trod_int Try.underlying2 h2
      simp only [List.cons.injEq, and_true] at hv
      exact ⟨v, by rw [h1, hv]⟩)
    refine ⟨(List.range len).map S, by simp, ?_, by omega⟩
    by_cases h0 : len = 0
    · exact .inl (by rw [h0]; rfl)
    · obtain ⟨b, off, spt⟩ := y
      have hs : spt = .none := by simpa [Addr.add] using World.cell?_spot (hS 0 (by omega))
      subst hs
      refine .inr ⟨b, off, rfl, fun i hi => ?_⟩
      have hi' : i < len := by simpa using hi
      have := hS i hi'
      rw [add_plain] at this
      rw [this]
      simp [List.getD, hi']

/-- What the walk is told of a slice of steps that came in. -/
theorem steps_of {H : Type} {enc : TypeId × Value → H} {W : World} {sp : Nat → Bool} {fuel : Nat} {a : Option Addr} {len cap : Nat} {x : DataW H × List MemPlace}
    (hf : DataW.trod enc Try.prog W 0 sp true fuel 23 [.slice a len cap] = some x) : ∃ ss : List St, ss.length = len ∧ Steps W a ss ∧ Wf32 ss ∧ len ≤ maxLen := by
  rcases open_slice Try.underlying23 hf with ⟨hcs, _⟩ | ⟨y, l, c, m, n, D, Pl, hcs, _, hl, hm, hmm, _, hx⟩
  · simp at hcs
    obtain ⟨rfl, rfl, rfl⟩ := hcs
    exact ⟨[], rfl, .inl rfl, fun _ h => absurd h List.not_mem_nil, by simp⟩
  · simp at hcs
    obtain ⟨rfl, rfl, rfl⟩ := hcs
    have hlm : len ≤ m := by rw [hmm]; split <;> omega
    rw [cells32] at hx
    obtain ⟨S, hS⟩ := choose_lt (α := Int × Int × Bool) (p := fun i v => (W.cell? (y.add (i * 3)) = some (.int .i32 v.1) ∧ W.cell? (y.add (i * 3 + 1)) = some (.int .i64 v.2.1) ∧ W.cell? (y.add (i * 3 + 2)) = some (.bool v.2.2)) ∧ (Lit.int .i32 v.1).wf = true) (n := len) (fun i hi => by
      obtain ⟨cs', h1, h2⟩ := hx i (by omega)
      obtain ⟨_, hlen, hcell⟩ := World.cells?_some h1
      obtain ⟨xs, k, hk, hxy, _, hxl, hfl⟩ := DataW.trod_struct Try.underlying32 h2
      match xs, hxl, cs', hlen with
      | [y0, y1, y2], _, [v0, v1, v2], _ =>
        have g0 := hfl 0 _ rfl
        have g1 := hfl 1 _ rfl
        have g2 := hfl 2 _ rfl
        simp [cells2, cells21, cells4] at g0 g1 g2
        obtain ⟨s0, hv0, _, wf0⟩ := DataW.trod_int Try.underlying21 g0
        obtain ⟨s1, hv1, _, _⟩ := DataW.trod_int Try.underlying2 g1
        obtain ⟨s2, hv2, _⟩ := DataW.trod_bool Try.underlying4 g2
        simp only [List.cons.injEq, and_true] at hv0 hv1 hv2
        have e0 := hcell 0 (by omega)
        have e1 := hcell 1 (by omega)
        have e2 := hcell 2 (by omega)
        rw [add_add] at e0 e1 e2
        subst hv0 hv1 hv2
        exact ⟨(s0, s1, s2), ⟨by simpa using e0, by simpa using e1, by simpa using e2⟩, wf0⟩)
    refine ⟨(List.range len).map (fun i => ⟨(S i).1, (S i).2.1, (S i).2.2⟩), by simp, ?_, ?_, by omega⟩
    · by_cases h0 : len = 0
      · exact .inl (by rw [h0]; rfl)
      · obtain ⟨b, off, spt⟩ := y
        have hs : spt = .none := by simpa [Addr.add] using World.cell?_spot (hS 0 (by omega)).1.1
        subst hs
        refine .inr ⟨b, off, rfl, fun i hi => ?_⟩
        have hi' : i < len := by simpa using hi
        obtain ⟨⟨e0, e1, e2⟩, _⟩ := hS i hi'
        rw [add_plain] at e0 e1 e2
        simp only [List.getElem_map, List.getElem_range]
        exact ⟨e0, by simpa [Nat.add_assoc] using e1, by simpa [Nat.add_assoc] using e2⟩
    · intro s hs
      obtain ⟨i, hi, rfl⟩ := List.mem_map.1 hs
      have := bounds_i32 (hS i (List.mem_range.1 hi)).2
      exact this

theorem walk {H : Type} {enc : TypeId × Value → H} (W : World) (a0 a1 a2 : Option Addr) (l0 c0 l1 c1 l2 c2 : Nat) (sp : Nat → Bool) (f0 f1 f2 : Nat) (x0 x1 x2 : DataW H × List MemPlace)
    (h0 : DataW.trod enc Try.prog W 0 sp true f0 22 [.slice a0 l0 c0] = some x0) (h1 : DataW.trod enc Try.prog W 0 sp true f1 23 [.slice a1 l1 c1] = some x1) (h2 : DataW.trod enc Try.prog W 0 sp true f2 23 [.slice a2 l2 c2] = some x2) :
    Calls Try.prog 3 #[.slice a0 l0 c0, .slice a1 l1 c1, .slice a2 l2 c2] W fun e w' => e = .returned (.bool true) ∧ Below W.heap.size W w' := by
  obtain ⟨zs, rfl, i0, m0⟩ := ints_of h0
  obtain ⟨xs, rfl, i1, wf1, m1⟩ := steps_of h1
  obtain ⟨ys, rfl, i2, wf2, m2⟩ := steps_of h2
  exact moves_small zs a0 c0 xs ys a1 a2 c1 c2 W i0 i1 i2 wf1 wf2 m0 m1 m2

set_option maxRecDepth 100000 in
theorem lifted (os : Os) (started : os.Started) (H : Type) (enc : TypeId × Value → H) :
    ReturnsInHanded {} Try.checked os 3 .any (Rows.fnUncheckedMovesCommuteSpec.pre6 enc Try.prog Try.f3 Rows.fnUncheckedMovesCommuteRow.domain false) (Rows.fnUncheckedMovesCommuteSpec.post enc Try.prog Try.f3 false true false false) := by
  refine returnsInHanded_of_change (C := Try.checked) own started (by kernel_rfl) Try.func3
    (ChangeSpec.witness6 (enc := enc) (C := Try.checked) false ⟨#[], #[.slice none 0 0, .slice none 0 0, .slice none 0 0], []⟩ 8 (by kernel_rfl) (by kernel_rfl) (by kernel_rfl) (by kernel_rfl)) ?_
  intro W base args ds gs before hval0 hW hcnd _
  have hval : ∀ (j : Nat) t v, Try.f3.params[j]? = some t → args[j]? = some v → Value.okWide Try.prog W .any base t v := hval0
  have hW' := hW
  obtain ⟨p, q, hA0, hV, rfl, hfz, hnd⟩ := hW
  have hA : DataW.TrodAll enc Try.prog W 0 (fun _ => true) true Try.f3.params.toList args.toList ds p := hA0
  rw [Try.params3] at hA hval
  obtain ⟨v0, vs0, d0, ds0, p0, q0, hargs, rfl, rfl, h0, r0⟩ := trodAll_cons hA
  obtain ⟨v1, vs1, d1, ds1, p1, q1, rfl, rfl, rfl, h1, r1⟩ := trodAll_cons r0
  obtain ⟨v2, vs2, d2, ds2, p2, q2, rfl, rfl, rfl, h2, r2⟩ := trodAll_cons r1
  obtain ⟨rfl, rfl, rfl⟩ := trodAll_nil r2
  obtain rfl : args = #[v0, v1, v2] := by cases args; simp_all
  obtain ⟨rfl, rfl⟩ := trodVars_none hV
  obtain ⟨a0, len0, cap0, rfl⟩ := okWide_slice Try.underlying22 (hval 0 22 v0 rfl rfl)
  obtain ⟨a1, len1, cap1, rfl⟩ := okWide_slice Try.underlying23 (hval 1 23 v1 rfl rfl)
  obtain ⟨a2, len2, cap2, rfl⟩ := okWide_slice Try.underlying23 (hval 2 23 v2 rfl rfl)
  have k0 := h0
  have k1 := h1
  have k2 := h2
  have lt0 : ∀ x ∈ p0, x.block < W.heap.size := by obtain ⟨m, hm⟩ := k0; exact DataW.trod_lt m _ _ _ hm
  have lt1 : ∀ x ∈ p1, x.block < W.heap.size := by obtain ⟨m, hm⟩ := k1; exact DataW.trod_lt m _ _ _ hm
  have lt2 : ∀ x ∈ p2, x.block < W.heap.size := by obtain ⟨m, hm⟩ := k2; exact DataW.trod_lt m _ _ _ hm
  obtain ⟨n0, g0⟩ := h0
  obtain ⟨n1, g1⟩ := h1
  obtain ⟨n2, g2⟩ := h2
  clear hA0 hval0
  refine (walk (enc := enc) W a0 a1 a2 len0 cap0 len1 cap1 len2 cap2 (fun _ => true) n0 n1 n2 _ _ _ (by simpa [Value.cells] using g0) (by simpa [Value.cells] using g1) (by simpa [Value.cells] using g2)).mono fun e W' ⟨he, bel⟩ => ?_
  subst he
  exact ⟨_, rfl, _, _, _, [], _, [], hW', trodAll_mk1 (shut_bool Try.underlying4 _), (trodAll_cons_mk (Below.trod laidOut (by kernel_rfl) (of_decide_eq_true (by kernel_rfl)) k0 bel lt0) (trodAll_cons_mk (Below.trod laidOut (by kernel_rfl) (of_decide_eq_true (by kernel_rfl)) k1 bel lt1) (trodAll_cons_mk (Below.trod laidOut (by kernel_rfl) (of_decide_eq_true (by kernel_rfl)) k2 bel lt2) trodAll_mk0))), rfl, bel.frame _, fun h => by cases h⟩

theorem over : Rows.fnUncheckedMovesCommuteRow.holds Try.pinned (OpenSpec.ofChange Rows.fnUncheckedMovesCommuteSpec) :=
  OpenClaim.holds_of_wide 3 Try.f3 rfl rfl rfl rfl rfl rfl rfl ⟨rfl, rfl, rfl, rfl, rfl⟩ rfl rfl rfl rfl rfl (by kernel_rfl) Try.func3 (by kernel_rfl)
    (of_decide_eq_true (by kernel_rfl)) (by unfold Func.isWrapper; first | (rw [if_pos (by decide +kernel)]; kernel_rfl) | (rw [if_neg (by decide +kernel)]; exact ⟨rfl, rfl⟩))
    (fun os started H enc _ => lifted os started H enc)

theorem proved : Rows.FnUncheckedMovesCommuteSaid := over
end Go.Proofs.Qxb6603808a.fnUncheckedMovesCommute
