import Derived.Test.Qxb6604639aFields
namespace Go.Proofs.Qxb6604639a
open Go.ChangeShapes Go.WideShapes Go.ChangeAt Go.RowKit
attribute [local go_sem ↓] Go.wp_at_zero Go.wp_at_succ

/-- How long the relay is to batch next. -/
def nextTry (s now t : Int) : Int := if t = 0 ∨ 1000000000 ≤ now - s then 1000000000 else if wrap64 (2 * t) ≤ 32000000000 then wrap64 (2 * t) else 32000000000

theorem grown_of_below {w w' : World} (h : Below w.heap.size w w') (row : Option Nat) : w.grownBy w' row := ⟨h.os, h.tape, h.output, h.size, fun k hk _ => h.block k hk⟩
theorem grown_set {w w' : World} {g : Nat} (h : w.grownBy w' (some g)) (o : Nat) (v : Value) : w.grownBy (w'.setCell ⟨g, o, none⟩ v) (some g) :=
  ⟨h.os, h.tape, h.output, by simpa [World.setCell] using h.size, fun k hk hne => by
    rw [Below.heap_setCell _ _ _ _ (by intro e; exact hne (by rw [e]))]; exact h.block k hk hne⟩

theorem setPace {w : World} {g : Nat} {s b a l t : Int} (h : RowAt w g 38 (paceL s b a l t)) (now t' : Int) :
    RowAt ((((w.setCell ⟨g, 8, none⟩ (.int .i64 t')).setCell ⟨g, 0, none⟩ (.int .u64 (now % 1000000000))).setCell ⟨g, 1, none⟩ (.int .i64 (now / 1000000000))).setCell ⟨g, 2, none⟩ (.pointer none)) g 38 (paceL now b a l t') :=
  (((h.set 8 (.int .i64 t')).set 0 _).set 1 _).set 2 _

set_option maxHeartbeats 4000000 in
theorem batch_zero (s b a l now : Int) (g : Nat) (w : World) (h : RowAt w g 38 (paceL s b a l 0)) :
    Calls Try.prog 10 #[.pointer (some ⟨g, 0, none⟩), .agg #[.int .u64 (now % 1000000000), .int .i64 (now / 1000000000), .pointer none]] w fun e w' => e = .returned (.tuple #[]) ∧ RowAt w' g 38 (paceL now b a l 1000000000) ∧ w.grownBy w' (some g) := by
  have hg := h.lt
  have bw : Below w.heap.size w (w.alloc (.cells #[.int .u64 (now % 1000000000), .int .i64 (now / 1000000000), .pointer none] 34)) := (Below.refl _ _).alloc (Nat.le_refl _) _
  have rb : RowAt (w.alloc (.cells #[.int .u64 (now % 1000000000), .int .i64 (now / 1000000000), .pointer none] 34)) w.heap.size 34 [.int .u64 (now % 1000000000), .int .i64 (now / 1000000000), .pointer none] := heap_alloc_new w _
  have r := h.alloc (.cells #[.int .u64 (now % 1000000000), .int .i64 (now / 1000000000), .pointer none] 34)
  go_enter Try.func10, Try.ntmps10
  go_wp2_with fail
  generalize w.alloc (.cells #[.int .u64 (now % 1000000000), .int .i64 (now / 1000000000), .pointer none] 34) = w1 at *
  obtain ⟨k0, k1, k2, k3, k4, k5, k6, k7, k8⟩ := pace_cells r
  have hz : ((0 : Int) == 0) = true := rfl
  go_quiet (fail)
  have f0 := r.frozen 0
  have f1 := r.frozen 1
  have f2 := r.frozen 2
  have f8 := r.frozen 8
  have u0 : w1.cell? ⟨w.heap.size, 0, none⟩ = some (.int .u64 (now % 1000000000)) := by rw [rb.cell]; rfl
  have u1 : w1.cell? ⟨w.heap.size, 1, none⟩ = some (.int .i64 (now / 1000000000)) := by rw [rb.cell]; rfl
  have u2 : w1.cell? ⟨w.heap.size, 2, none⟩ = some (.pointer none) := by rw [rb.cell]; rfl
  have hne : ¬ w.heap.size = g := by omega
  go_wp2_with fail
  go_end0
  exact ⟨rfl, setPace (r.drewN nq) now 1000000000, grown_set (grown_set (grown_set (grown_set (grown_of_below (below_dr bw nq) _) _ _) _ _) _ _) _ _⟩

theorem clamp_ge (x : Int) : 1000000000 ≤ clamp x ↔ 1000000000 ≤ x := by
  unfold clamp; split <;> (try split) <;> omega

set_option maxHeartbeats 4000000 in
theorem batch_more (s b a l t now : Int) (g : Nat) (w : World) (h : RowAt w g 38 (paceL s b a l t)) (ht : ¬ t = 0) (h1 : -9223372036854775808 ≤ s) (h2 : s ≤ 9223372036854775807) (h3 : -9223372036854775808 ≤ now) (h4 : now ≤ 9223372036854775807) :
    Calls Try.prog 10 #[.pointer (some ⟨g, 0, none⟩), .agg #[.int .u64 (now % 1000000000), .int .i64 (now / 1000000000), .pointer none]] w fun e w' => e = .returned (.tuple #[]) ∧ RowAt w' g 38 (paceL now b a l (nextTry s now t)) ∧ w.grownBy w' (some g) := by
  have hg := h.lt
  have bw : Below w.heap.size w (w.alloc (.cells #[.int .u64 (now % 1000000000), .int .i64 (now / 1000000000), .pointer none] 34)) := (Below.refl _ _).alloc (Nat.le_refl _) _
  have rb : RowAt (w.alloc (.cells #[.int .u64 (now % 1000000000), .int .i64 (now / 1000000000), .pointer none] 34)) w.heap.size 34 [.int .u64 (now % 1000000000), .int .i64 (now / 1000000000), .pointer none] := heap_alloc_new w _
  have r := h.alloc (.cells #[.int .u64 (now % 1000000000), .int .i64 (now / 1000000000), .pointer none] 34)
  go_enter Try.func10, Try.ntmps10
  go_wp2_with fail
  generalize w.alloc (.cells #[.int .u64 (now % 1000000000), .int .i64 (now / 1000000000), .pointer none] 34) = w1 at *
  obtain ⟨k0, k1, k2, k3, k4, k5, k6, k7, k8⟩ := pace_cells r
  have hz : (t == 0) = false := by simpa using ht
  have u0 : w1.cell? ⟨w.heap.size, 0, none⟩ = some (.int .u64 (now % 1000000000)) := by rw [rb.cell]; rfl
  have u1 : w1.cell? ⟨w.heap.size, 1, none⟩ = some (.int .i64 (now / 1000000000)) := by rw [rb.cell]; rfl
  have u2 : w1.cell? ⟨w.heap.size, 2, none⟩ = some (.pointer none) := by rw [rb.cell]; rfl
  have C : ∀ W, Calls Try.prog 11 #[.agg #[.int .u64 (now % 1000000000), .int .i64 (now / 1000000000), .pointer none], .agg #[.int .u64 (s % 1000000000), .int .i64 (s / 1000000000), .pointer none]] W fun e' w' => e' = .returned (.int .i64 (clamp (now - s))) ∧ Below W.heap.size W w' := fun W => sub_any now s W (by omega) (by omega) (by omega) (by omega)
  have HC := hide C
  have HN : Hid (nextTry s now t = if 1000000000 ≤ clamp (now - s) then 1000000000 else if wrap64 (2 * t) ≤ 32000000000 then wrap64 (2 * t) else 32000000000) := by
    show _ = _
    unfold nextTry
    by_cases hc : 1000000000 ≤ now - s
    · rw [if_pos (.inr hc), if_pos ((clamp_ge _).2 hc)]
    · rw [if_neg (by omega), if_neg (fun x => hc ((clamp_ge _).1 x))]
  clear C ht
  generalize clamp (now - s) = q at *
  go_region_held3 (fun w' => w'.cell? ⟨g, 0, none⟩ = some (.int .u64 (s % 1000000000)) ∧ w'.cell? ⟨g, 1, none⟩ = some (.int .i64 (s / 1000000000)) ∧ w'.cell? ⟨g, 2, none⟩ = some (.pointer none) ∧ w'.cell? ⟨g, 8, none⟩ = some (.int .i64 t) ∧ w'.cell? ⟨w.heap.size, 0, none⟩ = some (.int .u64 (now % 1000000000)) ∧ w'.cell? ⟨w.heap.size, 1, none⟩ = some (.int .i64 (now / 1000000000)) ∧ w'.cell? ⟨w.heap.size, 2, none⟩ = some (.pointer none))
    (first | (go_keep; done) | (go_split_ands; refine ⟨keep_below hbA ‹_›, keep_below hbA ‹_›, keep_below hbA ‹_›, keep_below hbA ‹_›, keep_below hbA ‹_›, keep_below hbA ‹_›, keep_below hbA ‹_›⟩))
    (first | (go_at_call 11; refine (HC.out _).mono ?_; rintro e w' ⟨rfl, hbA⟩))
  have hsz := rb.lt
  have hsz1 := hbA.size
  have hbA' : Below w1.heap.size w1 w' := (Below.refl w1.heap.size w1).drew.trans hbA
  have r' : RowAt w' g 38 (paceL s b a l t) := r.below hbA' (by omega)
  have rb' := rb.below hbA' hsz
  have bw' : Below w.heap.size w w' := bw.trans (hbA'.mono (Nat.le_of_lt hsz))
  have hH := ‹w'.cell? ⟨g, 0, none⟩ = some (.int .u64 (s % 1000000000)) ∧ _›
  obtain ⟨m0, m1, m2, m8, v0, v1, v2⟩ := hH
  have f0 := r'.frozen 0
  have f1 := r'.frozen 1
  have f2 := r'.frozen 2
  have f8 := r'.frozen 8
  have hne : ¬ w.heap.size = g := by omega
  clear hbA hbA' r rb bw HC k0 k1 k2 k3 k4 k5 k6 k7 k8 u0 u1 u2 h
  by_cases hq : 1000000000 ≤ q
  · have en := HN.out
    rw [if_pos hq] at en
    have EN := hide en
    clear en
    go_wp2_with fail
    go_end0
    rw [EN.out]
    exact ⟨rfl, setPace r' now 1000000000, grown_set (grown_set (grown_set (grown_set (grown_of_below bw' _) _ _) _ _) _ _) _ _⟩
  · have en := HN.out
    rw [if_neg hq] at en
    have EN := hide en
    clear en
    go_wp2_with fail
    all_goals go_end0
    all_goals rw [EN.out]
    · rw [if_neg (by omega)]
      exact ⟨rfl, setPace r' now _, grown_set (grown_set (grown_set (grown_set (grown_of_below bw' _) _ _) _ _) _ _) _ _⟩
    · rw [if_pos (by assumption)]
      exact ⟨rfl, setPace r' now _, grown_set (grown_set (grown_set (grown_set (grown_of_below bw' _) _ _) _ _) _ _) _ _⟩

/-- 'p.batch(now)'. -/
theorem batch_any (s b a l t now : Int) (g : Nat) (w : World) (h : RowAt w g 38 (paceL s b a l t)) (h1 : -9223372036854775808 ≤ s) (h2 : s ≤ 9223372036854775807) (h3 : -9223372036854775808 ≤ now) (h4 : now ≤ 9223372036854775807) :
    Calls Try.prog 10 #[.pointer (some ⟨g, 0, none⟩), .agg #[.int .u64 (now % 1000000000), .int .i64 (now / 1000000000), .pointer none]] w fun e w' => e = .returned (.tuple #[]) ∧ RowAt w' g 38 (paceL now b a l (nextTry s now t)) ∧ w.grownBy w' (some g) := by
  by_cases ht : t = 0
  · subst ht
    have e : nextTry s now 0 = 1000000000 := by unfold nextTry; rw [if_pos (.inl rfl)]
    rw [e]
    exact batch_zero s b a l now g w h
  · exact batch_more s b a l t now g w h ht h1 h2 h3 h4

/-- 'ZZbatch(p, now)'. -/
theorem zzbatch_any (s b a l t now : Int) (g : Nat) (w : World) (h : RowAt w g 38 (paceL s b a l t)) (h1 : -9223372036854775808 ≤ s) (h2 : s ≤ 9223372036854775807) (h3 : -9223372036854775808 ≤ now) (h4 : now ≤ 9223372036854775807) :
    Calls Try.prog 7 #[.pointer (some ⟨g, 0, none⟩), .int .i64 now] w fun e w' => e = .returned (.tuple #[]) ∧ RowAt w' g 38 (paceL now b a l (nextTry s now t)) ∧ w.grownBy w' (some g) := by
  go_enter Try.func7, Try.ntmps7
  go_wp2_with fail
  refine (add_zero now w h3 h4).mono ?_
  rintro e1 w1 ⟨rfl, b1⟩
  go_wp2_with fail
  refine (batch_any s b a l t now g w1 (h.below b1 h.lt) h1 h2 h3 h4).mono ?_
  rintro e1 w2 ⟨rfl, r2, g2⟩
  go_wp2_with fail
  go_end0
  refine ⟨rfl, r2, ⟨g2.os.trans b1.os, g2.tape.trans b1.tape, g2.output.trans b1.output, Nat.le_trans b1.size g2.size, fun k hk hne => ?_⟩⟩
  rw [g2.block k (Nat.lt_of_lt_of_le hk b1.size) hne, b1.block k hk]
end Go.Proofs.Qxb6604639a
