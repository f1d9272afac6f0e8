import Derived.Test.Qxb6604639aPace
namespace Go.Proofs.Qxb6604639a
open Go.ChangeShapes Go.WideShapes Go.ChangeAt Go.RowKit
attribute [local go_sem ↓] Go.wp_at_zero Go.wp_at_succ

theorem results_tmp5 {fn : Func} {t u v x y : Tmp} (h : fn.results = #[.tmp t, .tmp u, .tmp v, .tmp x, .tmp y]) (tmps : Array Value) (P : Program) (w : World) :
    (results fn tmps).run P w = .ok (.tuple #[tmps.getD t undef, tmps.getD u undef, tmps.getD v undef, tmps.getD x undef, tmps.getD y undef]) w := by
  simp [results, h]

theorem ret5 {a b c d e a' c' : Int} (h : a = a') (h' : c = c') : Ending.returned (.tuple #[.int .i64 a, .int .i64 b, .int .i64 c, .int .i64 d, .int .i64 e]) = .returned (.tuple #[.int .i64 a', .int .i64 b, .int .i64 c', .int .i64 d, .int .i64 e]) := by rw [h, h']
theorem sub_nz (n e : Int) (w : World) (hn : 0 ≤ n) (hn' : n < 1000000000) (he : -10000000000 ≤ e) (he' : e ≤ 10000000000) :
    Calls Try.prog 11 #[.agg #[.int .u64 n, .int .i64 e, .pointer none], .agg #[.int .u64 0, .int .i64 0, .pointer none]] w fun e' w' => e' = .returned (.int .i64 (clamp (e * 1000000000 + n))) ∧ Below w.heap.size w w' := by
  have C := sub_core n e 0 0 w hn hn' (by omega) (by omega) he he' (by omega) (by omega)
  rw [Int.sub_zero, Int.sub_zero] at C
  exact C
theorem sub_zero (a : Int) (w : World) (ha : -9223372036854775808 ≤ a) (ha' : a ≤ 9223372036854775807) :
    Calls Try.prog 11 #[.agg #[.int .u64 (a % 1000000000), .int .i64 (a / 1000000000), .pointer none], .agg #[.int .u64 0, .int .i64 0, .pointer none]] w fun e' w' => e' = .returned (.int .i64 a) ∧ Below w.heap.size w w' := by
  have C := sub_any a 0 w (by omega) (by omega) (by omega) (by omega)
  rw [Int.sub_zero, clamp_in _ ha ha'] at C
  exact C

/-- The nine cells of a pace. -/
theorem pace_cells {w : World} {g : Nat} {s b a l t : Int} (h : RowAt w g 38 (paceL s b a l t)) :
    w.cell? ⟨g, 0, none⟩ = some (.int .u64 (s % 1000000000)) ∧ w.cell? ⟨g, 1, none⟩ = some (.int .i64 (s / 1000000000)) ∧ w.cell? ⟨g, 2, none⟩ = some (.pointer none) ∧ w.cell? ⟨g, 3, none⟩ = some (.int .i64 b) ∧
    w.cell? ⟨g, 4, none⟩ = some (.int .u64 (a % 1000000000)) ∧ w.cell? ⟨g, 5, none⟩ = some (.int .i64 (a / 1000000000)) ∧ w.cell? ⟨g, 6, none⟩ = some (.pointer none) ∧ w.cell? ⟨g, 7, none⟩ = some (.int .i64 l) ∧ w.cell? ⟨g, 8, none⟩ = some (.int .i64 t) := by
  refine ⟨?_, ?_, ?_, ?_, ?_, ?_, ?_, ?_, ?_⟩ <;> (rw [h.cell]; rfl)

set_option maxHeartbeats 4000000 in
theorem fields_any (s b a l t : Int) (g : Nat) (w : World) (h : RowAt w g 38 (paceL s b a l t)) (h1 : -9223372036854775808 ≤ s) (h2 : s ≤ 9223372036854775807) (h3 : -9223372036854775808 ≤ a) (h4 : a ≤ 9223372036854775807) :
    Calls Try.prog 8 #[.pointer (some ⟨g, 0, none⟩)] w fun e w' => e = .returned (.tuple #[.int .i64 s, .int .i64 b, .int .i64 a, .int .i64 l, .int .i64 t]) ∧ Below w.heap.size w w' := by
  obtain ⟨k0, k1, k2, k3, k4, k5, k6, k7, k8⟩ := pace_cells h
  clear h
  go_enter Try.func8, Try.ntmps8
  go_wp2_with fail
  go_region_held3 (fun w' => w'.cell? ⟨g, 0, none⟩ = some (.int .u64 (s % 1000000000)) ∧ w'.cell? ⟨g, 1, none⟩ = some (.int .i64 (s / 1000000000)) ∧ w'.cell? ⟨g, 2, none⟩ = some (.pointer none) ∧ w'.cell? ⟨g, 3, none⟩ = some (.int .i64 b) ∧
    w'.cell? ⟨g, 4, none⟩ = some (.int .u64 (a % 1000000000)) ∧ w'.cell? ⟨g, 5, none⟩ = some (.int .i64 (a / 1000000000)) ∧ w'.cell? ⟨g, 6, none⟩ = some (.pointer none) ∧ w'.cell? ⟨g, 7, none⟩ = some (.int .i64 l) ∧ w'.cell? ⟨g, 8, none⟩ = some (.int .i64 t))
    (first | (go_keep; done) | (go_split_ands; refine ⟨keep_below hbA ‹_›, keep_below hbA ‹_›, keep_below hbA ‹_›, keep_below hbA ‹_›, keep_below hbA ‹_›, keep_below hbA ‹_›, keep_below hbA ‹_›, keep_below hbA ‹_›, keep_below hbA ‹_›⟩))
    (first | (go_at_call 11; refine (sub_nz _ _ _ (by omega) (by omega) (by omega) (by omega)).mono ?_; rintro e w' ⟨rfl, hbA⟩))
  have hb1 := ‹Below w.drew.heap.size w.drew _›
  have hb2 := hb1.trans (hbA.mono hb1.size)
  have e1 : clamp (s / 1000000000 * 1000000000 + s % 1000000000) = s := by
    rw [show s / 1000000000 * 1000000000 + s % 1000000000 = s by omega]; exact clamp_in _ h1 h2
  have e2 : clamp (a / 1000000000 * 1000000000 + a % 1000000000) = a := by
    rw [show a / 1000000000 * 1000000000 + a % 1000000000 = a by omega]; exact clamp_in _ h3 h4
  clear hb1 hbA
  go_wp2_with fail
  refine bodyPost_ret (results_tmp5 rfl _ _ _) rfl ?_
  exact ⟨ret5 e1 e2, (Below.refl _ _).drew.trans hb2⟩
end Go.Proofs.Qxb6604639a
