import Derived.Test.Qxb6604639aTime
namespace Go.Proofs.Qxb6604639a
open Go.ChangeShapes Go.WideShapes Go.ChangeAt Go.RowKit

theorem tm_neg (d : Int) (h : d < 0) : d.tmod 1000000000 = -((-d) % 1000000000) ∧ d.tdiv 1000000000 = -((-d) / 1000000000) := by
  have e : d = -(-d) := by omega
  constructor
  · conv => lhs; rw [e]
    rw [Int.neg_tmod, Int.tmod_eq_emod_of_nonneg (by omega)]
  · conv => lhs; rw [e]
    rw [Int.neg_tdiv, Int.tdiv_eq_ediv_of_nonneg (by omega)]
theorem tm_bd (d : Int) (h : d < 0) (h' : -9223372036854775808 ≤ d) : -1000000000 < d.tmod 1000000000 ∧ d.tmod 1000000000 ≤ 0 ∧ -9223372037 ≤ d.tdiv 1000000000 ∧ d.tdiv 1000000000 ≤ 0 := by
  obtain ⟨h1, h2⟩ := tm_neg d h
  rw [h1, h2]; omega

set_option maxHeartbeats 1000000 in
theorem add_pos (n e d : Int) (w : World) (hn : 0 ≤ n) (hn' : n < 1000000000) (he : -20000000000 ≤ e) (he' : e ≤ 20000000000) (hd : 0 ≤ d) (hd' : d ≤ 9223372036854775807) (hc : n + d % 1000000000 < 1000000000) :
    Calls Try.prog 9 #[.agg #[.int .u64 n, .int .i64 e, .pointer none], .int .i64 d] w fun e' w' => e' = .returned (.agg #[.int .u64 (n + d % 1000000000), .int .i64 (e + (d / 1000000000)), .pointer none]) ∧ Below w.heap.size w w' := by

  have k1 := andNot_mask n hn hn'
  have k2 := or_zero (n + d % 1000000000) (by omega) (by omega)
  have k3 := and_top (n + d % 1000000000) (by omega) (by omega)
  have r1 : RowAt ((w.alloc (.cells #[.int .u64 n, .int .i64 e, .pointer none] 34)).alloc (.cells #[.int .u64 0, .int .i64 0, .pointer none] 34)) w.heap.size 34 [.int .u64 n, .int .i64 e, .pointer none] := RowAt.alloc (heap_alloc_new w _) _
  have r2 : RowAt ((w.alloc (.cells #[.int .u64 n, .int .i64 e, .pointer none] 34)).alloc (.cells #[.int .u64 0, .int .i64 0, .pointer none] 34)) (w.heap.size + 1) 34 [.int .u64 0, .int .i64 0, .pointer none] := by
    have := heap_alloc_new (w.alloc (.cells #[.int .u64 n, .int .i64 e, .pointer none] 34)) (.cells #[.int .u64 0, .int .i64 0, .pointer none] 34)
    simpa [RowAt] using this
  have b1 := ((Below.refl w.heap.size w).alloc (Nat.le_refl _) (.cells #[.int .u64 n, .int .i64 e, .pointer none] 34)).alloc (by simp) (.cells #[.int .u64 0, .int .i64 0, .pointer none] 34)
  go_enter Try.func9, Try.ntmps9
  go_wp2_with fail
  generalize (w.alloc (.cells #[.int .u64 n, .int .i64 e, .pointer none] 34)).alloc (.cells #[.int .u64 0, .int .i64 0, .pointer none] 34) = w1 at *
  refine (nsec_any w.heap.size 0 n w1 (by rw [r1.cell]; rfl) hn hn').mono ?_
  rintro e1 w2 ⟨rfl, hw⟩
  obtain rfl := hw.symm
  clear hw
  have c0 : w1.cell? ⟨w.heap.size, 0, none⟩ = some (.int .u64 n) := by rw [r1.cell]; rfl
  have f0 := r1.frozen 0
  have R1 := r1.set 0 (.int .u64 (n + d % 1000000000))
  have R2 := r2.setOther ⟨w.heap.size, 0, none⟩ (.int .u64 (n + d % 1000000000)) (by show _ ≠ w.heap.size; omega)
  have B1 := b1.setCell (p := ⟨w.heap.size, 0, none⟩) (Nat.le_refl _) (.int .u64 (n + d % 1000000000))
  clear r1 r2 b1
  go_wp2_with fail
  generalize w1.setCell ⟨w.heap.size, 0, none⟩ (.int .u64 (n + d % 1000000000)) = w3 at *
  clear c0 f0
  refine (addSec_any w.heap.size 0 (n + d % 1000000000) e (d / 1000000000) w3 (by rw [R1.cell]; rfl) (by rw [R1.cell]; rfl) (R1.frozen 1) (by omega) (by omega) (by omega) (by omega) (by omega) (by omega)).mono ?_
  rintro e1 w2 ⟨rfl, hw⟩
  have R3 := R1.set 1 (.int .i64 (e + (d / 1000000000)))
  have R4 := R2.setOther ⟨w.heap.size, 1, none⟩ (.int .i64 (e + (d / 1000000000))) (by show _ ≠ w.heap.size; omega)
  have B2 := B1.setCell (p := ⟨w.heap.size, 1, none⟩) (Nat.le_refl _) (.int .i64 (e + (d / 1000000000)))
  simp only [Nat.zero_add] at hw
  rw [← hw] at R3 R4 B2
  clear R1 R2 B1 hw
  have c0 : w2.cell? ⟨w.heap.size, 0, none⟩ = some (.int .u64 (n + d % 1000000000)) := by rw [R3.cell]; rfl
  have c1 : w2.cell? ⟨w.heap.size, 1, none⟩ = some (.int .i64 (e + (d / 1000000000))) := by rw [R3.cell]; rfl
  have c2 : w2.cell? ⟨w.heap.size, 2, none⟩ = some (.pointer none) := by rw [R3.cell]; rfl
  have d0 : w2.cell? ⟨w.heap.size + 1, 0, none⟩ = some (.int .u64 0) := by rw [R4.cell]; rfl
  have d1 : w2.cell? ⟨w.heap.size + 1, 1, none⟩ = some (.int .i64 0) := by rw [R4.cell]; rfl
  have d2 : w2.cell? ⟨w.heap.size + 1, 2, none⟩ = some (.pointer none) := by rw [R4.cell]; rfl
  have f0 := R4.frozen 0
  have f1 := R4.frozen 1
  have f2 := R4.frozen 2
  have R5 := ((R4.set 0 (.int .u64 (n + d % 1000000000))).set 1 (.int .i64 (e + (d / 1000000000)))).set 2 (.pointer none)
  have B3 := ((B2.setCell (p := ⟨w.heap.size + 1, 0, none⟩) (by show _ ≤ w.heap.size + 1; omega) (.int .u64 (n + d % 1000000000))).setCell (p := ⟨w.heap.size + 1, 1, none⟩) (by show _ ≤ w.heap.size + 1; omega) (.int .i64 (e + (d / 1000000000)))).setCell (p := ⟨w.heap.size + 1, 2, none⟩) (by show _ ≤ w.heap.size + 1; omega) (.pointer none)
  clear R3 R4 B2
  go_wp2_with fail
  generalize ((w2.setCell ⟨w.heap.size + 1, 0, none⟩ (.int .u64 (n + d % 1000000000))).setCell ⟨w.heap.size + 1, 1, none⟩ (.int .i64 (e + (d / 1000000000)))).setCell ⟨w.heap.size + 1, 2, none⟩ (.pointer none) = w4 at *
  have g0 : w4.cell? ⟨w.heap.size + 1, 0, none⟩ = some (.int .u64 (n + d % 1000000000)) := by rw [R5.cell]; rfl
  have g1 : w4.cell? ⟨w.heap.size + 1, 1, none⟩ = some (.int .i64 (e + (d / 1000000000))) := by rw [R5.cell]; rfl
  have g2 : w4.cell? ⟨w.heap.size + 1, 2, none⟩ = some (.pointer none) := by rw [R5.cell]; rfl
  exact bodyPost_ret (v := .agg #[.int .u64 (n + d % 1000000000), .int .i64 (e + (d / 1000000000)), .pointer none]) (by simp [results, Try.results9, go_sem, g0, g1, g2]) rfl ⟨rfl, B3⟩

set_option maxHeartbeats 1000000 in
theorem add_posc (n e d : Int) (w : World) (hn : 0 ≤ n) (hn' : n < 1000000000) (he : -20000000000 ≤ e) (he' : e ≤ 20000000000) (hd : 0 ≤ d) (hd' : d ≤ 9223372036854775807) (hc : 1000000000 ≤ n + d % 1000000000) :
    Calls Try.prog 9 #[.agg #[.int .u64 n, .int .i64 e, .pointer none], .int .i64 d] w fun e' w' => e' = .returned (.agg #[.int .u64 (n + d % 1000000000 - 1000000000), .int .i64 (e + (d / 1000000000 + 1)), .pointer none]) ∧ Below w.heap.size w w' := by

  have k1 := andNot_mask n hn hn'
  have k2 := or_zero (n + d % 1000000000 - 1000000000) (by omega) (by omega)
  have k3 := and_top (n + d % 1000000000 - 1000000000) (by omega) (by omega)
  have r1 : RowAt ((w.alloc (.cells #[.int .u64 n, .int .i64 e, .pointer none] 34)).alloc (.cells #[.int .u64 0, .int .i64 0, .pointer none] 34)) w.heap.size 34 [.int .u64 n, .int .i64 e, .pointer none] := RowAt.alloc (heap_alloc_new w _) _
  have r2 : RowAt ((w.alloc (.cells #[.int .u64 n, .int .i64 e, .pointer none] 34)).alloc (.cells #[.int .u64 0, .int .i64 0, .pointer none] 34)) (w.heap.size + 1) 34 [.int .u64 0, .int .i64 0, .pointer none] := by
    have := heap_alloc_new (w.alloc (.cells #[.int .u64 n, .int .i64 e, .pointer none] 34)) (.cells #[.int .u64 0, .int .i64 0, .pointer none] 34)
    simpa [RowAt] using this
  have b1 := ((Below.refl w.heap.size w).alloc (Nat.le_refl _) (.cells #[.int .u64 n, .int .i64 e, .pointer none] 34)).alloc (by simp) (.cells #[.int .u64 0, .int .i64 0, .pointer none] 34)
  go_enter Try.func9, Try.ntmps9
  go_wp2_with fail
  generalize (w.alloc (.cells #[.int .u64 n, .int .i64 e, .pointer none] 34)).alloc (.cells #[.int .u64 0, .int .i64 0, .pointer none] 34) = w1 at *
  refine (nsec_any w.heap.size 0 n w1 (by rw [r1.cell]; rfl) hn hn').mono ?_
  rintro e1 w2 ⟨rfl, hw⟩
  obtain rfl := hw.symm
  clear hw
  have c0 : w1.cell? ⟨w.heap.size, 0, none⟩ = some (.int .u64 n) := by rw [r1.cell]; rfl
  have f0 := r1.frozen 0
  have R1 := r1.set 0 (.int .u64 (n + d % 1000000000 - 1000000000))
  have R2 := r2.setOther ⟨w.heap.size, 0, none⟩ (.int .u64 (n + d % 1000000000 - 1000000000)) (by show _ ≠ w.heap.size; omega)
  have B1 := b1.setCell (p := ⟨w.heap.size, 0, none⟩) (Nat.le_refl _) (.int .u64 (n + d % 1000000000 - 1000000000))
  clear r1 r2 b1
  go_wp2_with fail
  generalize w1.setCell ⟨w.heap.size, 0, none⟩ (.int .u64 (n + d % 1000000000 - 1000000000)) = w3 at *
  clear c0 f0
  refine (addSec_any w.heap.size 0 (n + d % 1000000000 - 1000000000) e (d / 1000000000 + 1) w3 (by rw [R1.cell]; rfl) (by rw [R1.cell]; rfl) (R1.frozen 1) (by omega) (by omega) (by omega) (by omega) (by omega) (by omega)).mono ?_
  rintro e1 w2 ⟨rfl, hw⟩
  have R3 := R1.set 1 (.int .i64 (e + (d / 1000000000 + 1)))
  have R4 := R2.setOther ⟨w.heap.size, 1, none⟩ (.int .i64 (e + (d / 1000000000 + 1))) (by show _ ≠ w.heap.size; omega)
  have B2 := B1.setCell (p := ⟨w.heap.size, 1, none⟩) (Nat.le_refl _) (.int .i64 (e + (d / 1000000000 + 1)))
  simp only [Nat.zero_add] at hw
  rw [← hw] at R3 R4 B2
  clear R1 R2 B1 hw
  have c0 : w2.cell? ⟨w.heap.size, 0, none⟩ = some (.int .u64 (n + d % 1000000000 - 1000000000)) := by rw [R3.cell]; rfl
  have c1 : w2.cell? ⟨w.heap.size, 1, none⟩ = some (.int .i64 (e + (d / 1000000000 + 1))) := by rw [R3.cell]; rfl
  have c2 : w2.cell? ⟨w.heap.size, 2, none⟩ = some (.pointer none) := by rw [R3.cell]; rfl
  have d0 : w2.cell? ⟨w.heap.size + 1, 0, none⟩ = some (.int .u64 0) := by rw [R4.cell]; rfl
  have d1 : w2.cell? ⟨w.heap.size + 1, 1, none⟩ = some (.int .i64 0) := by rw [R4.cell]; rfl
  have d2 : w2.cell? ⟨w.heap.size + 1, 2, none⟩ = some (.pointer none) := by rw [R4.cell]; rfl
  have f0 := R4.frozen 0
  have f1 := R4.frozen 1
  have f2 := R4.frozen 2
  have R5 := ((R4.set 0 (.int .u64 (n + d % 1000000000 - 1000000000))).set 1 (.int .i64 (e + (d / 1000000000 + 1)))).set 2 (.pointer none)
  have B3 := ((B2.setCell (p := ⟨w.heap.size + 1, 0, none⟩) (by show _ ≤ w.heap.size + 1; omega) (.int .u64 (n + d % 1000000000 - 1000000000))).setCell (p := ⟨w.heap.size + 1, 1, none⟩) (by show _ ≤ w.heap.size + 1; omega) (.int .i64 (e + (d / 1000000000 + 1)))).setCell (p := ⟨w.heap.size + 1, 2, none⟩) (by show _ ≤ w.heap.size + 1; omega) (.pointer none)
  clear R3 R4 B2
  go_wp2_with fail
  generalize ((w2.setCell ⟨w.heap.size + 1, 0, none⟩ (.int .u64 (n + d % 1000000000 - 1000000000))).setCell ⟨w.heap.size + 1, 1, none⟩ (.int .i64 (e + (d / 1000000000 + 1)))).setCell ⟨w.heap.size + 1, 2, none⟩ (.pointer none) = w4 at *
  have g0 : w4.cell? ⟨w.heap.size + 1, 0, none⟩ = some (.int .u64 (n + d % 1000000000 - 1000000000)) := by rw [R5.cell]; rfl
  have g1 : w4.cell? ⟨w.heap.size + 1, 1, none⟩ = some (.int .i64 (e + (d / 1000000000 + 1))) := by rw [R5.cell]; rfl
  have g2 : w4.cell? ⟨w.heap.size + 1, 2, none⟩ = some (.pointer none) := by rw [R5.cell]; rfl
  exact bodyPost_ret (v := .agg #[.int .u64 (n + d % 1000000000 - 1000000000), .int .i64 (e + (d / 1000000000 + 1)), .pointer none]) (by simp [results, Try.results9, go_sem, g0, g1, g2]) rfl ⟨rfl, B3⟩

set_option maxHeartbeats 1000000 in
theorem add_neg (n e d : Int) (w : World) (hn : 0 ≤ n) (hn' : n < 1000000000) (he : -20000000000 ≤ e) (he' : e ≤ 20000000000) (hd : d < 0) (hd' : -9223372036854775808 ≤ d) (hc : 0 ≤ n + d.tmod 1000000000) :
    Calls Try.prog 9 #[.agg #[.int .u64 n, .int .i64 e, .pointer none], .int .i64 d] w fun e' w' => e' = .returned (.agg #[.int .u64 (n + d.tmod 1000000000), .int .i64 (e + (d.tdiv 1000000000)), .pointer none]) ∧ Below w.heap.size w w' := by
  have t1 := tm_bd d hd hd'
  obtain ⟨t2, t3, t4, t5⟩ := t1
  have k1 := andNot_mask n hn hn'
  have k2 := or_zero (n + d.tmod 1000000000) (by omega) (by omega)
  have k3 := and_top (n + d.tmod 1000000000) (by omega) (by omega)
  have r1 : RowAt ((w.alloc (.cells #[.int .u64 n, .int .i64 e, .pointer none] 34)).alloc (.cells #[.int .u64 0, .int .i64 0, .pointer none] 34)) w.heap.size 34 [.int .u64 n, .int .i64 e, .pointer none] := RowAt.alloc (heap_alloc_new w _) _
  have r2 : RowAt ((w.alloc (.cells #[.int .u64 n, .int .i64 e, .pointer none] 34)).alloc (.cells #[.int .u64 0, .int .i64 0, .pointer none] 34)) (w.heap.size + 1) 34 [.int .u64 0, .int .i64 0, .pointer none] := by
    have := heap_alloc_new (w.alloc (.cells #[.int .u64 n, .int .i64 e, .pointer none] 34)) (.cells #[.int .u64 0, .int .i64 0, .pointer none] 34)
    simpa [RowAt] using this
  have b1 := ((Below.refl w.heap.size w).alloc (Nat.le_refl _) (.cells #[.int .u64 n, .int .i64 e, .pointer none] 34)).alloc (by simp) (.cells #[.int .u64 0, .int .i64 0, .pointer none] 34)
  go_enter Try.func9, Try.ntmps9
  go_wp2_with fail
  generalize (w.alloc (.cells #[.int .u64 n, .int .i64 e, .pointer none] 34)).alloc (.cells #[.int .u64 0, .int .i64 0, .pointer none] 34) = w1 at *
  refine (nsec_any w.heap.size 0 n w1 (by rw [r1.cell]; rfl) hn hn').mono ?_
  rintro e1 w2 ⟨rfl, hw⟩
  obtain rfl := hw.symm
  clear hw
  have c0 : w1.cell? ⟨w.heap.size, 0, none⟩ = some (.int .u64 n) := by rw [r1.cell]; rfl
  have f0 := r1.frozen 0
  have R1 := r1.set 0 (.int .u64 (n + d.tmod 1000000000))
  have R2 := r2.setOther ⟨w.heap.size, 0, none⟩ (.int .u64 (n + d.tmod 1000000000)) (by show _ ≠ w.heap.size; omega)
  have B1 := b1.setCell (p := ⟨w.heap.size, 0, none⟩) (Nat.le_refl _) (.int .u64 (n + d.tmod 1000000000))
  clear r1 r2 b1
  go_wp2_with fail
  generalize w1.setCell ⟨w.heap.size, 0, none⟩ (.int .u64 (n + d.tmod 1000000000)) = w3 at *
  clear c0 f0
  refine (addSec_any w.heap.size 0 (n + d.tmod 1000000000) e (d.tdiv 1000000000) w3 (by rw [R1.cell]; rfl) (by rw [R1.cell]; rfl) (R1.frozen 1) (by omega) (by omega) (by omega) (by omega) (by omega) (by omega)).mono ?_
  rintro e1 w2 ⟨rfl, hw⟩
  have R3 := R1.set 1 (.int .i64 (e + (d.tdiv 1000000000)))
  have R4 := R2.setOther ⟨w.heap.size, 1, none⟩ (.int .i64 (e + (d.tdiv 1000000000))) (by show _ ≠ w.heap.size; omega)
  have B2 := B1.setCell (p := ⟨w.heap.size, 1, none⟩) (Nat.le_refl _) (.int .i64 (e + (d.tdiv 1000000000)))
  simp only [Nat.zero_add] at hw
  rw [← hw] at R3 R4 B2
  clear R1 R2 B1 hw
  have c0 : w2.cell? ⟨w.heap.size, 0, none⟩ = some (.int .u64 (n + d.tmod 1000000000)) := by rw [R3.cell]; rfl
  have c1 : w2.cell? ⟨w.heap.size, 1, none⟩ = some (.int .i64 (e + (d.tdiv 1000000000))) := by rw [R3.cell]; rfl
  have c2 : w2.cell? ⟨w.heap.size, 2, none⟩ = some (.pointer none) := by rw [R3.cell]; rfl
  have d0 : w2.cell? ⟨w.heap.size + 1, 0, none⟩ = some (.int .u64 0) := by rw [R4.cell]; rfl
  have d1 : w2.cell? ⟨w.heap.size + 1, 1, none⟩ = some (.int .i64 0) := by rw [R4.cell]; rfl
  have d2 : w2.cell? ⟨w.heap.size + 1, 2, none⟩ = some (.pointer none) := by rw [R4.cell]; rfl
  have f0 := R4.frozen 0
  have f1 := R4.frozen 1
  have f2 := R4.frozen 2
  have R5 := ((R4.set 0 (.int .u64 (n + d.tmod 1000000000))).set 1 (.int .i64 (e + (d.tdiv 1000000000)))).set 2 (.pointer none)
  have B3 := ((B2.setCell (p := ⟨w.heap.size + 1, 0, none⟩) (by show _ ≤ w.heap.size + 1; omega) (.int .u64 (n + d.tmod 1000000000))).setCell (p := ⟨w.heap.size + 1, 1, none⟩) (by show _ ≤ w.heap.size + 1; omega) (.int .i64 (e + (d.tdiv 1000000000)))).setCell (p := ⟨w.heap.size + 1, 2, none⟩) (by show _ ≤ w.heap.size + 1; omega) (.pointer none)
  clear R3 R4 B2
  go_wp2_with fail
  generalize ((w2.setCell ⟨w.heap.size + 1, 0, none⟩ (.int .u64 (n + d.tmod 1000000000))).setCell ⟨w.heap.size + 1, 1, none⟩ (.int .i64 (e + (d.tdiv 1000000000)))).setCell ⟨w.heap.size + 1, 2, none⟩ (.pointer none) = w4 at *
  have g0 : w4.cell? ⟨w.heap.size + 1, 0, none⟩ = some (.int .u64 (n + d.tmod 1000000000)) := by rw [R5.cell]; rfl
  have g1 : w4.cell? ⟨w.heap.size + 1, 1, none⟩ = some (.int .i64 (e + (d.tdiv 1000000000))) := by rw [R5.cell]; rfl
  have g2 : w4.cell? ⟨w.heap.size + 1, 2, none⟩ = some (.pointer none) := by rw [R5.cell]; rfl
  exact bodyPost_ret (v := .agg #[.int .u64 (n + d.tmod 1000000000), .int .i64 (e + (d.tdiv 1000000000)), .pointer none]) (by simp [results, Try.results9, go_sem, g0, g1, g2]) rfl ⟨rfl, B3⟩

set_option maxHeartbeats 1000000 in
theorem add_negb (n e d : Int) (w : World) (hn : 0 ≤ n) (hn' : n < 1000000000) (he : -20000000000 ≤ e) (he' : e ≤ 20000000000) (hd : d < 0) (hd' : -9223372036854775808 ≤ d) (hc : n + d.tmod 1000000000 < 0) :
    Calls Try.prog 9 #[.agg #[.int .u64 n, .int .i64 e, .pointer none], .int .i64 d] w fun e' w' => e' = .returned (.agg #[.int .u64 (n + d.tmod 1000000000 + 1000000000), .int .i64 (e + (d.tdiv 1000000000 - 1)), .pointer none]) ∧ Below w.heap.size w w' := by
  have t1 := tm_bd d hd hd'
  obtain ⟨t2, t3, t4, t5⟩ := t1
  have k1 := andNot_mask n hn hn'
  have k2 := or_zero (n + d.tmod 1000000000 + 1000000000) (by omega) (by omega)
  have k3 := and_top (n + d.tmod 1000000000 + 1000000000) (by omega) (by omega)
  have r1 : RowAt ((w.alloc (.cells #[.int .u64 n, .int .i64 e, .pointer none] 34)).alloc (.cells #[.int .u64 0, .int .i64 0, .pointer none] 34)) w.heap.size 34 [.int .u64 n, .int .i64 e, .pointer none] := RowAt.alloc (heap_alloc_new w _) _
  have r2 : RowAt ((w.alloc (.cells #[.int .u64 n, .int .i64 e, .pointer none] 34)).alloc (.cells #[.int .u64 0, .int .i64 0, .pointer none] 34)) (w.heap.size + 1) 34 [.int .u64 0, .int .i64 0, .pointer none] := by
    have := heap_alloc_new (w.alloc (.cells #[.int .u64 n, .int .i64 e, .pointer none] 34)) (.cells #[.int .u64 0, .int .i64 0, .pointer none] 34)
    simpa [RowAt] using this
  have b1 := ((Below.refl w.heap.size w).alloc (Nat.le_refl _) (.cells #[.int .u64 n, .int .i64 e, .pointer none] 34)).alloc (by simp) (.cells #[.int .u64 0, .int .i64 0, .pointer none] 34)
  go_enter Try.func9, Try.ntmps9
  go_wp2_with fail
  generalize (w.alloc (.cells #[.int .u64 n, .int .i64 e, .pointer none] 34)).alloc (.cells #[.int .u64 0, .int .i64 0, .pointer none] 34) = w1 at *
  refine (nsec_any w.heap.size 0 n w1 (by rw [r1.cell]; rfl) hn hn').mono ?_
  rintro e1 w2 ⟨rfl, hw⟩
  obtain rfl := hw.symm
  clear hw
  have c0 : w1.cell? ⟨w.heap.size, 0, none⟩ = some (.int .u64 n) := by rw [r1.cell]; rfl
  have f0 := r1.frozen 0
  have R1 := r1.set 0 (.int .u64 (n + d.tmod 1000000000 + 1000000000))
  have R2 := r2.setOther ⟨w.heap.size, 0, none⟩ (.int .u64 (n + d.tmod 1000000000 + 1000000000)) (by show _ ≠ w.heap.size; omega)
  have B1 := b1.setCell (p := ⟨w.heap.size, 0, none⟩) (Nat.le_refl _) (.int .u64 (n + d.tmod 1000000000 + 1000000000))
  clear r1 r2 b1
  go_wp2_with fail
  generalize w1.setCell ⟨w.heap.size, 0, none⟩ (.int .u64 (n + d.tmod 1000000000 + 1000000000)) = w3 at *
  clear c0 f0
  refine (addSec_any w.heap.size 0 (n + d.tmod 1000000000 + 1000000000) e (d.tdiv 1000000000 - 1) w3 (by rw [R1.cell]; rfl) (by rw [R1.cell]; rfl) (R1.frozen 1) (by omega) (by omega) (by omega) (by omega) (by omega) (by omega)).mono ?_
  rintro e1 w2 ⟨rfl, hw⟩
  have R3 := R1.set 1 (.int .i64 (e + (d.tdiv 1000000000 - 1)))
  have R4 := R2.setOther ⟨w.heap.size, 1, none⟩ (.int .i64 (e + (d.tdiv 1000000000 - 1))) (by show _ ≠ w.heap.size; omega)
  have B2 := B1.setCell (p := ⟨w.heap.size, 1, none⟩) (Nat.le_refl _) (.int .i64 (e + (d.tdiv 1000000000 - 1)))
  simp only [Nat.zero_add] at hw
  rw [← hw] at R3 R4 B2
  clear R1 R2 B1 hw
  have c0 : w2.cell? ⟨w.heap.size, 0, none⟩ = some (.int .u64 (n + d.tmod 1000000000 + 1000000000)) := by rw [R3.cell]; rfl
  have c1 : w2.cell? ⟨w.heap.size, 1, none⟩ = some (.int .i64 (e + (d.tdiv 1000000000 - 1))) := by rw [R3.cell]; rfl
  have c2 : w2.cell? ⟨w.heap.size, 2, none⟩ = some (.pointer none) := by rw [R3.cell]; rfl
  have d0 : w2.cell? ⟨w.heap.size + 1, 0, none⟩ = some (.int .u64 0) := by rw [R4.cell]; rfl
  have d1 : w2.cell? ⟨w.heap.size + 1, 1, none⟩ = some (.int .i64 0) := by rw [R4.cell]; rfl
  have d2 : w2.cell? ⟨w.heap.size + 1, 2, none⟩ = some (.pointer none) := by rw [R4.cell]; rfl
  have f0 := R4.frozen 0
  have f1 := R4.frozen 1
  have f2 := R4.frozen 2
  have R5 := ((R4.set 0 (.int .u64 (n + d.tmod 1000000000 + 1000000000))).set 1 (.int .i64 (e + (d.tdiv 1000000000 - 1)))).set 2 (.pointer none)
  have B3 := ((B2.setCell (p := ⟨w.heap.size + 1, 0, none⟩) (by show _ ≤ w.heap.size + 1; omega) (.int .u64 (n + d.tmod 1000000000 + 1000000000))).setCell (p := ⟨w.heap.size + 1, 1, none⟩) (by show _ ≤ w.heap.size + 1; omega) (.int .i64 (e + (d.tdiv 1000000000 - 1)))).setCell (p := ⟨w.heap.size + 1, 2, none⟩) (by show _ ≤ w.heap.size + 1; omega) (.pointer none)
  clear R3 R4 B2
  go_wp2_with fail
  generalize ((w2.setCell ⟨w.heap.size + 1, 0, none⟩ (.int .u64 (n + d.tmod 1000000000 + 1000000000))).setCell ⟨w.heap.size + 1, 1, none⟩ (.int .i64 (e + (d.tdiv 1000000000 - 1)))).setCell ⟨w.heap.size + 1, 2, none⟩ (.pointer none) = w4 at *
  have g0 : w4.cell? ⟨w.heap.size + 1, 0, none⟩ = some (.int .u64 (n + d.tmod 1000000000 + 1000000000)) := by rw [R5.cell]; rfl
  have g1 : w4.cell? ⟨w.heap.size + 1, 1, none⟩ = some (.int .i64 (e + (d.tdiv 1000000000 - 1))) := by rw [R5.cell]; rfl
  have g2 : w4.cell? ⟨w.heap.size + 1, 2, none⟩ = some (.pointer none) := by rw [R5.cell]; rfl
  exact bodyPost_ret (v := .agg #[.int .u64 (n + d.tmod 1000000000 + 1000000000), .int .i64 (e + (d.tdiv 1000000000 - 1)), .pointer none]) (by simp [results, Try.results9, go_sem, g0, g1, g2]) rfl ⟨rfl, B3⟩

/-- A moment: t nanoseconds behind the zero time. -/
def tmv (t : Int) : Value := .agg #[.int .u64 (t % 1000000000), .int .i64 (t / 1000000000), .pointer none]

/-- 't.Add(d)'. -/
theorem add_any (t d : Int) (w : World) (ht : -18446744073709551616 ≤ t) (ht' : t ≤ 18446744073709551616) (hd : -9223372036854775808 ≤ d) (hd' : d ≤ 9223372036854775807) :
    Calls Try.prog 9 #[tmv t, .int .i64 d] w fun e' w' => e' = .returned (tmv (t + d)) ∧ Below w.heap.size w w' := by
  have hn : 0 ≤ t % 1000000000 := by omega
  have hn' : t % 1000000000 < 1000000000 := by omega
  have he : -20000000000 ≤ t / 1000000000 := by omega
  have he' : t / 1000000000 ≤ 20000000000 := by omega
  unfold tmv
  by_cases hp : 0 ≤ d
  · by_cases hc : t % 1000000000 + d % 1000000000 < 1000000000
    · have e1 : (t + d) % 1000000000 = t % 1000000000 + d % 1000000000 := by omega
      have e2 : (t + d) / 1000000000 = t / 1000000000 + d / 1000000000 := by omega
      rw [e1, e2]; exact add_pos _ _ d w hn hn' he he' hp hd' hc
    · have e1 : (t + d) % 1000000000 = t % 1000000000 + d % 1000000000 - 1000000000 := by omega
      have e2 : (t + d) / 1000000000 = t / 1000000000 + (d / 1000000000 + 1) := by omega
      rw [e1, e2]; exact add_posc _ _ d w hn hn' he he' hp hd' (by omega)
  · obtain ⟨h1, h2⟩ := tm_neg d (by omega)
    by_cases hc : 0 ≤ t % 1000000000 + d.tmod 1000000000
    · have e1 : (t + d) % 1000000000 = t % 1000000000 + d.tmod 1000000000 := by rw [h1] at *; omega
      have e2 : (t + d) / 1000000000 = t / 1000000000 + d.tdiv 1000000000 := by rw [h1] at hc; rw [h2]; omega
      rw [e1, e2]; exact add_neg _ _ d w hn hn' he he' (by omega) hd hc
    · have e1 : (t + d) % 1000000000 = t % 1000000000 + d.tmod 1000000000 + 1000000000 := by rw [h1] at *; omega
      have e2 : (t + d) / 1000000000 = t / 1000000000 + (d.tdiv 1000000000 - 1) := by rw [h1] at hc; rw [h2]; omega
      rw [e1, e2]; exact add_negb _ _ d w hn hn' he he' (by omega) hd (by omega)
end Go.Proofs.Qxb6604639a
