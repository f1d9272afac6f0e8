import Derived.Test.Qxb6604639aAdd
namespace Go.Proofs.Qxb6604639a
open Go.ChangeShapes Go.WideShapes Go.ChangeAt Go.RowKit

theorem ret_bool {a b : Bool} (h : a = b) : Ending.returned (.bool a) = .returned (.bool b) := by rw [h]

/-- Two boxed moments. -/
theorem two_boxes (w : World) (o1 o2 : Array Value) (t1 t2 : TypeId) : RowAt ((w.alloc (.cells o1 t1)).alloc (.cells o2 t2)) w.heap.size t1 o1.toList ∧ RowAt ((w.alloc (.cells o1 t1)).alloc (.cells o2 t2)) (w.heap.size + 1) t2 o2.toList ∧ Below w.heap.size w ((w.alloc (.cells o1 t1)).alloc (.cells o2 t2)) := by
  refine ⟨RowAt.alloc (show _ = _ by simpa using heap_alloc_new w (.cells o1 t1)) _, ?_, ((Below.refl w.heap.size w).alloc (Nat.le_refl _) _).alloc (by simp) _⟩
  have := heap_alloc_new (w.alloc (.cells o1 t1)) (.cells o2 t2)
  simpa [RowAt] using this

set_option maxHeartbeats 1000000 in
theorem equal_any (n e m f : Int) (w : World) (hn : 0 ≤ n) (hn' : n < 1000000000) (hm : 0 ≤ m) (hm' : m < 1000000000) :
    Calls Try.prog 18 #[.agg #[.int .u64 n, .int .i64 e, .pointer none], .agg #[.int .u64 m, .int .i64 f, .pointer none]] w fun e' w' => e' = .returned (.bool (decide (e = f ∧ n = m))) ∧ Below w.heap.size w w' := by
  have k := and_and_top n m hn hn' hm hm'
  obtain ⟨r1, r2, b1⟩ := two_boxes w #[.int .u64 n, .int .i64 e, .pointer none] #[.int .u64 m, .int .i64 f, .pointer none] 34 34
  go_enter Try.func18, Try.ntmps18
  go_wp2_with fail
  generalize (w.alloc (.cells #[.int .u64 n, .int .i64 e, .pointer none] 34)).alloc (.cells #[.int .u64 m, .int .i64 f, .pointer none] 34) = w1 at *
  have a0 : w1.cell? ⟨w.heap.size, 0, none⟩ = some (.int .u64 n) := by rw [r1.cell]; rfl
  have a1 : w1.cell? ⟨w.heap.size, 0 + 1, none⟩ = some (.int .i64 e) := by rw [r1.cell]; rfl
  have c0 : w1.cell? ⟨w.heap.size + 1, 0, none⟩ = some (.int .u64 m) := by rw [r2.cell]; rfl
  have c1 : w1.cell? ⟨w.heap.size + 1, 0 + 1, none⟩ = some (.int .i64 f) := by rw [r2.cell]; rfl
  refine (sec_any w.heap.size 0 n e w1 a0 a1 hn hn').mono ?_
  rintro e1 w2 ⟨rfl, hw⟩
  obtain rfl := hw.symm
  clear hw
  go_wp2_with fail
  refine (sec_any (w.heap.size + 1) 0 m f w1 c0 c1 hm hm').mono ?_
  rintro e1 w2 ⟨rfl, hw⟩
  obtain rfl := hw.symm
  clear hw
  by_cases hef : e = f
  · have heb : (e == f) = true := by simp [hef]
    have HE := hide hef
    clear hef
    go_wp2_with fail
    refine (nsec_any w.heap.size 0 n w1 a0 hn hn').mono ?_
    rintro e1 w2 ⟨rfl, hw⟩
    obtain rfl := hw.symm
    clear hw
    go_wp2_with fail
    refine (nsec_any (w.heap.size + 1) 0 m w1 c0 hm hm').mono ?_
    rintro e1 w2 ⟨rfl, hw⟩
    obtain rfl := hw.symm
    clear hw
    go_wp2_with fail
    go_ret
    refine ⟨ret_bool ?_, b1⟩
    by_cases hnm : n = m
    · simp [hnm, HE.out]
    · simp [hnm]
  · have heb : (e == f) = false := by simpa using hef
    go_wp2_with fail
    go_ret
    refine ⟨ret_bool ?_, b1⟩
    simp [hef]

set_option maxHeartbeats 1000000 in
theorem before_any (n e m f : Int) (w : World) (hn : 0 ≤ n) (hn' : n < 1000000000) (hm : 0 ≤ m) (hm' : m < 1000000000) :
    Calls Try.prog 19 #[.agg #[.int .u64 n, .int .i64 e, .pointer none], .agg #[.int .u64 m, .int .i64 f, .pointer none]] w fun e' w' => e' = .returned (.bool (decide (e < f ∨ (e = f ∧ n < m)))) ∧ Below w.heap.size w w' := by
  have k := and_and_top n m hn hn' hm hm'
  obtain ⟨r1, r2, b1⟩ := two_boxes w #[.int .u64 n, .int .i64 e, .pointer none] #[.int .u64 m, .int .i64 f, .pointer none] 34 34
  go_enter Try.func19, Try.ntmps19
  go_wp2_with fail
  generalize (w.alloc (.cells #[.int .u64 n, .int .i64 e, .pointer none] 34)).alloc (.cells #[.int .u64 m, .int .i64 f, .pointer none] 34) = w1 at *
  have a0 : w1.cell? ⟨w.heap.size, 0, none⟩ = some (.int .u64 n) := by rw [r1.cell]; rfl
  have a1 : w1.cell? ⟨w.heap.size, 0 + 1, none⟩ = some (.int .i64 e) := by rw [r1.cell]; rfl
  have c0 : w1.cell? ⟨w.heap.size + 1, 0, none⟩ = some (.int .u64 m) := by rw [r2.cell]; rfl
  have c1 : w1.cell? ⟨w.heap.size + 1, 0 + 1, none⟩ = some (.int .i64 f) := by rw [r2.cell]; rfl
  refine (sec_any w.heap.size 0 n e w1 a0 a1 hn hn').mono ?_
  rintro e1 w2 ⟨rfl, hw⟩
  obtain rfl := hw.symm
  clear hw
  go_wp2_with fail
  refine (sec_any (w.heap.size + 1) 0 m f w1 c0 c1 hm hm').mono ?_
  rintro e1 w2 ⟨rfl, hw⟩
  obtain rfl := hw.symm
  clear hw
  by_cases hlt : e < f
  · go_wp2_with fail
    go_ret
    refine ⟨ret_bool ?_, b1⟩
    simp [hlt]
  by_cases hef : e = f
  · have heb : (e == f) = true := by simp [hef]
    have HE := hide hef
    clear hef
    go_wp2_with fail
    refine (nsec_any w.heap.size 0 n w1 a0 hn hn').mono ?_
    rintro e1 w2 ⟨rfl, hw⟩
    obtain rfl := hw.symm
    clear hw
    go_wp2_with fail
    refine (nsec_any (w.heap.size + 1) 0 m w1 c0 hm hm').mono ?_
    rintro e1 w2 ⟨rfl, hw⟩
    obtain rfl := hw.symm
    clear hw
    go_wp2_with fail
    go_ret
    refine ⟨ret_bool ?_, b1⟩
    simp [HE.out]
  · have heb : (e == f) = false := by simpa using hef
    go_wp2_with fail
    go_ret
    refine ⟨ret_bool ?_, b1⟩
    simp [hef]
end Go.Proofs.Qxb6604639a
