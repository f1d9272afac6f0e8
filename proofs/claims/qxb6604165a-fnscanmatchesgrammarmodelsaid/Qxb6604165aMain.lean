import Derived.Test.Qxb6604165aModel0
import Derived.Test.Qxb6604165aModel1
import Derived.Test.Qxb6604165aModel2
namespace Go.Proofs.Qxb6604165a
open Go.ChangeShapes Go.WideShapes Go.ChangeAt Go.RowKit

set_option maxHeartbeats 400000 in
theorem model_empty (s : ByteArray) (w : World) (h0 : s.size = 0) :
    Calls Try.prog 6 #[.string s] w fun e w' => RetR e (bod s 0) false ∧ Below w.heap.size w w' := by
  have hz : (s.size : Int) = 0 := by omega
  have hl : bod s 0 = [] := List.eq_nil_of_length_eq_zero (by unfold bod; simpa using h0)
  have R : RetR (.returned (.tuple #[.int .i64 0, .int .i64 0, .int .i64 0, .bool false])) (bod s 0) false := ⟨0, 0, 0, false, rfl, res_bad (by rw [hl]; exact bad_nil)⟩
  generalize bod s 0 = l at *
  clear hl h0
  go_enter Try.func6, Try.ntmps6
  go_wp2_with fail
  refine wp_loop_rounds 1 ?_; rw [rounds_succ]
  go_wp2_with fail
  (refine bodyPost_ret (results_tmp4 rfl _ _ _) rfl ?_; exact ⟨R, Below.refl _ _⟩)

theorem bod_extract (s : ByteArray) : bod (s.extract 1 s.size) 0 = bod s 1 := by
  unfold bod
  simp [ByteArray.data_extract, Array.toList_extract, List.extract_eq_take_drop]
  exact List.take_of_length_le (by simp)

theorem model_any (s : ByteArray) (st : Nat) (neg : Bool) (w : World) (hs : s.size ≤ 1048576) (hh : Head s st neg) :
    Calls Try.prog 6 #[.string s] w fun e w' => RetR e (bod s st) neg ∧ Below w.heap.size w w' := by
  have hx : (s.extract 1 s.size).size ≤ 1048576 := by simp; omega
  rcases hh with ⟨h0, rfl, rfl⟩ | ⟨h0, ⟨h1, h2, rfl, rfl⟩ | ⟨h1, h2, rfl, rfl⟩ | ⟨h1, h2, rfl, rfl⟩⟩
  · exact model_empty s w h0
  · exact model_none s w hs h0 h1 h2
  · rw [← bod_extract]; exact model_plus s w hs _ (hide rfl) hx h0 h1 h2
  · rw [← bod_extract]; exact model_minus s w hs _ (hide rfl) hx h0 h1 h2

theorem bytes4_any (s : ByteArray) (w : World) (hn : s.size ≤ maxLen) :
    Calls Try.prog 4 #[.string s] w fun e w' => e = .returned (.bool (decide (s.size ≤ 1048576))) ∧ w' = w := by
  unfold maxLen at hn
  go_enter Try.func4, Try.ntmps4
  go_wp2
  · go_ret
    exact ⟨congrArg (fun b => Ending.returned (.bool b)) (by symm; simp; omega), rfl⟩
  · go_ret
    exact ⟨congrArg (fun b => Ending.returned (.bool b)) (by symm; simp; omega), rfl⟩

set_option maxHeartbeats 1000000 in
theorem main_any (s : ByteArray) (w : World) (hn : s.size ≤ maxLen) :
    Calls Try.prog 3 #[.string s] w fun e w' => e = .returned (.bool true) ∧ Below w.heap.size w w' := by
  have C := bytes4_any s w hn
  unfold maxLen at hn
  by_cases hs : s.size ≤ 1048576
  · have hd : decide (s.size ≤ 1048576) = true := by simpa using hs
    rw [hd] at C
    obtain ⟨st, neg, hh⟩ := head_ex s
    have C1 := zzscan_any s st neg w hs hh
    have C2 := model_any s st neg w hs hh
    clear hd hh
    go_enter Try.func3, Try.ntmps3
    go_wp2_with fail
    refine C.mono ?_
    rintro e w' ⟨rfl, hw⟩
    obtain rfl := hw.symm
    clear hw C
    go_wp2_with fail
    refine C1.mono ?_
    rintro e w' ⟨⟨d, f, c, ok, rfl, hr⟩, hw⟩
    obtain rfl := hw.symm
    clear hw C1
    go_wp2_with fail
    refine C2.mono ?_
    rintro e w2 ⟨⟨d2, f2, c2, ok2, rfl, hr2⟩, hb⟩
    clear C2
    obtain ⟨rfl, rfl, rfl, rfl⟩ := res_unique hr hr2
    clear hr hr2
    have e1 : (d == d) = true := by simp
    have e2 : (f == f) = true := by simp
    have e3 : (c == c) = true := by simp
    go_wp2_with fail
    go_ret
    exact ⟨congrArg (fun b => Ending.returned (.bool b)) (by simp), hb⟩
  · have hd : decide (s.size ≤ 1048576) = false := by simpa using hs
    rw [hd] at C
    go_enter Try.func3, Try.ntmps3
    go_wp2_with fail
    refine C.mono ?_
    rintro e w' ⟨rfl, hw⟩
    obtain rfl := hw.symm
    clear hw C
    go_wp2_with fail
    go_ret
    exact ⟨rfl, Below.refl _ _⟩
end Go.Proofs.Qxb6604165a
