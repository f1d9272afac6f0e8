import Derived.Test.Qxb6604639aSub2
import Derived.Deep.QuietTactic
import Derived.BigQuiet
namespace Go.Proofs.Qxb6604639a
open Go.ChangeShapes Go.WideShapes Go.ChangeAt Go.RowKit
attribute [local go_sem ↓] Go.wp_at_zero Go.wp_at_succ

/-- The cells of a pace. -/
def paceL (s b a l t : Int) : List Value := [.int .u64 (s % 1000000000), .int .i64 (s / 1000000000), .pointer none, .int .i64 b, .int .u64 (a % 1000000000), .int .i64 (a / 1000000000), .pointer none, .int .i64 l, .int .i64 t]

theorem add_zero (d : Int) (w : World) (hd : -9223372036854775808 ≤ d) (hd' : d ≤ 9223372036854775807) :
    Calls Try.prog 9 #[.agg #[.int .u64 0, .int .i64 0, .pointer none], .int .i64 d] w fun e' w' => e' = .returned (.agg #[.int .u64 (d % 1000000000), .int .i64 (d / 1000000000), .pointer none]) ∧ Below w.heap.size w w' := by
  have C := add_any 0 d w (by omega) (by omega) hd hd'
  rw [Int.zero_add] at C
  exact C

set_option maxHeartbeats 1000000 in
theorem newPace_any (s b a l t : Int) (w : World) (h1 : -9223372036854775808 ≤ s) (h2 : s ≤ 9223372036854775807) (h3 : -9223372036854775808 ≤ a) (h4 : a ≤ 9223372036854775807) :
    Calls Try.prog 6 #[.int .i64 s, .int .i64 b, .int .i64 a, .int .i64 l, .int .i64 t] w fun e w' => ∃ g, e = .returned (.pointer (some ⟨g, 0, none⟩)) ∧ w.heap.size ≤ g ∧ RowAt w' g 38 (paceL s b a l t) ∧ Below w.heap.size w w' := by
  go_enter Try.func6, Try.ntmps6
  go_wp2_with fail
  refine (add_zero s _ h1 h2).mono ?_
  rintro e1 w1 ⟨rfl, b1⟩
  go_wp2_with fail
  refine (add_zero a _ h3 h4).mono ?_
  rintro e1 w2 ⟨rfl, b2⟩
  have b3 := b1.trans (b2.mono b1.size)
  have hs := b3.size
  clear b1 b2
  go_wp2_with fail
  go_ret
  refine ⟨w2.heap.size, rfl, hs, ?_, b3.alloc hs _⟩
  exact heap_alloc_new w2 _
end Go.Proofs.Qxb6604639a
