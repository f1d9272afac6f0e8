import Derived.Test.Qxb6604639aRows
import Derived.Test.Qxb6604639aKit
import Derived.Test.Qxb6604639aBits
import Derived.WalkKit
import Derived.ProofKit
namespace Go.Proofs.Qxb6604639a
open Go.ChangeShapes Go.WideShapes Go.ChangeAt Go.RowKit
theorem hide {p : Prop} (h : p) : Hid p := h
theorem nsec_any (g o : Nat) (n : Int) (w : World) (h0 : w.cell? ⟨g, o, none⟩ = some (.int .u64 n)) (hn : 0 ≤ n) (hn' : n < 1000000000) :
    Calls Try.prog 13 #[.pointer (some ⟨g, o, none⟩)] w fun e w' => e = .returned (.int .i32 n) ∧ w' = w := by
  have hm := and_mask n hn hn'
  go_enter Try.func13, Try.ntmps13
  go_wp2_with fail
  go_ret
  exact ⟨rfl, rfl⟩
theorem sec_any (g o : Nat) (n e : Int) (w : World) (h0 : w.cell? ⟨g, o, none⟩ = some (.int .u64 n)) (h1 : w.cell? ⟨g, o + 1, none⟩ = some (.int .i64 e)) (hn : 0 ≤ n) (hn' : n < 1000000000) :
    Calls Try.prog 17 #[.pointer (some ⟨g, o, none⟩)] w fun e' w' => e' = .returned (.int .i64 e) ∧ w' = w := by
  have hm := and_top n hn hn'
  go_enter Try.func17, Try.ntmps17
  go_wp2_with fail
  go_ret
  exact ⟨rfl, rfl⟩
set_option maxHeartbeats 400000 in
theorem addSec_any (g o : Nat) (n e d : Int) (w : World) (h0 : w.cell? ⟨g, o, none⟩ = some (.int .u64 n)) (h1 : w.cell? ⟨g, o + 1, none⟩ = some (.int .i64 e)) (hf : w.frozen? ⟨g, o + 1, none⟩ = false) (hn : 0 ≤ n) (hn' : n < 1000000000)
    (he : -100000000000 ≤ e) (he' : e ≤ 100000000000) (hd : -100000000000 ≤ d) (hd' : d ≤ 100000000000) :
    Calls Try.prog 14 #[.pointer (some ⟨g, o, none⟩), .int .i64 d] w fun e' w' => e' = .returned (.tuple #[]) ∧ w' = w.setCell ⟨g, o + 1, none⟩ (.int .i64 (e + d)) := by
  have hm := and_top n hn hn'
  by_cases hp : 0 < d
  · have hq : e < e + d := by omega
    go_enter Try.func14, Try.ntmps14
    go_wp2_with fail
    go_end0
    exact ⟨rfl, rfl⟩
  · have hq : ¬ e < e + d := by omega
    go_enter Try.func14, Try.ntmps14
    go_wp2_with fail
    go_end0
    exact ⟨rfl, rfl⟩
end Go.Proofs.Qxb6604639a
