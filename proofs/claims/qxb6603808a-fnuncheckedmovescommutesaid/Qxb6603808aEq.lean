import Derived.Test.Qxb6603808aRows
import Derived.WalkKit
import Derived.ProofKit
import Derived.Below
import Derived.Deep.QuietTactic
import Derived.BigQuiet
namespace Go.Proofs.Qxb6603808a
open Go.ChangeShapes Go.WideShapes Go.ChangeAt Go.RowKit

/-- The first 'zs.length' cells behind the address 'a' hold the numbers 'zs'. -/
def Ints (w : World) (a : Option Addr) (zs : List Int) : Prop :=
  zs = [] ∨ ∃ b off, a = some ⟨b, off, none⟩ ∧ ∀ i, i < zs.length → w.cell? ⟨b, off + i, none⟩ = some (.int .i64 (zs.getD i 0))

theorem cell_drewN (w : World) (n : Nat) (a : Addr) : (w.drewN n).cell? a = w.cell? a := by
  rfl

theorem drewN_drewN (w : World) (n m : Nat) : (w.drewN n).drewN m = w.drewN (n + m) := by
  simp [World.drewN, Nat.add_assoc]

theorem ret_bool {a b : Bool} (h : a = b) : Ending.returned (.bool a) = .returned (.bool b) := by rw [h]

theorem list_ext_getD {xs ys : List Int} (hl : xs.length = ys.length) (h : ∀ j, j < xs.length → xs.getD j 0 = ys.getD j 0) : xs = ys := by
  apply List.ext_getElem hl
  intro i h1 h2
  have := h i h1
  simpa [List.getD, h1, h2] using this

set_option maxHeartbeats 400000 in
theorem equal_any (xs ys : List Int) (a b : Option Addr) (ca cb : Nat) (w : World) (ha : Ints w a xs) (hb : Ints w b ys) (hx : xs.length ≤ 1000000000) (hy : ys.length ≤ 1000000000) :
    Calls Try.prog 13 #[.slice a xs.length ca, .slice b ys.length cb] w fun e w' => e = .returned (.bool (decide (xs = ys))) ∧ ∃ n, w' = w.drewN n := by
  by_cases hl : xs.length = ys.length
  · have hne : ((xs.length : Int) != (ys.length : Int)) = false := by simp [hl]
    go_enter Try.func13, Try.ntmps13
    go_wp2
    go_loopw [13] (fun v wr => ∃ k : Nat, k ≤ xs.length ∧ v = .int .i64 k ∧ (∀ j, j < k → xs.getD j 0 = ys.getD j 0) ∧ ∃ n, wr = w.drewN n) (fun v _ => xs.length - (intOf v).toNat)
    case atStart => exact ⟨0, Nat.zero_le _, rfl, fun j h => absurd h (by omega), 0, rfl⟩
    case round =>
      obtain ⟨k, hk, rfl, hj, n, rfl⟩ := hrel
      by_cases hlt : k < xs.length
      · have hlti : (k : Int) < (xs.length : Int) := by omega
        have hlty : (k : Int) < (ys.length : Int) := by omega
        rcases ha with ha | ⟨ba, oa, rfl, hca⟩
        · subst ha; simp at hlt
        rcases hb with hb | ⟨bb, ob, rfl, hcb⟩
        · subst hb; simp only [List.length_nil] at hl; omega
        have g1 := hca k hlt
        have g2 := hcb k (by omega)
        clear hca hcb
        go_wp2
        go_quiet (fail)
        go_wp2
        · have hd : (xs[k]?.getD 0 != ys[k]?.getD 0) = true := by assumption
          go_ret
          refine ⟨ret_bool ?_, n + nq, drewN_drewN _ _ _⟩
          symm
          simp only [decide_eq_false_iff_not]
          intro h
          rw [h] at hd
          simp at hd
        · have hd : (xs[k]?.getD 0 != ys[k]?.getD 0) = false := by assumption
          go_roundw
          case rel =>
            refine ⟨k + 1, by omega, by go_num, ?_, _, rfl⟩
            intro j hjk
            by_cases e : j = k
            · subst e; simpa [List.getD] using hd
            · exact hj j (by omega)
          case measure => simp [intOf]; omega
      · go_wp2
        go_ret
        refine ⟨ret_bool ?_, _, rfl⟩
        symm
        simp only [decide_eq_true_eq]
        exact list_ext_getD hl (fun j h => hj j (by omega))
  · have hne : ((xs.length : Int) != (ys.length : Int)) = true := by simp; omega
    go_enter Try.func13, Try.ntmps13
    go_wp2
    go_ret
    exact ⟨ret_bool (by simp; intro h; exact hl (by rw [h])), 0, rfl⟩

/-- 'ZZEqual' is 'equal'. -/
theorem zzequal_any (xs ys : List Int) (a b : Option Addr) (ca cb : Nat) (w : World) (ha : Ints w a xs) (hb : Ints w b ys) (hx : xs.length ≤ 1000000000) (hy : ys.length ≤ 1000000000) :
    Calls Try.prog 11 #[.slice a xs.length ca, .slice b ys.length cb] w fun e w' => e = .returned (.bool (decide (xs = ys))) ∧ ∃ n, w' = w.drewN n := by
  go_enter Try.func11, Try.ntmps11
  go_wp2_with (go_at_call 13; refine (equal_any xs ys a b ca cb w ha hb hx hy).mono ?_; rintro e w' ⟨rfl, n, rfl⟩)
  go_ret
  exact ⟨rfl, _, rfl⟩
end Go.Proofs.Qxb6603808a
