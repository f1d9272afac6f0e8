import Derived.Test.Qxb6603808aPlain
import Derived.Test.Qxb6603808aClone
namespace Go.Proofs.Qxb6603808a
open Go.ChangeShapes Go.WideShapes Go.ChangeAt Go.RowKit

/-- The cells behind the address 'a' hold the steps 'ss'. -/
def Steps (w : World) (a : Option Addr) (ss : List St) : Prop :=
  ss = [] ∨ ∃ b off, a = some ⟨b, off, none⟩ ∧ ∀ k (h : k < ss.length), w.cell? ⟨b, off + k * 3, none⟩ = some (.int .i32 ss[k].slot) ∧ w.cell? ⟨b, off + k * 3 + 1, none⟩ = some (.int .i64 ss[k].read) ∧ w.cell? ⟨b, off + k * 3 + 2, none⟩ = some (.bool ss[k].inc)

/-- It returns a bool; where that is true, p. -/
def RetB (e : Ending) (p : Prop) : Prop := ∃ b, e = .returned (.bool b) ∧ (b = true → p)

theorem bytes5_any (a0 a1 a2 : Option Addr) (n0 c0 n1 c1 n2 c2 : Nat) (w : World) (h0 : n0 ≤ maxLen) (h1 : n1 ≤ maxLen) (h2 : n2 ≤ maxLen) :
    Calls Try.prog 5 #[.slice a0 n0 c0, .slice a1 n1 c1, .slice a2 n2 c2] w fun e w' => RetB e (n0 + n1 + n2 ≤ 1048576) ∧ w' = w := by
  unfold maxLen at *
  go_enter Try.func5, Try.ntmps5
  go_wp2
  all_goals go_ret
  all_goals refine ⟨⟨_, rfl, ?_⟩, rfl⟩
  all_goals intro h
  all_goals first | (exact absurd h (by decide)) | omega

/-- Every slot lies below n. -/
def Below32 (n : Nat) (ss : List St) : Prop := ∀ s ∈ ss, s.slot < (n : Int)
def Wf32 (ss : List St) : Prop := ∀ s ∈ ss, -2147483648 ≤ s.slot ∧ s.slot ≤ 2147483647

set_option maxHeartbeats 400000 in
theorem slots_any (n : Nat) (ss : List St) (a : Option Addr) (c : Nat) (w : World) (hs : Steps w a ss) (hwf : Wf32 ss) (hl : ss.length ≤ 1000000000) :
    Calls Try.prog 6 #[.int .i64 n, .slice a ss.length c] w fun e w' => RetB e (Below32 n ss) ∧ w' = w := by
  go_enter Try.func6, Try.ntmps6
  go_wp2
  go_loop [5] (fun i => ∃ k : Nat, k ≤ ss.length ∧ i = .int .i64 k ∧ ∀ j (h : j < ss.length), j < k → ss[j].slot < (n : Int)) (fun i => ss.length - (intOf i).toNat)
  case atStart => exact ⟨0, Nat.zero_le _, rfl, fun j _ h => absurd h (by omega)⟩
  case round =>
    obtain ⟨k, hk, rfl, hj⟩ := hrel
    by_cases hlt : k < ss.length
    · have hlti : (k : Int) < (ss.length : Int) := by omega
      rcases hs with hs | ⟨b, off, rfl, hc⟩
      · subst hs; simp at hlt
      have g1 := (hc k hlt).1
      obtain ⟨wl, wu⟩ := hwf ss[k] (List.getElem_mem _)
      clear hc
      go_wp2
      · go_ret
        exact ⟨⟨false, rfl, fun h => absurd h (by decide)⟩, rfl⟩
      · have hle : ss[k].slot < (n : Int) := by omega
        go_round
        case rel =>
          refine ⟨k + 1, by omega, by go_num, fun j h hj1 => ?_⟩
          by_cases e : j = k
          · subst e; exact hle
          · exact hj j h (by omega)
        case measure => simp [intOf]; omega
    · go_wp2
      go_ret
      refine ⟨⟨true, rfl, fun _ s hs => ?_⟩, rfl⟩
      obtain ⟨j, h, rfl⟩ := List.getElem_of_mem hs
      exact hj j h (by omega)

set_option maxHeartbeats 400000 in
theorem same_any (xs ys : List Int) (a b : Option Addr) (ca cb : Nat) (w : World) (ha : Ints w a xs) (hb : Ints w b ys) (hx : xs.length ≤ 1000000000) (e : xs = ys) :
    Calls Try.prog 8 #[.slice a xs.length ca, .slice b ys.length cb] w fun e w' => e = .returned (.bool true) ∧ ∃ n, w' = w.drewN n := by
  subst e
  have hne : ((xs.length : Int) != (xs.length : Int)) = false := by simp
  go_enter Try.func8, Try.ntmps8
  go_wp2
  go_loopw [5] (fun v wr => ∃ k : Nat, k ≤ xs.length ∧ v = .int .i64 k ∧ ∃ n, wr = w.drewN n) (fun v _ => xs.length - (intOf v).toNat)
  case atStart => exact ⟨0, Nat.zero_le _, rfl, 0, rfl⟩
  case round =>
    obtain ⟨k, hk, rfl, n, rfl⟩ := hrel
    by_cases hlt : k < xs.length
    · have hlti : (k : Int) < (xs.length : Int) := by omega
      rcases ha with ha | ⟨ba, oa, rfl, hca⟩
      · subst ha; simp at hlt
      rcases hb with hb | ⟨bb, ob, rfl, hcb⟩
      · subst hb; simp at hlt
      obtain ⟨y, hy⟩ : ∃ y, y = xs.getD k 0 := ⟨_, rfl⟩
      have g1 := hca k hlt
      have g2 := hcb k hlt
      rw [← hy] at g1 g2
      have hyy : (y != y) = false := by simp
      clear hca hcb hy
      go_wp2
      go_quiet (fail)
      go_wp2
      go_roundw
      case rel => exact ⟨k + 1, by omega, by go_num, _, rfl⟩
      case measure => simp [intOf]; omega
    · go_wp2
      go_ret
      exact ⟨rfl, _, rfl⟩
end Go.Proofs.Qxb6603808a
