import Derived.Test.Qxb6603808aKit
import Derived.Test.Qxb6603808aEq
namespace Go.Proofs.Qxb6603808a
open Go.ChangeShapes Go.WideShapes Go.ChangeAt Go.RowKit

theorem Try.info2 : (Try.prog.info? 2).map (fun i => (i.zero, i.size, i.bytes)) = some (some (.int .i64 0), 1, 8) := by kernel_rfl

theorem RowAt.ints {w : World} {g : Nat} {e : TypeId} {zs : List Int} (h : RowAt w g e (cellsOf .i64 zs)) : Ints w (some ⟨g, 0, none⟩) zs :=
  .inr ⟨g, 0, rfl, fun i hi => by rw [Nat.zero_add, h.cell, cellsOf_get _ _ _ hi]⟩
theorem Ints.below {B : Nat} {w w' : World} {a : Option Addr} {zs : List Int} (h : Ints w a zs) (hb : Below B w w') (hB : ∀ b off, a = some ⟨b, off, none⟩ → b < B) : Ints w' a zs := by
  rcases h with h | ⟨b, off, rfl, h⟩
  · exact .inl h
  · exact .inr ⟨b, off, rfl, fun i hi => by rw [hb.cell (p := ⟨b, off + i, none⟩) (by exact hB b off rfl)]; exact h i hi⟩
theorem Ints.drewN {w : World} {a : Option Addr} {zs : List Int} (h : Ints w a zs) (n : Nat) : Ints (w.drewN n) a zs := h

theorem bytes9_any (a : Option Addr) (n c : Nat) (i x : Int) (w : World) (hn : n ≤ maxLen) :
    Calls Try.prog 9 #[.slice a n c, .int .i64 i, .int .i64 x] w fun e w' => e = .returned (.bool (decide (n ≤ 1048576))) ∧ w' = w := by
  unfold maxLen at hn
  go_enter Try.func9, Try.ntmps9
  go_wp2
  · go_ret
    exact ⟨ret_bool (by symm; simp; omega), rfl⟩
  · go_ret
    exact ⟨ret_bool (by symm; simp; omega), rfl⟩

set_option maxHeartbeats 400000 in
theorem clone_any (zs : List Int) (x : Addr) (c : Nat) (w : World) (ha : Ints w (some x) zs) (hx : zs.length ≤ 1000000000) (hlt : zs ≠ [] → x.block < w.heap.size) :
    Calls Try.prog 10 #[.slice (some x) zs.length c] w fun e w' => e = .returned (.slice (some ⟨w.heap.size, 0, none⟩) zs.length zs.length) ∧ RowAt w' w.heap.size 2 (cellsOf .i64 zs) ∧ Below w.heap.size w w' := by
  obtain ⟨i0, hi, hz0, hz1, hz2⟩ := info_parts Try.info2
  have hnil := run_eql_nil (P := Try.prog) 22 2 Try.underlying22
  go_enter Try.func10, Try.ntmps10
  go_wp2_with (at_make; refine wpList_make_row rfl (.tmp 8) (.tmp 8) 22 rfl 2 i0 (.int .i64 0) Try.underlying22 hi hz0 hz1 rfl _ _ _ _ zs.length rfl rfl rfl rfl (by rw [hz2]; omega) (by unfold maxLen; omega) ?_)
  intro w1 hrow hb
  rw [cellsOf_replicate, ← upTo_zero zs] at hrow
  clear hi hz0 hz1 hz2
  go_wp2_with fail
  go_loopw [4] (fun v wr => ∃ k : Nat, k ≤ zs.length ∧ v = .int .i64 k ∧ RowAt wr w.heap.size 2 (cellsOf .i64 (upTo zs zs.length k)) ∧ Below w.heap.size w wr) (fun v _ => zs.length - (intOf v).toNat)
  case atStart => exact ⟨0, Nat.zero_le _, rfl, hrow, hb⟩
  case round =>
    clear hrow hb
    obtain ⟨k, hk, rfl, hrow, hb⟩ := hrel
    by_cases hkl : k < zs.length
    · have hlti : (k : Int) < (zs.length : Int) := by omega
      rcases ha with ha | ⟨ba, oa, hxa, hca⟩
      · subst ha; simp at hkl
      obtain rfl := Option.some.inj hxa
      have g1 : wr.cell? ⟨ba, oa + k, none⟩ = some (.int .i64 (zs.getD k 0)) := (hb.cell (p := ⟨ba, oa + k, none⟩) (hlt (by intro h; subst h; simp at hkl))).trans (hca k hkl)
      have g2 : wr.cell? ⟨w.heap.size, k, none⟩ = some (.int .i64 ((upTo zs zs.length k).getD k 0)) := by rw [hrow.cell, cellsOf_get _ _ _ (by rw [upTo_length _ _ _ hk hk]; exact hkl)]
      have g3 := hrow.frozen k
      have R := hrow.set k (.int .i64 (zs.getD k 0))
      rw [cellsOf_set, upTo_succ _ _ _ hkl hkl] at R
      have RB := hb.setCell (p := ⟨w.heap.size, k, none⟩) (Nat.le_refl _) (.int .i64 (zs.getD k 0))
      clear hca hrow hb hxa
      go_wp2
      go_roundw
      case rel => exact ⟨k + 1, by omega, by go_num, by simpa [hkl] using R, by simpa [hkl] using RB⟩
      case measure => simp [intOf]; omega
    · have e : k = zs.length := by omega
      subst e
      rw [upTo_full] at hrow
      go_wp2
      go_ret
      exact ⟨rfl, hrow, hb⟩

theorem clone_nil (w : World) :
    Calls Try.prog 10 #[.slice none 0 0] w fun e w' => e = .returned (.slice none 0 0) ∧ w' = w := by
  have hnil := run_eql_nil (P := Try.prog) 22 2 Try.underlying22
  go_enter Try.func10, Try.ntmps10
  go_wp2
  go_ret
  exact ⟨rfl, rfl⟩
end Go.Proofs.Qxb6603808a
