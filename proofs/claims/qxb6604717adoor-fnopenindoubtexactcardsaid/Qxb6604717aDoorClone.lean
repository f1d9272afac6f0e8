import Derived.Test.Qxb6604717aDoorRows
import Derived.Test.Qxb6604717aDoorBase
import Derived.WalkKit
import Derived.ProofKit
namespace Go.Proofs.Qxb6604717aDoor
open Go.ChangeShapes Go.WideShapes Go.ChangeAt Go.RowKit

theorem Tryd.info5 : (Tryd.prog.info? 5).map (fun i => (i.zero, i.size, i.bytes)) = some (some (.int .u8 0), 1, 1) := by kernel_rfl
theorem Tryd.info9 : (Tryd.prog.info? 9).map (fun i => (i.zero, i.size, i.bytes)) = some (some (.string ByteArray.empty), 1, 16) := by kernel_rfl

set_option maxHeartbeats 400000 in
theorem cloneB_some (vs : List Value) (x : Addr) (c : Nat) (w : World) (hc : Cells w (some x) vs) (h1 : ∀ v ∈ vs, ∃ n : Int, v = .int .u8 n) (hl : vs.length ≤ 1048576) :
    Calls Tryd.prog 18 #[.slice (some x) vs.length c] w fun e w' => e = .returned (.slice (some ⟨w.heap.size, 0, none⟩) vs.length vs.length) ∧ RowAt w' w.heap.size 5 vs ∧ Below w.heap.size w w' := by
  have hnil := run_eql_nil (P := Tryd.prog) 34 5 Tryd.underlying34
  obtain ⟨i0, hi, hz0, hz1, hz2⟩ := info_parts Tryd.info5
  go_enter Tryd.func18, Tryd.ntmps18
  go_wp2_with (at_make; refine wpList_make_row rfl (.tmp 8) (.tmp 8) 34 rfl 5 i0 (.int .u8 0) Tryd.underlying34 hi hz0 hz1 rfl _ _ _ _ vs.length rfl rfl rfl rfl (by rw [hz2]; omega) (by unfold maxLen; omega) ?_)
  intro w1 hrow hb
  rw [← upV_zero] at hrow
  clear hi hz0 hz1 hz2 hnil
  go_wp2_with fail
  go_loopw [4] (fun v wr => ∃ k : Nat, k ≤ vs.length ∧ v = .int .i64 k ∧ RowAt wr w.heap.size 5 (upV vs (.int .u8 0) k) ∧ Below w.heap.size w wr) (fun v _ => vs.length - (intOf v).toNat)
  case atStart => exact ⟨0, Nat.zero_le _, rfl, hrow, hb⟩
  case round =>
    clear hrow hb
    obtain ⟨k, hk, rfl, hrow, hb⟩ := hrel
    by_cases hkl : k < vs.length
    · have hlti : (k : Int) < (vs.length : Int) := by omega
      rcases hc with ha | ⟨ba, oa, hxa, hca⟩
      · subst ha; simp at hkl
      obtain rfl := Option.some.inj hxa
      have g1 : wr.cell? ⟨ba, oa + k, none⟩ = some vs[k] := (hb.cell (p := ⟨ba, oa + k, none⟩) (World.block_lt_of_cell? w _ (hca k hkl))).trans (hca k hkl)
      have hul := upV_length vs (.int .u8 0) k hk
      have g2 : wr.cell? ⟨w.heap.size, k, none⟩ = some ((upV vs (.int .u8 0) k)[k]'(by omega)) := by rw [hrow.cell, List.getElem?_eq_getElem]
      have g3 := hrow.frozen k
      have R := hrow.set k vs[k]
      rw [upV_succ _ _ _ hkl] at R
      have RB := hb.setCell (p := ⟨w.heap.size, k, none⟩) (Nat.le_refl _) vs[k]
      obtain ⟨n, hv⟩ := h1 vs[k] (List.getElem_mem _)
      rw [hv] at g1 R RB
      clear hca hrow hb hxa h1 hv
      go_wp2
      go_roundw
      case rel => exact ⟨k + 1, by omega, by go_num, R, RB⟩
      case measure => simp [intOf]; omega
    · have e : k = vs.length := by omega
      subst e
      rw [upV_full] at hrow
      go_wp2
      go_ret
      exact ⟨rfl, hrow, hb⟩

theorem cloneB_nil (w : World) :
    Calls Tryd.prog 18 #[.slice none 0 0] w fun e w' => e = .returned (.slice none 0 0) ∧ w' = w := by
  have hnil := run_eql_nil (P := Tryd.prog) 34 5 Tryd.underlying34
  go_enter Tryd.func18, Tryd.ntmps18
  go_wp2
  go_ret
  exact ⟨rfl, rfl⟩

set_option maxHeartbeats 400000 in
theorem cloneS_some (vs : List Value) (x : Addr) (c : Nat) (w : World) (hc : Cells w (some x) vs) (h1 : ∀ v ∈ vs, ∃ s : ByteArray, v = .string s) (hl : vs.length ≤ 1048576) :
    Calls Tryd.prog 9 #[.slice (some x) vs.length c] w fun e w' => e = .returned (.slice (some ⟨w.heap.size, 0, none⟩) vs.length vs.length) ∧ RowAt w' w.heap.size 9 vs ∧ Below w.heap.size w w' := by
  have hnil := run_eql_nil (P := Tryd.prog) 24 9 Tryd.underlying24
  obtain ⟨i0, hi, hz0, hz1, hz2⟩ := info_parts Tryd.info9
  go_enter Tryd.func9, Tryd.ntmps9
  go_wp2_with (at_make; refine wpList_make_row rfl (.tmp 8) (.tmp 8) 24 rfl 9 i0 (.string ByteArray.empty) Tryd.underlying24 hi hz0 hz1 rfl _ _ _ _ vs.length rfl rfl rfl rfl (by rw [hz2]; omega) (by unfold maxLen; omega) ?_)
  intro w1 hrow hb
  rw [← upV_zero] at hrow
  clear hi hz0 hz1 hz2 hnil
  go_wp2_with fail
  go_loopw [4] (fun v wr => ∃ k : Nat, k ≤ vs.length ∧ v = .int .i64 k ∧ RowAt wr w.heap.size 9 (upV vs (.string ByteArray.empty) k) ∧ Below w.heap.size w wr) (fun v _ => vs.length - (intOf v).toNat)
  case atStart => exact ⟨0, Nat.zero_le _, rfl, hrow, hb⟩
  case round =>
    clear hrow hb
    obtain ⟨k, hk, rfl, hrow, hb⟩ := hrel
    by_cases hkl : k < vs.length
    · have hlti : (k : Int) < (vs.length : Int) := by omega
      rcases hc with ha | ⟨ba, oa, hxa, hca⟩
      · subst ha; simp at hkl
      obtain rfl := Option.some.inj hxa
      have g1 : wr.cell? ⟨ba, oa + k, none⟩ = some vs[k] := (hb.cell (p := ⟨ba, oa + k, none⟩) (World.block_lt_of_cell? w _ (hca k hkl))).trans (hca k hkl)
      have hul := upV_length vs (.string ByteArray.empty) k hk
      have g2 : wr.cell? ⟨w.heap.size, k, none⟩ = some ((upV vs (.string ByteArray.empty) k)[k]'(by omega)) := by rw [hrow.cell, List.getElem?_eq_getElem]
      have g3 := hrow.frozen k
      have R := hrow.set k vs[k]
      rw [upV_succ _ _ _ hkl] at R
      have RB := hb.setCell (p := ⟨w.heap.size, k, none⟩) (Nat.le_refl _) vs[k]
      obtain ⟨s, hv⟩ := h1 vs[k] (List.getElem_mem _)
      rw [hv] at g1 R RB
      clear hca hrow hb hxa h1 hv
      go_wp2
      go_roundw
      case rel => exact ⟨k + 1, by omega, by go_num, R, RB⟩
      case measure => simp [intOf]; omega
    · have e : k = vs.length := by omega
      subst e
      rw [upV_full] at hrow
      go_wp2
      go_ret
      exact ⟨rfl, hrow, hb⟩

theorem cloneS_nil (w : World) :
    Calls Tryd.prog 9 #[.slice none 0 0] w fun e w' => e = .returned (.slice none 0 0) ∧ w' = w := by
  have hnil := run_eql_nil (P := Tryd.prog) 24 9 Tryd.underlying24
  go_enter Tryd.func9, Tryd.ntmps9
  go_wp2
  go_ret
  exact ⟨rfl, rfl⟩

end Go.Proofs.Qxb6604717aDoor
