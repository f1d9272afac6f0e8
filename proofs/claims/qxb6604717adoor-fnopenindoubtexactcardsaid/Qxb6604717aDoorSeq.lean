import Derived.Test.Qxb6604717aDoorParts
namespace Go.Proofs.Qxb6604717aDoor
open Go.ChangeShapes Go.WideShapes Go.ChangeAt Go.RowKit

set_option maxHeartbeats 1000000 in
theorem cloneSeq_some (ss : List SE) (x : Addr) (c : Nat) (w : World) (hc : CellsF SE.cells 2 w (some x) ss) (hl : ss.length ≤ 131072) :
    Calls Tryd.prog 8 #[.slice (some x) ss.length c] w fun e w' => e = .returned (.slice (some ⟨w.heap.size, 0, none⟩) ss.length ss.length) ∧ RowAt w' w.heap.size 38 (ss.flatMap SE.cells) ∧ Below w.heap.size w w' := by
  have hnil := run_eql_nil (P := Tryd.prog) 23 38 Tryd.underlying23
  obtain ⟨i0, hi, hz0, hz1, hz2⟩ := info_parts Tryd.info38
  go_enter Tryd.func8, Tryd.ntmps8
  go_wp2_with (at_make; refine wpList_make_flat SE.cells 2 SE.len (by decide) SE.zero rfl (.tmp 8) (.tmp 8) 23 rfl 38 i0 _ Tryd.underlying23 hi hz0 hz1 rfl _ _ _ _ ss.length rfl rfl rfl rfl (by rw [hz2]; omega) (by unfold maxLen; omega) ?_)
  intro w1 hrow hb
  rw [← upF_zero] at hrow
  clear hi hz0 hz1 hz2 hnil
  go_wp2_with fail
  go_loopw [4] (fun v wr => ∃ k : Nat, k ≤ ss.length ∧ v = .int .i64 k ∧ RowAt wr w.heap.size 38 ((upF SE.zero ss k).flatMap SE.cells) ∧ Below w.heap.size w wr) (fun v _ => ss.length - (intOf v).toNat)
  case atStart => exact ⟨0, Nat.zero_le _, rfl, hrow, hb⟩
  case round =>
    clear hrow hb
    obtain ⟨k, hk, rfl, hrow, hb⟩ := hrel
    by_cases hkl : k < ss.length
    · have hlti : (k : Int) < (ss.length : Int) := by omega
      rcases hc with ha | ⟨ba, oa, hxa, hca⟩
      · subst ha; simp at hkl
      obtain rfl := Option.some.inj hxa
      have d0 : w.cell? ⟨ba, oa + k * 2, none⟩ = some (.string ss[k].addr) := hca k hkl 0 (by omega)
      have d1 : w.cell? ⟨ba, oa + k * 2 + 1, none⟩ = some (.int .i64 ss[k].n) := hca k hkl 1 (by omega)
      have hlt : ba < w.heap.size := World.block_lt_of_cell? w _ d0
      have c0 : wr.cell? ⟨ba, oa + k * 2, none⟩ = some (.string ss[k].addr) := (hb.cell (p := ⟨ba, oa + k * 2, none⟩) hlt).trans d0
      have c1 : wr.cell? ⟨ba, oa + k * 2 + 1, none⟩ = some (.int .i64 ss[k].n) := (hb.cell (p := ⟨ba, oa + k * 2 + 1, none⟩) hlt).trans d1
      have hul := upF_length SE.zero ss k hk
      have hth := hide (show wr.there w.heap.size (k * 2) 2 from fun j hj => ⟨by rw [hrow.cell, List.getElem?_eq_getElem (by rw [flat_length _ _ SE.len]; omega)]; rfl, hrow.frozen _⟩)
      have hst := hide (show (Tryd.prog.info? 38).map (·.size) = some 2 by kernel_rfl)
      have R := RowAt.setCells (g := w.heap.size) (e := 38) [.string ss[k].addr, .int .i64 ss[k].n] (k * 2) hrow
      have e := flat_set SE.cells 2 SE.len (upF SE.zero ss k) k (by omega) ss[k]
      rw [upF_succ _ _ _ hkl] at e
      have e' : setMany ((upF SE.zero ss k).flatMap SE.cells) (k * 2) [.string ss[k].addr, .int .i64 ss[k].n] = (upF SE.zero ss (k + 1)).flatMap SE.cells := e
      rw [e'] at R
      have KK := Kept.setCells (g := w.heap.size) (w := wr) (S := [w.heap.size]) (.inl (by simp)) [.string ss[k].addr, .int .i64 ss[k].n] (k * 2) (Kept.refl wr [w.heap.size])
      have BB := hide (hb.trans (KK.toBelow (B := w.heap.size) hb.size (by simp)))
      replace R := hide R
      generalize ss[k] = s at *
      clear hca hxa d0 d1 hlt e e' KK hrow hul
      go_wp2_with (refine wpList_store_any rfl 38 (.tmp 22) (.tmp 21) rfl w.heap.size (k * 2) #[.string s.addr, .int .i64 s.n] (by rfl) (by rfl) (by exact hth.out) (by exact hst.out) (by simp [Value.oneCell']) ?_)
      intro w6 hw6
      have e6 := hw6.out
      replace BB : Hid _ := hide (e6 ▸ BB.out)
      replace R : Hid _ := hide (e6 ▸ R.out)
      clear e6 hw6
      go_wp2_with fail
      go_roundw
      case rel => exact ⟨k + 1, by omega, by go_num, R.out, BB.out⟩
      case measure => simp [intOf]; omega
    · have e : k = ss.length := by omega
      subst e
      rw [upF_full] at hrow
      go_wp2_with fail
      go_ret
      exact ⟨rfl, hrow, hb⟩
theorem cloneSeq_nil (w : World) :
    Calls Tryd.prog 8 #[.slice none 0 0] w fun e w' => e = .returned (.slice none 0 0) ∧ w' = w := by
  have hnil := run_eql_nil (P := Tryd.prog) 23 38 Tryd.underlying23
  go_enter Tryd.func8, Tryd.ntmps8
  go_wp2
  go_ret
  exact ⟨rfl, rfl⟩

/-! ### Small ones -/
/-- What zzAdd answers. -/
def RetAdd (e : Ending) (t n : Int) : Prop := ∃ r, e = .returned (.int .i64 r) ∧ 0 ≤ r ∧ r ≤ 1000000000 ∧ (r ≤ 1048576 → n ≤ 1048576 ∧ t ≤ 1048576)
theorem add_any (t n : Int) (w : World) (ht : 0 ≤ t) (ht' : t ≤ 1000000000) (hn : 0 ≤ n) (hn' : n ≤ 9223372036854775807) :
    Calls Tryd.prog 17 #[.int .i64 t, .int .i64 n] w fun e w' => RetAdd e t n ∧ w' = w := by
  by_cases h1 : 1048576 < t
  · go_enter Tryd.func17, Tryd.ntmps17
    go_wp2
    go_ret
    exact ⟨⟨_, rfl, by omega, by omega, fun h => by omega⟩, rfl⟩
  · by_cases h2 : 1048576 < n
    · go_enter Tryd.func17, Tryd.ntmps17
      go_wp2
      go_ret
      exact ⟨⟨_, rfl, by omega, by omega, fun h => by omega⟩, rfl⟩
    · go_enter Tryd.func17, Tryd.ntmps17
      go_wp2
      go_ret
      exact ⟨⟨_, rfl, by omega, by omega, fun h => by omega⟩, rfl⟩
end Go.Proofs.Qxb6604717aDoor
