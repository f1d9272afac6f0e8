import Derived.Test.Qxb6603808aZZApply
namespace Go.Proofs.Qxb6603808a
open Go.ChangeShapes Go.WideShapes Go.ChangeAt Go.RowKit

theorem Try.info21 : (Try.prog.info? 21).map (fun i => (i.zero, i.size, i.bytes)) = some (some (.int .i32 0), 1, 4) := by kernel_rfl
theorem Try.info4 : (Try.prog.info? 4).map (fun i => (i.zero, i.size, i.bytes)) = some (some (.bool false), 1, 1) := by kernel_rfl

theorem slotCells_st0 (n : Nat) : List.replicate n (Value.int .i32 0) = slotCells (List.replicate n st0) := by simp [slotCells, st0]
theorem readCells_st0 (n : Nat) : List.replicate n (Value.int .i64 0) = readCells (List.replicate n st0) := by simp [readCells, st0]
theorem incCells_st0 (n : Nat) : List.replicate n (Value.bool false) = incCells (List.replicate n st0) := by simp [incCells, st0]
theorem slotCells_set (ss : List St) (k : Nat) (s : St) : (slotCells ss).set k (.int .i32 s.slot) = slotCells (ss.set k s) := by simp [slotCells, List.map_set]
theorem readCells_set (ss : List St) (k : Nat) (s : St) : (readCells ss).set k (.int .i64 s.read) = readCells (ss.set k s) := by simp [readCells, List.map_set]
theorem incCells_set (ss : List St) (k : Nat) (s : St) : (incCells ss).set k (.bool s.inc) = incCells (ss.set k s) := by simp [incCells, List.map_set]
theorem slotCells_get (ss : List St) (k : Nat) (h : k < ss.length) : (slotCells ss)[k]? = some (.int .i32 ss[k].slot) := by simp [slotCells, h]
theorem readCells_get (ss : List St) (k : Nat) (h : k < ss.length) : (readCells ss)[k]? = some (.int .i64 ss[k].read) := by simp [readCells, h]
theorem incCells_get (ss : List St) (k : Nat) (h : k < ss.length) : (incCells ss)[k]? = some (.bool ss[k].inc) := by simp [incCells, h]

set_option maxHeartbeats 1000000 in
theorem zapply_any (zs : List Int) (a : Option Addr) (c : Nat) (ss : List St) (a1 : Option Addr) (c1 : Nat) (w : World) (hs : Ints w a zs) (hst : Steps w a1 ss)
    (hb : Below32 zs.length ss) (hwf : Wf32 ss) (hz : zs.length ≤ 1000000000) (hl : ss.length ≤ 1000000000) :
    Calls Try.prog 7 #[.slice a zs.length c, .slice a1 ss.length c1, .bool false] w fun e w' => ∃ a' c', e = .returned (.tuple #[.slice a' zs.length c', .bool true]) ∧ Ints w' a' (applyAll zs ss) ∧ a'.isNone = a.isNone ∧ Below w.heap.size w w' := by
  obtain ⟨i0, hi, hz0, hz1, hz2⟩ := info_parts Try.info21
  obtain ⟨i1, hi1, hz01, hz11, hz21⟩ := info_parts Try.info2
  obtain ⟨i2, hi2, hz02, hz12, hz22⟩ := info_parts Try.info4
  go_enter Try.func7, Try.ntmps7
  go_wp2_with (at_make; refine wpList_make_row rfl (.tmp 13) (.tmp 13) 33 rfl 21 i0 (.int .i32 0) Try.underlying33 hi hz0 hz1 rfl _ _ _ _ ss.length rfl rfl rfl rfl (by rw [hz2]; omega) (by unfold maxLen; omega) ?_)
  intro w1 r1 b1
  go_wp2_with (at_make; refine wpList_make_row rfl (.tmp 16) (.tmp 16) 22 rfl 2 i1 (.int .i64 0) Try.underlying22 hi1 hz01 hz11 rfl _ _ _ _ ss.length rfl rfl rfl rfl (by rw [hz21]; omega) (by unfold maxLen; omega) ?_)
  intro w2 r2 b2
  go_wp2_with (at_make; refine wpList_make_row rfl (.tmp 19) (.tmp 19) 34 rfl 4 i2 (.bool false) Try.underlying34 hi2 hz02 hz12 rfl _ _ _ _ ss.length rfl rfl rfl rfl (by rw [hz22]; omega) (by unfold maxLen; omega) ?_)
  intro w3 r3 b3
  clear hi hz0 hz1 hz2 hi1 hz01 hz11 hz21 hi2 hz02 hz12 hz22
  have l1 := r1.lt
  have l2 := r2.lt
  replace r1 := (r1.below b2 l1).below b3 (Nat.lt_trans l1 l2)
  replace r2 := r2.below b3 l2
  rw [slotCells_st0, ← stUpTo_zero] at r1
  rw [readCells_st0, ← stUpTo_zero] at r2
  rw [incCells_st0, ← stUpTo_zero] at r3
  have b4 : Below w.heap.size w w3 := b1.trans ((b2.mono (Nat.le_of_lt l1)).trans (b3.mono (Nat.le_of_lt (Nat.lt_trans l1 l2))))
  clear b1 b2 b3
  generalize w1.heap.size = g2 at *
  generalize w2.heap.size = g3 at *
  go_wp2_with fail
  go_loopw [11] (fun i wr => ∃ k : Nat, k ≤ ss.length ∧ i = .int .i64 k ∧ RowAt wr w.heap.size 21 (slotCells (stUpTo ss k)) ∧ RowAt wr g2 2 (readCells (stUpTo ss k)) ∧ RowAt wr g3 4 (incCells (stUpTo ss k)) ∧ Below w.heap.size w wr) (fun i _ => ss.length - (intOf i).toNat)
  case atStart => exact ⟨0, Nat.zero_le _, rfl, r1, r2, r3, b4⟩
  case round =>
    clear r1 r2 r3 b4
    obtain ⟨k, hk, rfl, r1, r2, r3, b4⟩ := hrel
    by_cases hlt : k < ss.length
    · have hlti : (k : Int) < (ss.length : Int) := by omega
      rcases hst with hst | ⟨b, off, rfl, hca⟩
      · subst hst; simp at hlt
      obtain ⟨d1, d2, d3⟩ := hca k hlt
      have hbl : b < w.heap.size := World.block_lt_of_cell? w _ d1
      have c1' : wr.cell? ⟨b, off + k * 3, none⟩ = some (.int .i32 ss[k].slot) := by rw [b4.cell (p := ⟨b, off + k * 3, none⟩) hbl]; exact d1
      have c2' : wr.cell? ⟨b, off + k * 3 + 1, none⟩ = some (.int .i64 ss[k].read) := by rw [b4.cell (p := ⟨b, off + k * 3 + 1, none⟩) hbl]; exact d2
      have c3' : wr.cell? ⟨b, off + k * 3 + 2, none⟩ = some (.bool ss[k].inc) := by rw [b4.cell (p := ⟨b, off + k * 3 + 2, none⟩) hbl]; exact d3
      have hul := stUpTo_length ss k hk
      have o1 := r1.cell k
      have o2 := r2.cell k
      have o3 := r3.cell k
      rw [slotCells_get _ _ (by omega)] at o1
      rw [readCells_get _ _ (by omega)] at o2
      rw [incCells_get _ _ (by omega)] at o3
      have f1 := r1.frozen k
      have f2 := r2.frozen k
      have f3 := r3.frozen k
      have R1 := ((r1.set k (.int .i32 ss[k].slot)).setOther ⟨g2, k, none⟩ (.int .i64 ss[k].read) (by show _ ≠ g2; omega)).setOther ⟨g3, k, none⟩ (.bool ss[k].inc) (by show _ ≠ g3; omega)
      have R2 := ((r2.setOther ⟨w.heap.size, k, none⟩ (.int .i32 ss[k].slot) (by show _ ≠ w.heap.size; omega)).set k (.int .i64 ss[k].read)).setOther ⟨g3, k, none⟩ (.bool ss[k].inc) (by show _ ≠ g3; omega)
      have R3 := ((r3.setOther ⟨w.heap.size, k, none⟩ (.int .i32 ss[k].slot) (by show _ ≠ w.heap.size; omega)).setOther ⟨g2, k, none⟩ (.int .i64 ss[k].read) (by show _ ≠ g2; omega)).set k (.bool ss[k].inc)
      have RB := ((b4.setCell (p := ⟨w.heap.size, k, none⟩) (Nat.le_refl _) (.int .i32 ss[k].slot)).setCell (p := ⟨g2, k, none⟩) (by show _ ≤ g2; omega) (.int .i64 ss[k].read)).setCell (p := ⟨g3, k, none⟩) (by show _ ≤ g3; omega) (.bool ss[k].inc)
      rw [slotCells_set, stUpTo_succ _ _ hlt] at R1
      rw [readCells_set, stUpTo_succ _ _ hlt] at R2
      rw [incCells_set, stUpTo_succ _ _ hlt] at R3
      generalize ss[k] = s at *
      generalize (stUpTo ss k)[k] = s' at *
      clear hca r1 r2 r3 b4 d1 d2 d3
      go_wp2
      go_roundw
      case rel => exact ⟨k + 1, by omega, by go_num, R1, R2, R3, RB⟩
      case measure => simp [intOf]; omega
    · have e : k = ss.length := by omega
      subst e
      rw [stUpTo_full] at r1 r2 r3
      have hs2 : Ints wr a zs := by
        rcases hs with hs | ⟨b, off, rfl, hca⟩
        · exact .inl hs
        · refine .inr ⟨b, off, rfl, fun i hi => ?_⟩
          have hc := hca i hi
          rw [b4.cell (p := ⟨b, off + i, none⟩) (World.block_lt_of_cell? w _ hc)]
          exact hc
      have hsz := b4.size
      go_wp2_with fail
      refine (zzapply_any zs a c ss w.heap.size g2 g3 wr hs2 r1 r2 r3 hb hwf hz hl).mono ?_
      rintro e w2 ⟨a', c', rfl, hi', hn', hb'⟩
      go_wp2_with fail
      go_ret2
      exact ⟨a', c', rfl, hi', hn', b4.trans (hb'.mono hsz)⟩
end Go.Proofs.Qxb6603808a
