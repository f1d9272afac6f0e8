import Derived.Test.Qxb6603808aClone
namespace Go.Proofs.Qxb6603808a
open Go.ChangeShapes Go.WideShapes Go.ChangeAt Go.RowKit

/-- 'copy(dst, src)', dst a row of the call's own, both of one length. -/
theorem wpList_copy_all {P : Program} {w : World} {ops : Array Oper} {rest : List Oper} {o : Oper} {a : Act} {Q : Exit → Act → World → Prop} (hgd : o.guard = none) (d s : Operand) (dT sT : TypeId)
    (ho : o.op = .call { callee := .builtin .copy, args := #[d, s], argTypes := #[dT, sT] }) (elem : TypeId) (hu : P.underlying dT = some (.slice elem)) (hsz : (P.info? elem).map (·.size) = some 1)
    (g : Nat) (zs : List Int) (sa : Option Addr) (dCap sCap : Nat) (hd : a.eval d = .slice (some ⟨g, 0, none⟩) zs.length dCap) (hs : a.eval s = .slice sa zs.length sCap)
    (t : TypeId) (cur : List Value) (hrow : RowAt w g t cur) (hcur : cur.length = zs.length) (hsrc : Ints w sa zs)
    (h : ∀ w', RowAt w' g t (cellsOf .i64 zs) → Below g w w' → wpList P ops Q rest (a.put o.dst (goInt zs.length)) w') :
    wpList P ops Q (o :: rest) a w := by
  refine wpList_copy_splice hgd d s dT sT ho elem hu hsz (some ⟨g, 0, none⟩) sa zs.length dCap zs.length sCap hd hs g 0 cur t hrow (cellsOf .i64 zs) (by rw [cellsOf_length]; exact (Nat.min_self _).symm) ?_ (by rw [cellsOf_length]; omega) (ints_oneCell .i64 zs) g w (Below.refl _ _) (Nat.le_refl _) ?_
  · intro hpos
    refine ⟨rfl, ?_⟩
    rcases hsrc with h0 | ⟨b, off, rfl, hc⟩
    · subst h0; simp [cellsOf] at hpos
    · refine ⟨_, rfl, fun j v hv => ?_⟩
      have hj : j < zs.length := by
        have := (List.getElem?_eq_some_iff.1 hv).1
        simpa [cellsOf] using this
      rw [cellsOf_get _ _ _ hj] at hv
      obtain rfl := Option.some.inj hv
      rw [Addr.add_lit]
      exact hc j hj
  · intro w' hg hb
    have hg' := hg.out
    have e : splice cur 0 (cellsOf .i64 zs) = cellsOf .i64 zs := by
      unfold splice
      rw [List.take_zero, List.nil_append, List.drop_eq_nil_of_le (by rw [cellsOf_length]; omega), List.append_nil]
    rw [e] at hg'
    rw [cellsOf_length]
    exact h w' hg' hb

set_option maxHeartbeats 400000 in
/-- A table too long for the law: true at once. -/
theorem main_long (a : Option Addr) (n c : Nat) (i x : Int) (w : World) (hn : n ≤ maxLen) (hl : 131071 < n) :
    Calls Try.prog 4 #[.slice a n c, .int .i64 i, .int .i64 x] w fun e w' => e = .returned (.bool true) ∧ Below w.heap.size w w' := by
  by_cases h : n ≤ 1048576
  · have hd : decide (n ≤ 1048576) = true := by simpa using h
    unfold maxLen at hn
    go_enter Try.func4, Try.ntmps4
    go_wp2_with (go_at_call 9; refine (bytes9_any a n c i x w (by unfold maxLen; omega)).mono ?_; rintro e w' ⟨rfl, rfl⟩)
    go_ret
    exact ⟨rfl, Below.refl _ _⟩
  · have hd : decide (n ≤ 1048576) = false := by simpa using h
    unfold maxLen at hn
    go_enter Try.func4, Try.ntmps4
    go_wp2_with (go_at_call 9; refine (bytes9_any a n c i x w (by unfold maxLen; omega)).mono ?_; rintro e w' ⟨rfl, rfl⟩)
    go_ret
    exact ⟨rfl, Below.refl _ _⟩

set_option maxHeartbeats 1000000 in
/-- The nil table. -/
theorem main_nil (i x : Int) (w : World) :
    Calls Try.prog 4 #[.slice none 0 0, .int .i64 i, .int .i64 x] w fun e w' => e = .returned (.bool true) ∧ Below w.heap.size w w' := by
  have hnil := run_neq_nil (P := Try.prog) 22 2 Try.underlying22
  obtain ⟨i0, hi, hz0, hz1, hz2⟩ := info_parts Try.info2
  have hd : decide (0 ≤ 1048576) = true := rfl
  go_enter Try.func4, Try.ntmps4
  go_wp2_with (first
    | (go_at_call 9; refine (bytes9_any none 0 0 i x _ (by unfold maxLen; omega)).mono ?_; rintro e w' ⟨rfl, hw⟩; obtain rfl := hw.symm; clear hw)
    | (go_at_call 10; refine (clone_nil _).mono ?_; rintro e w' ⟨rfl, hw⟩; obtain rfl := hw.symm; clear hw))
  refine (zzequal_any [] [] none none 0 0 _ (.inl rfl) (.inl rfl) (by simp) (by simp)).mono ?_
  rintro e w' ⟨rfl, n1, rfl⟩
  go_wp2_with fail
  refine (zzequal_any [] [] none none 0 0 _ (.inl rfl) (.inl rfl) (by simp) (by simp)).mono ?_
  rintro e w' ⟨rfl, n2, rfl⟩
  go_wp2_with (at_make; refine wpList_make_row rfl (.tmp 42) (.tmp 42) 22 rfl 2 i0 (.int .i64 0) Try.underlying22 hi hz0 hz1 rfl _ _ _ _ 1 rfl rfl rfl rfl (by rw [hz2]; omega) (by unfold maxLen; omega) ?_)
  intro w1 hrow hb
  have c1 : w1.cell? ⟨w.heap.size, 0, none⟩ = some (.int .i64 0) := by rw [hrow.cell]; rfl
  have f1 : w1.frozen? ⟨w.heap.size, 0, none⟩ = false := hrow.frozen 0
  have R := hrow.set 0 (.int .i64 x)
  have RB := hb.setCell (p := ⟨w.heap.size, 0, none⟩) (Nat.le_refl _) (.int .i64 x)
  have HI : Ints (w1.setCell ⟨w.heap.size, 0, none⟩ (.int .i64 x)) (some ⟨w.heap.size, 0, none⟩) [x] := RowAt.ints (e := 2) R
  clear hi hz0 hz1 hz2 hrow hb
  go_wp2_with fail
  refine wp_loop_rounds 1 ?_; rw [rounds_succ]
  go_wp2_with fail
  refine (zzequal_any [] [x] none _ 0 1 _ (.inl rfl) HI (by simp) (by simp)).mono ?_
  rintro e w' ⟨rfl, n3, rfl⟩
  go_wp2_with fail
  refine (zzequal_any [x] [] _ none 1 0 _ (HI.drewN _) (.inl rfl) (by simp) (by simp)).mono ?_
  rintro e w' ⟨rfl, n4, rfl⟩
  go_wp2_with fail
  all_goals go_ret
  all_goals exact ⟨rfl, (below_dr (Below.refl _ _) _).trans (below_dr RB _)⟩

theorem set_ne (zs : List Int) (k : Nat) (x : Int) (hk : k < zs.length) (hx : zs.getD k 0 ≠ x) : zs ≠ zs.set k x := by
  intro h
  apply hx
  have := congrArg (fun l => l.getD k 0) h
  simpa [List.getD, hk] using this

set_option maxHeartbeats 2000000 in
/-- A table that is not nil. -/
theorem main_some (zs : List Int) (x0 : Addr) (c : Nat) (i x : Int) (w : World) (ha : Ints w (some x0) zs) (hx : zs.length ≤ 131071) (hlt : zs ≠ [] → x0.block < w.heap.size) :
    Calls Try.prog 4 #[.slice (some x0) zs.length c, .int .i64 i, .int .i64 x] w fun e w' => e = .returned (.bool true) ∧ Below w.heap.size w w' := by
  have hnil := run_neq_nil (P := Try.prog) 22 2 Try.underlying22
  obtain ⟨i0, hi, hz0, hz1, hz2⟩ := info_parts Try.info2
  have hd : decide (zs.length ≤ 1048576) = true := by simp; omega
  go_enter Try.func4, Try.ntmps4
  go_wp2_with (first
    | (go_at_call 9; refine (bytes9_any _ _ _ i x _ (by unfold maxLen; omega)).mono ?_; rintro e w' ⟨rfl, hw⟩; obtain rfl := hw.symm; clear hw)
    | (at_make; refine wpList_make_row rfl (.tmp 22) (.tmp 22) 22 rfl 2 i0 (.int .i64 0) Try.underlying22 hi hz0 hz1 rfl _ _ _ _ zs.length rfl rfl rfl rfl (by rw [hz2]; omega) (by unfold maxLen; omega) ?_))
  intro w1 hrow hb
  have hsrc : Ints w1 (some x0) zs := by
    rcases ha with h0 | ⟨b, off, h, hc⟩
    · exact .inl h0
    · obtain rfl := Option.some.inj h
      exact .inr ⟨b, off, rfl, fun j hj => (hb.cell (p := ⟨b, off + j, none⟩) (hlt (by intro h; subst h; simp at hj))).trans (hc j hj)⟩
  go_wp2_with (refine wpList_copy_all rfl (.tmp 24) (.tmp 25) 22 22 rfl 2 Try.underlying22 (by kernel_rfl) w.heap.size zs _ _ _ rfl rfl 2 _ hrow (by simp) hsrc ?_)
  intro w2 hrow2 hb2
  replace hb2 := hb.trans hb2
  clear ha hlt hrow hb hsrc
  have hn2 := hrow2.ints
  go_wp2_with fail
  refine (clone_any zs _ zs.length w2 hn2 (by omega) (fun _ => hrow2.lt)).mono ?_
  rintro e w3 ⟨rfl, hrow3, hb3⟩
  have h20 : w.heap.size < w2.heap.size := hrow2.lt
  replace hrow2 := hrow2.below hb3 h20
  replace hb3 := hb2.trans (hb3.mono (Nat.le_of_lt h20))
  clear hb2 hn2
  have h32 : w2.heap.size < w3.heap.size := hrow3.lt
  generalize w2.heap.size = g1 at *
  have hs := hrow2.ints
  have hc := hrow3.ints
  go_wp2_with fail
  refine (zzequal_any zs zs _ _ _ _ _ hs hc (by omega) (by omega)).mono ?_
  rintro e w' ⟨rfl, n1, rfl⟩
  have hdt : decide (zs = zs) = true := by simp
  go_wp2_with fail
  refine (zzequal_any zs zs _ _ _ _ _ (hc.drewN n1) (hs.drewN n1) (by omega) (by omega)).mono ?_
  rintro e w' ⟨rfl, n2, rfl⟩
  go_wp2_with (at_make; refine wpList_make_row rfl (.tmp 42) (.tmp 42) 22 rfl 2 i0 (.int .i64 0) Try.underlying22 hi hz0 hz1 rfl _ _ _ _ (zs.length + 1) rfl rfl (by simp) (by simp) (by rw [hz2]; omega) (by unfold maxLen; omega) ?_)
  intro w4 hrow4 hb4
  replace hrow2 := (hrow2.drewN (n1 + n2)).below hb4 (Nat.lt_trans h20 h32)
  replace hrow3 := (hrow3.drewN (n1 + n2)).below hb4 h32
  have hb5 : Below w.heap.size w w4 := (below_dr hb3 (n1 + n2)).trans (hb4.mono (Nat.le_of_lt (Nat.lt_trans h20 h32)))
  clear hb4
  rw [cellsOf_replicate, ← upTo_zero zs] at hrow4
  clear hb3 hs hc hi hz0 hz1 hz2
  generalize w3.heap.size = g2 at *
  go_wp2_with fail
  go_loopw [10] (fun v wr => ∃ k : Nat, k ≤ zs.length ∧ v = .int .i64 k ∧ RowAt wr g2 2 (cellsOf .i64 (upTo zs (zs.length + 1) k)) ∧ RowAt wr w.heap.size 2 (cellsOf .i64 zs) ∧ RowAt wr g1 2 (cellsOf .i64 zs) ∧ Below w.heap.size w wr) (fun v _ => zs.length - (intOf v).toNat)
  case atStart => exact ⟨0, Nat.zero_le _, rfl, hrow4, hrow2, hrow3, hb5⟩
  case round =>
    clear hrow2 hrow3 hrow4 hb5
    obtain ⟨k, hk, rfl, hrow4, hrow2, hrow3, hb4⟩ := hrel
    have hul := upTo_length zs (zs.length + 1) k hk (by omega)
    by_cases hkl : k < zs.length
    · have hlti : (k : Int) < (zs.length : Int) := by omega
      have g1' : wr.cell? ⟨w.heap.size, k, none⟩ = some (.int .i64 (zs.getD k 0)) := by rw [hrow2.cell, cellsOf_get _ _ _ hkl]
      have g2' : wr.cell? ⟨g2, k, none⟩ = some (.int .i64 ((upTo zs (zs.length + 1) k).getD k 0)) := by rw [hrow4.cell, cellsOf_get _ _ _ (by omega)]
      have g3' := hrow4.frozen k
      have R := hrow4.set k (.int .i64 (zs.getD k 0))
      rw [cellsOf_set, upTo_succ _ _ _ hkl (by omega)] at R
      have R2 := hrow2.setOther ⟨g2, k, none⟩ (.int .i64 (zs.getD k 0)) (by show _ ≠ g2; omega)
      have R3 := hrow3.setOther ⟨g2, k, none⟩ (.int .i64 (zs.getD k 0)) (by show _ ≠ g2; omega)
      have RB := hb4.setCell (p := ⟨g2, k, none⟩) (by show _ ≤ g2; omega) (.int .i64 (zs.getD k 0))
      clear hrow2 hrow3 hrow4 hb4
      go_wp2
      go_roundw
      case rel => exact ⟨k + 1, by omega, by go_num, by simpa [hkl] using R, by simpa [hkl] using R2, by simpa [hkl] using R3, by simpa [hkl] using RB⟩
      case measure => simp [intOf]; omega
    · have e : k = zs.length := by omega
      subst e
      have g2' : wr.cell? ⟨g2, zs.length, none⟩ = some (.int .i64 ((upTo zs (zs.length + 1) zs.length).getD zs.length 0)) := by rw [hrow4.cell, cellsOf_get _ _ _ (by omega)]
      have g3' := hrow4.frozen zs.length
      have R := hrow4.set zs.length (.int .i64 x)
      rw [cellsOf_set, upTo_more] at R
      have R2 := hrow2.setOther ⟨g2, zs.length, none⟩ (.int .i64 x) (by show _ ≠ g2; omega)
      have R3 := hrow3.setOther ⟨g2, zs.length, none⟩ (.int .i64 x) (by show _ ≠ g2; omega)
      have RB := hb4.setCell (p := ⟨g2, zs.length, none⟩) (by show _ ≤ g2; omega) (.int .i64 x)
      clear hrow2 hrow3 hrow4 hb4 hul
      go_wp2_with fail
      generalize wr.setCell ⟨g2, zs.length, none⟩ (.int .i64 x) = w5 at *
      have i2 := R2.ints
      have i3 := R3.ints
      have i4 := R.ints
      have hll : (zs ++ [x]).length = zs.length + 1 := by simp
      have hn1 : decide (zs = zs ++ [x]) = false := by simp
      have hn2 : decide (zs ++ [x] = zs) = false := by simp
      have C1 := zzequal_any zs (zs ++ [x]) _ _ zs.length (zs.length + 1) w5 i2 i4 (by omega) (by omega)
      rw [hll, hn1] at C1
      refine C1.mono ?_
      rintro e w' ⟨rfl, n3, rfl⟩
      clear C1
      go_wp2_with fail
      have C1 := zzequal_any (zs ++ [x]) zs _ _ (zs.length + 1) zs.length (w5.drewN n3) (i4.drewN n3) (i2.drewN n3) (by omega) (by omega)
      rw [hll, hn2] at C1
      refine C1.mono ?_
      rintro e w' ⟨rfl, n4, rfl⟩
      clear C1
      replace R2 := (R2.drewN n3).drewN n4
      replace R3 := (R3.drewN n3).drewN n4
      replace RB := below_dr (below_dr RB n3) n4
      clear R i2 i3 i4 hn1 hn2 hll hdt
      generalize (w5.drewN n3).drewN n4 = w5 at *
      by_cases hin : 0 ≤ i ∧ i < (zs.length : Int)
      · obtain ⟨hi0, hi1⟩ := hin
        obtain ⟨m, rfl⟩ := Int.eq_ofNat_of_zero_le hi0
        have hm : m < zs.length := by omega
        have k1 : w5.cell? ⟨w.heap.size, m, none⟩ = some (.int .i64 (zs.getD m 0)) := by rw [R2.cell, cellsOf_get _ _ _ hm]
        have k2 : w5.cell? ⟨g1, m, none⟩ = some (.int .i64 (zs.getD m 0)) := by rw [R3.cell, cellsOf_get _ _ _ hm]
        have k3 := R3.frozen m
        have Q3 := R3.set m (.int .i64 x)
        rw [cellsOf_set] at Q3
        have Q2 := R2.setOther ⟨g1, m, none⟩ (.int .i64 x) (by show _ ≠ g1; omega)
        have QB := RB.setCell (p := ⟨g1, m, none⟩) (by show _ ≤ g1; omega) (.int .i64 x)
        clear R2 R3
        by_cases hne : zs.getD m 0 = x
        · have hbe : (zs.getD m 0 != x) = false := by simpa using hne
          rw [hne] at k1
          have hxx : (x != x) = false := by simp
          go_wp2_with fail
          go_ret
          exact ⟨rfl, RB⟩
        · obtain ⟨y, hy⟩ : ∃ y, y = zs.getD m 0 := ⟨_, rfl⟩
          rw [← hy] at k1 k2
          have hbe : (y != x) = true := by rw [hy]; simpa using hne
          have hs1 := set_ne zs m x hm hne
          have hn1 : decide (zs = zs.set m x) = false := by simp only [decide_eq_false_iff_not]; exact hs1
          have hn2 : decide (zs.set m x = zs) = false := by simp only [decide_eq_false_iff_not]; exact fun h => hs1 h.symm
          have HL : Hid ((zs.set m x).length = zs.length) := List.length_set
          clear hy hne hs1
          go_wp2_with fail
          have i2 := Q2.ints
          have i3 := Q3.ints
          generalize w5.setCell ⟨g1, m, none⟩ (.int .i64 x) = w6 at *
          have C1 := zzequal_any zs (zs.set m x) _ _ zs.length zs.length w6 i2 i3 (by omega) (by rw [HL.out]; omega)
          rw [HL.out, hn1] at C1
          refine C1.mono ?_
          rintro e w' ⟨rfl, n5, rfl⟩
          clear C1
          go_wp2_with fail
          have C1 := zzequal_any (zs.set m x) zs _ _ zs.length zs.length (w6.drewN n5) (i3.drewN _) (i2.drewN _) (by rw [HL.out]; omega) (by omega)
          rw [HL.out, hn2] at C1
          refine C1.mono ?_
          rintro e w' ⟨rfl, n6, rfl⟩
          clear C1
          go_wp2_with fail
          go_ret
          exact ⟨rfl, below_dr QB _⟩
      · clear R2 R3
        rcases Int.lt_or_le i 0 with hneg | hpos
        · go_wp2_with fail
          go_ret
          exact ⟨rfl, RB⟩
        · have hge : (zs.length : Int) ≤ i := by omega
          go_wp2_with fail
          go_ret
          exact ⟨rfl, RB⟩
end Go.Proofs.Qxb6603808a
