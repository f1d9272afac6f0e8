import Derived.Test.Qxb6603808aSmall
namespace Go.Proofs.Qxb6603808a
open Go.ChangeShapes Go.WideShapes Go.ChangeAt Go.RowKit

theorem applyAll_same (zs : List Int) (ss : List St) (h : ∀ s ∈ ss, ¬ (0 ≤ s.slot ∧ s.inc = true)) : applyAll zs ss = zs := by
  induction ss with
  | nil => rfl
  | cons s ss ih =>
    show applyAll (step1 zs s) ss = zs
    have e : step1 zs s = zs := by unfold step1; rw [if_neg (h s (by simp))]
    rw [e, ih (fun t ht => h t (by simp [ht]))]

theorem rowAt_of_owns {w : World} {base e g n : Nat} {xs : List Value} (h : w.ownsRow base e 1 (.slice (some ⟨g, 0, none⟩) n n) n xs) : RowAt w g e xs := by
  rcases h.2 with ⟨h', _⟩ | ⟨g', cap', cur, h', _, hg, _, _, hcs, htake⟩
  · simp at h'
  · simp only [Value.slice.injEq, Option.some.injEq, Addr.mk.injEq, and_true, true_and] at h'
    obtain ⟨rfl, rfl⟩ := h'
    have e1 : cur.toList = xs := by rw [← htake, List.take_of_length_le (by simp [hcs])]
    unfold RowAt
    rw [hg, ← e1]

theorem rowAt_lt_of {w : World} {base e g n cap : Nat} {xs : List Value} (h : w.ownsRow base e 1 (.slice (some ⟨g, 0, none⟩) n cap) n xs) : base ≤ g ∧ g < w.heap.size :=
  h.lt g rfl
theorem hide {p : Prop} (h : p) : Hid p := h
theorem step1_neg (zs : List Int) (s : St) (h : s.slot < 0) : step1 zs s = zs := by unfold step1; rw [if_neg (by omega)]
theorem step1_noinc (zs : List Int) (s : St) (h : s.inc = false) : step1 zs s = zs := by unfold step1; rw [if_neg (by simp [h])]
theorem step1_inc (zs : List Int) (s : St) (m : Nat) (hm : s.slot = m) (h : s.inc = true) : step1 zs s = zs.set m (wrap64 (zs.getD m 0 + 1)) := by
  unfold step1 bump; rw [if_pos ⟨by omega, h⟩, hm]; rfl

/-- How 'next' and 'copied' stand behind k steps: still the table that came in, or a row of the call's own. -/
def Now (B : Nat) (a : Option Addr) (c : Nat) (zs : List Int) (wr : World) (v cp : Value) (ys : List Int) : Prop :=
  (v = .slice a zs.length c ∧ cp = .bool false ∧ ys = zs) ∨
      ∃ g', v = .slice (some ⟨g', 0, none⟩) zs.length zs.length ∧ cp = .bool true ∧ B ≤ g' ∧ RowAt wr g' 2 (cellsOf .i64 ys) ∧ a.isNone = false

theorem Now.alloc {B : Nat} {a : Option Addr} {c : Nat} {zs : List Int} {wr : World} {v cp : Value} {ys : List Int} (h : Now B a c zs wr v cp ys) (o : Obj) (n : Nat) : Now B a c zs ((wr.alloc o).drewN n) v cp ys := by
  rcases h with h | ⟨g', h1, h2, h3, h4, h5⟩
  · exact .inl h
  · exact .inr ⟨g', h1, h2, h3, h4.alloc o, h5⟩

set_option maxHeartbeats 1000000 in
theorem apply_any (zs : List Int) (a : Option Addr) (c : Nat) (ss : List St) (g gm : Nat) (w : World) (hs : Ints w a zs) (hst : RowAt w g 40 (stepCells ss))
    (hm : RowAt w gm 45 [.slice (some ⟨g, 0, none⟩) ss.length ss.length, .bool false]) (hb : Below32 zs.length ss) (hwf : Wf32 ss) (hz : zs.length ≤ 1000000000) (hl : ss.length ≤ 1000000000) :
    Calls Try.prog 14 #[.slice a zs.length c, .pointer (some ⟨gm, 0, none⟩)] w fun e w' => ∃ a' c', e = .returned (.tuple #[.slice a' zs.length c', .bool true]) ∧ Ints w' a' (applyAll zs ss) ∧ a'.isNone = a.isNone ∧ Below w.heap.size w w' := by
  have m0 : w.cell? ⟨gm, 0, none⟩ = some (.slice (some ⟨g, 0, none⟩) ss.length ss.length) := by rw [hm.cell]; rfl
  have m1 : w.cell? ⟨gm, 1, none⟩ = some (.bool false) := by rw [hm.cell]; rfl
  have hgm := hm.lt
  have hg := hst.lt
  obtain ⟨i0, hi, hz0, hz1, hz2⟩ := info_parts Try.info2
  go_enter Try.func14, Try.ntmps14
  go_wp2_with fail
  go_loopw [6, 7, 16] (fun v cp i wr => ∃ k : Nat, k ≤ ss.length ∧ i = .int .i64 k ∧ Below w.heap.size w wr ∧
     Now w.heap.size a c zs wr v cp (applyAll zs (ss.take k)))
    (fun _ _ i _ => ss.length - (intOf i).toNat)
  case atStart => exact ⟨0, Nat.zero_le _, rfl, Below.refl _ _, .inl ⟨rfl, rfl, rfl⟩⟩
  case round =>
    obtain ⟨k, hk, rfl, hbw, hcase⟩ := hrel
    by_cases hlt : k < ss.length
    · have hlti : (k : Int) < (ss.length : Int) := by omega
      have hsz := hbw.size
      obtain ⟨q0, q1, q2⟩ := stepCells_get ss k hlt
      have c0 : wr.cell? ⟨g, k * 3, none⟩ = some (.int .i32 ss[k].slot) := by rw [hbw.cell (p := ⟨g, k * 3, none⟩) hg, hst.cell, q0]
      have c1 : wr.cell? ⟨g, k * 3 + 1, none⟩ = some (.int .i64 ss[k].read) := by rw [hbw.cell (p := ⟨g, k * 3 + 1, none⟩) hg, hst.cell, q1]
      have c2 : wr.cell? ⟨g, k * 3 + 2, none⟩ = some (.bool ss[k].inc) := by rw [hbw.cell (p := ⟨g, k * 3 + 2, none⟩) hg, hst.cell, q2]
      have d0 : wr.cell? ⟨gm, 0, none⟩ = some (.slice (some ⟨g, 0, none⟩) ss.length ss.length) := by rw [hbw.cell (p := ⟨gm, 0, none⟩) hgm]; exact m0
      have d1 : wr.cell? ⟨gm, 1, none⟩ = some (.bool false) := by rw [hbw.cell (p := ⟨gm, 1, none⟩) hgm]; exact m1
      have hbk := hb ss[k] (List.getElem_mem _)
      have hsn := applyAll_snoc zs ss k hlt
      obtain ⟨wl, wu⟩ := hwf ss[k] (List.getElem_mem _)
      generalize ss[k] = s at *
      clear q0 q1 q2
      have hul := applyAll_length (ss.take k) zs
      generalize applyAll zs (ss.take k) = ys at *
      generalize hys : applyAll zs (ss.take (k + 1)) = ys' at *
      have HY := hide hys
      have HS := hide hsn
      clear hys hsn
      by_cases hneg : s.slot < 0
      · go_wp2_with fail
        go_roundw
        case rel => exact ⟨k + 1, by omega, by go_num, hbw.alloc hsz _, by rw [HY.out, HS.out, step1_neg _ _ hneg]; exact hcase.alloc _ 0⟩
        case measure => simp [intOf]; omega
      · obtain ⟨m, hm⟩ := Int.eq_ofNat_of_zero_le (show 0 ≤ s.slot by omega)
        have hmz : m < zs.length := by omega
        have hs0 : s.slot = (m : Int) := hm
        rw [hs0] at c0
        have HM := hide hm
        clear hm hs0 hneg
        have hrs : RowAt (wr.alloc (.cells #[.int .i32 m, .int .i64 s.read, .bool s.inc] 40)) wr.heap.size 40 [.int .i32 m, .int .i64 s.read, .bool s.inc] := heap_alloc_new wr _
        have t0 : (wr.alloc (.cells #[.int .i32 m, .int .i64 s.read, .bool s.inc] 40)).cell? ⟨wr.heap.size, 0, none⟩ = some (.int .i32 m) := by rw [hrs.cell]; rfl
        have t1 : (wr.alloc (.cells #[.int .i32 m, .int .i64 s.read, .bool s.inc] 40)).cell? ⟨wr.heap.size, 1, none⟩ = some (.int .i64 s.read) := by rw [hrs.cell]; rfl
        have t2 : (wr.alloc (.cells #[.int .i32 m, .int .i64 s.read, .bool s.inc] 40)).cell? ⟨wr.heap.size, 2, none⟩ = some (.bool s.inc) := by rw [hrs.cell]; rfl
        have t3 : (wr.alloc (.cells #[.int .i32 m, .int .i64 s.read, .bool s.inc] 40)).cell? ⟨gm, 1, none⟩ = some (.bool false) := by
          rw [World.cell?_of_block (w := wr) (Below.heap_alloc wr _ gm (by omega))]; exact d1
        have hb1 := hbw.alloc hsz (.cells #[.int .i32 m, .int .i64 s.read, .bool s.inc] 40)
        have hcase1 := hcase.alloc (.cells #[.int .i32 m, .int .i64 s.read, .bool s.inc] 40) 0
        rw [World.drewN_zero] at hcase1
        have hsz1 : wr.heap.size < (wr.alloc (.cells #[.int .i32 m, .int .i64 s.read, .bool s.inc] 40)).heap.size := hrs.lt
        go_wp2_with fail
        clear hcase hbw d0 d1 c0 c1 c2 hb hwf
        generalize wr.alloc (.cells #[.int .i32 m, .int .i64 s.read, .bool s.inc] 40) = w1 at *
        go_quiet (fail)
        by_cases hinc : s.inc = true
        · rw [hinc] at t2
          have tt : (w1.drewN nq).cell? ⟨wr.heap.size, 2, none⟩ = some (.bool true) := t2
          rcases hcase1 with ⟨rfl, rfl, rfl⟩ | ⟨g', rfl, rfl, hg', hrow, hnn⟩
          · -- the first increment: the table is copied
            rcases hs with hs | ⟨b, off, rfl, hca⟩
            · subst hs; simp at hmz
            go_wp2_with (at_make; refine wpList_make_own _ rfl _ _ 36 rfl w.heap.size 2 i0 (.int .i64 0) 1 Try.underlying36 hi hz0 hz1 _ _ _ ys.length rfl rfl rfl (by rw [hz2]; omega) (by unfold maxLen; omega) (by simp; omega) ?_)
            intro w2 hown hgrow
            have hb2 : Below w.heap.size w w2 := (below_dr hb1 nq).grown hgrow (by show _ ≤ w1.heap.size; omega) (fun _ h => by cases h)
            have hbl : b < w.heap.size := by
              have := World.block_lt_of_cell? w _ (hca m hmz)
              exact this
            have hsrc : ∀ j u, (cellsOf .i64 ys)[j]? = some u → w2.cell? (Addr.add ⟨b, off, none⟩ j) = some u := by
              intro j u hu
              have hj : j < ys.length := by
                have := (List.getElem?_eq_some_iff.1 hu).1
                simpa [cellsOf] using this
              rw [cellsOf_get _ _ _ hj] at hu
              obtain rfl := Option.some.inj hu
              rw [Addr.add_lit, hb2.cell (p := ⟨b, off + j, none⟩) hbl]
              exact hca j hj
            go_wp2_with (at_builtin; refine wpList_append_fits _ rfl (.tmp 43) (.tmp 44) 36 rfl w.heap.size 2 i0 1 Try.underlying36 hi hz1 w1.heap.size 0 ys.length [] rfl hown ⟨b, off, none⟩ ys.length c (cellsOf .i64 ys) rfl (by rw [cellsOf_length]; omega) hsrc (ints_oneCell .i64 ys) (by omega) ?_)
            intro w3 hown3 hgrow3
            have hrow3 := rowAt_of_owns hown3
            have hsz2 : w1.heap.size < w2.heap.size := (rowAt_lt_of hown).2
            have hb3 : Below w.heap.size w w3 := hb2.grown hgrow3 (by omega) (fun j h => by obtain rfl := Option.some.inj h; omega)
            have ts : w3.cell? ⟨wr.heap.size, 0, none⟩ = some (.int .i32 m) := by
              rw [World.cell?_of_block (w := w2) (hgrow3.block wr.heap.size (by omega) (by simp; omega)), World.cell?_of_block (w := w1.drewN nq) (hgrow.block wr.heap.size (by show _ < w1.heap.size; omega) (by simp))]
              exact t0
            have tf : w3.frozen? ⟨w1.heap.size, m, none⟩ = false := hrow3.frozen m
            have tc : w3.cell? ⟨w1.heap.size, m, none⟩ = some (.int .i64 (ys.getD m 0)) := by rw [hrow3.cell, cellsOf_get _ _ _ hmz]
            have R := hrow3.set m (.int .i64 (wrap64 (ys.getD m 0 + 1)))
            have RB := hb3.setCell (p := ⟨w1.heap.size, m, none⟩) (by show _ ≤ w1.heap.size; omega) (.int .i64 (wrap64 (ys.getD m 0 + 1)))
            rw [cellsOf_set] at R
            clear hown hown3 hgrow hgrow3 hb2 hb1 hb3 hrow3 t0 t1 t2 t3 tt hsrc hca
            go_wp2_with fail
            go_roundw
            case rel =>
              refine ⟨k + 1, by omega, by go_num, by simpa [hmz] using RB, ?_⟩
              rw [HY.out, HS.out, step1_inc _ _ m HM.out hinc]
              exact .inr ⟨w1.heap.size, rfl, rfl, by omega, by simpa [hmz] using R, rfl⟩
            case measure => simp [intOf]; omega
          · have tf : w1.frozen? ⟨g', m, none⟩ = false := hrow.frozen m
            have hmy : m < ys.length := by omega
            have tc : w1.cell? ⟨g', m, none⟩ = some (.int .i64 (ys.getD m 0)) := by rw [hrow.cell, cellsOf_get _ _ _ hmy]
            have R := (hrow.drewN nq).set m (.int .i64 (wrap64 (ys.getD m 0 + 1)))
            have RB := (below_dr hb1 nq).setCell (p := ⟨g', m, none⟩) (by show _ ≤ g'; omega) (.int .i64 (wrap64 (ys.getD m 0 + 1)))
            rw [cellsOf_set] at R
            clear hb1 hrow t1 t3
            go_wp2_with fail
            go_roundw
            case rel =>
              refine ⟨k + 1, by omega, by go_num, by simpa [hmy] using RB, ?_⟩
              rw [HY.out, HS.out, step1_inc _ _ m HM.out hinc]
              exact .inr ⟨g', rfl, rfl, by omega, by simpa [hmy] using R, hnn⟩
            case measure => simp [intOf]; omega
        · go_wp2_with fail
          go_roundw
          case rel => exact ⟨k + 1, by omega, by go_num, below_dr hb1 _, by rw [HY.out, HS.out, step1_noinc _ _ (by simpa using hinc)]; exact hcase1⟩
          case measure => simp [intOf]; omega
    · have e : k = ss.length := by omega
      subst e
      have HC := hide hcase
      clear hcase
      go_wp2_with fail
      go_ret2
      have hcase := HC.out
      rw [List.take_length] at hcase
      rcases hcase with ⟨rfl, rfl, hys⟩ | ⟨g', rfl, rfl, hg', hrow, hnn⟩
      · rw [hys]
        refine ⟨a, c, rfl, ?_, rfl, hbw⟩
        rcases hs with hs | ⟨b, off, rfl, hca⟩
        · exact .inl hs
        · refine .inr ⟨b, off, rfl, fun i hi => ?_⟩
          have hc := hca i hi
          rw [hbw.cell (p := ⟨b, off + i, none⟩) (World.block_lt_of_cell? w _ hc)]
          exact hc
      · exact ⟨_, _, rfl, hrow.ints, hnn.symm, hbw⟩
end Go.Proofs.Qxb6603808a
