import Derived.Test.Qxb6603808aZApply
namespace Go.Proofs.Qxb6603808a
open Go.ChangeShapes Go.WideShapes Go.ChangeAt Go.RowKit

theorem Ints.old {w w' : World} {a : Option Addr} {zs : List Int} (h : Ints w a zs) (hb : Below w.heap.size w w') : Ints w' a zs := by
  rcases h with h | ⟨b, off, rfl, hca⟩
  · exact .inl h
  · refine .inr ⟨b, off, rfl, fun i hi => ?_⟩
    have hc := hca i hi
    rw [hb.cell (p := ⟨b, off + i, none⟩) (World.block_lt_of_cell? w _ hc)]
    exact hc
theorem Steps.old {w w' : World} {a : Option Addr} {ss : List St} (h : Steps w a ss) (hb : Below w.heap.size w w') : Steps w' a ss := by
  rcases h with h | ⟨b, off, rfl, hca⟩
  · exact .inl h
  · refine .inr ⟨b, off, rfl, fun i hi => ?_⟩
    obtain ⟨d1, d2, d3⟩ := hca i hi
    have hbl : b < w.heap.size := World.block_lt_of_cell? w _ d1
    rw [hb.cell (p := ⟨b, off + i * 3, none⟩) hbl, hb.cell (p := ⟨b, off + i * 3 + 1, none⟩) hbl, hb.cell (p := ⟨b, off + i * 3 + 2, none⟩) hbl]
    exact ⟨d1, d2, d3⟩

set_option maxHeartbeats 1000000 in
theorem moves_small (zs : List Int) (a : Option Addr) (c : Nat) (xs ys : List St) (a1 a2 : Option Addr) (c1 c2 : Nat) (w : World) (hs : Ints w a zs) (h1 : Steps w a1 xs) (h2 : Steps w a2 ys)
    (wf1 : Wf32 xs) (wf2 : Wf32 ys) (hz : zs.length ≤ maxLen) (hl1 : xs.length ≤ maxLen) (hl2 : ys.length ≤ maxLen) :
    Calls Try.prog 3 #[.slice a zs.length c, .slice a1 xs.length c1, .slice a2 ys.length c2] w fun e w' => e = .returned (.bool true) ∧ Below w.heap.size w w' := by
  have q1 := run_eql_nil (P := Try.prog) 22 2 Try.underlying22
  have B5 := bytes5_any a a1 a2 zs.length c xs.length c1 ys.length c2 w hz hl1 hl2
  unfold maxLen at hz hl1 hl2
  go_enter Try.func3, Try.ntmps3
  go_wp2_with fail
  refine B5.mono ?_
  rintro e w' ⟨⟨b, rfl, hb⟩, hw⟩
  obtain rfl := hw.symm
  clear hw B5
  cases b
  · clear hb
    go_wp2_with fail
    go_ret
    exact ⟨rfl, Below.refl _ _⟩
  have hsum := hb rfl
  clear hb
  go_wp2_with fail
  all_goals try (go_ret; exact ⟨rfl, Below.refl _ _⟩)
  have kz : zs.length ≤ 1000000000 := by omega
  have k1 : xs.length ≤ 1000000000 := by omega
  have k2 : ys.length ≤ 1000000000 := by omega
  clear hz hl1 hl2
  refine (slots_any zs.length xs a1 c1 w h1 wf1 k1).mono ?_
  rintro e w' ⟨⟨b, rfl, hb⟩, hw⟩
  obtain rfl := hw.symm
  clear hw
  cases b
  · clear hb
    go_wp2_with fail
    go_ret
    exact ⟨rfl, Below.refl _ _⟩
  have hb1 := hb rfl
  clear hb
  go_wp2_with fail
  refine (slots_any zs.length ys a2 c2 w h2 wf2 k2).mono ?_
  rintro e w' ⟨⟨b, rfl, hb⟩, hw⟩
  obtain rfl := hw.symm
  clear hw
  cases b
  · clear hb
    go_wp2_with fail
    go_ret
    exact ⟨rfl, Below.refl _ _⟩
  have hb2 := hb rfl
  clear hb
  have e1 := applyAll_length xs zs
  have e2 := applyAll_length ys zs
  have E1 := hide e1
  have E2 := hide e2
  have E3 := hide (applyAll_length ys (applyAll zs xs))
  have E4 := hide (applyAll_length xs (applyAll zs ys))
  have EC := hide (applyAll_comm ys zs xs)
  clear e1 e2
  go_wp2_with fail
  refine (zapply_any zs a c xs a1 c1 w hs h1 hb1 wf1 kz k1).mono ?_
  rintro e w1 ⟨t, ct, rfl, it, nt, bt⟩
  replace hs := hs.old bt
  replace h1 := h1.old bt
  replace h2 := h2.old bt
  generalize hT : applyAll zs xs = T at *
  have HT := hide hT
  clear hT
  have C := zapply_any T t ct ys a2 c2 w1 it h2 (by rw [E1.out]; exact hb2) wf2 (by rw [E1.out]; exact kz) k2
  rw [E1.out] at C
  go_wp2_with fail
  refine C.mono ?_
  clear C
  rintro e w2 ⟨ab, cab, rfl, iab, nab, bab⟩
  replace hs := hs.old bab
  replace h1 := h1.old bab
  replace h2 := h2.old bab
  replace bt := bt.trans (bab.mono bt.size)
  clear it bab
  go_wp2_with fail
  refine (zapply_any zs a c ys a2 c2 w2 hs h2 hb2 wf2 kz k2).mono ?_
  rintro e w3 ⟨u, cu, rfl, iu, nu, bu⟩
  replace hs := hs.old bu
  replace h1 := h1.old bu
  replace iab := iab.old bu
  replace bt := bt.trans (bu.mono bt.size)
  clear bu h2
  generalize hU : applyAll zs ys = U at *
  have HU := hide hU
  clear hU
  have C := zapply_any U u cu xs a1 c1 w3 iu h1 (by rw [E2.out]; exact hb1) wf1 (by rw [E2.out]; exact kz) k1
  rw [E2.out] at C
  go_wp2_with fail
  refine C.mono ?_
  clear C
  rintro e w4 ⟨ba, cba, rfl, iba, nba, bba⟩
  replace iab := iab.old bba
  replace bt := bt.trans (bba.mono bt.size)
  clear bba
  have C := same_any _ _ ab ba cab cba w4 iab iba (by rw [E3.out, E1.out]; exact kz) EC.out
  rw [E3.out, E4.out, E1.out, E2.out] at C
  have HN : Hid (ab.isNone = ba.isNone) := by show ab.isNone = ba.isNone; rw [nab, nt, nba, nu]
  clear nab nt nba nu
  go_wp2_with fail
  · refine C.mono ?_
    rintro e w5 ⟨rfl, n, rfl⟩
    clear C
    go_wp2_with fail
    go_ret
    refine ⟨ret_bool ?_, below_dr bt _⟩
    simp
end Go.Proofs.Qxb6603808a
