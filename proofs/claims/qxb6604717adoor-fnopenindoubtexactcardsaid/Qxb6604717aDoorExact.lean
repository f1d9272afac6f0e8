import Derived.Test.Qxb6604717aDoorSettles
namespace Go.Proofs.Qxb6604717aDoor
open Go.ChangeShapes Go.WideShapes Go.ChangeAt Go.RowKit
open Go.ChangeMaps (setBlock)
set_option linter.unusedVariables false
set_option linter.unusedSimpArgs false

/-- The two cells of an entry. -/
theorem seq_at {w : World} {a : Option Addr} {n c : Nat} {ss : List SE} (h : ArgF SE.cells 38 w (.slice a n c) ss) {k : Nat} (hk : k < ss.length) :
    ∃ b, a = some ⟨b, 0, none⟩ ∧ b < w.heap.size ∧ w.cell? ⟨b, k * 2, none⟩ = some (.string ss[k].addr) ∧ w.cell? ⟨b, k * 2 + 1, none⟩ = some (.int .i64 ss[k].n) := by
  rcases h with ⟨_, h2⟩ | ⟨g, h1, h2⟩
  · subst h2; simp at hk
  · injection h1 with h1
    have hc : ∀ j, j < 2 → w.cell? ⟨g, k * 2 + j, none⟩ = (ss[k].cells)[j]? := by
      intro j hj
      rw [h2.cell, flat_get SE.cells 2 SE.len ss k hk j hj]
    exact ⟨g, h1, h2.lt, hc 0 (by omega), hc 1 (by omega)⟩

theorem gSeq_has (ss : List SE) (i : Nat) (hi : i < ss.length) : ∃ n, lookG (gSeq ss) ss[i].addr = some n := by
  have : ∀ k, k ≤ ss.length → i < k → ∃ n, lookG (gSeq (ss.take k)) ss[i].addr = some n := by
    intro k
    induction k with
    | zero => intro _ h; omega
    | succ k ih =>
      intro h h2
      rw [gSeq_take ss k (by omega), lookG_putG]
      by_cases e : ss[k].addr = ss[i].addr
      · rw [if_pos e]; exact ⟨_, rfl⟩
      · rw [if_neg e]
        have : i ≠ k := fun c => e (by subst c; rfl)
        exact ih (by omega) (by omega)
  have := this ss.length (Nat.le_refl _) hi
  rwa [List.take_length] at this
theorem look_nat {W : World} {bs : Nat} {l : List (ByteArray × Nat)} (h : MapAt W bs (mapV nV l)) (a : ByteArray) : (Instr.lookup 33 (.map (some bs)) (.string a) true).run Tryd.prog W = .ok (.tuple #[.int .i64 ((lookG l a).getD 0 : Nat), .bool (lookG l a).isSome]) W := by
  rw [run_look Tryd.underlying33 Tryd.underlying9 Tryd.zeroValue3 h a true]
  simp only [got, look_mapV]
  cases lookG l a <;> rfl
theorem lkb_at {W : World} {bs : Nat} {l : List (ByteArray × Bool)} {a : ByteArray} {b : Bool} (h : MapAt W bs (mapV bV l)) (hl : lookG l a = some b) : (Instr.lookup 39 (.map (some bs)) (.string a) false).run Tryd.prog W = .ok (.bool b) W := by
  rw [run_look Tryd.underlying39 Tryd.underlying9 Tryd.zeroValue4 h a false]
  simp only [got, look_mapV, hl]
  rfl
theorem lkb_no {W : World} {bs : Nat} {l : List (ByteArray × Bool)} {a : ByteArray} (h : MapAt W bs (mapV bV l)) (hl : lookG l a = none) : (Instr.lookup 39 (.map (some bs)) (.string a) false).run Tryd.prog W = .ok (.bool false) W := by
  rw [run_look Tryd.underlying39 Tryd.underlying9 Tryd.zeroValue4 h a false]
  simp only [got, look_mapV, hl]
  rfl
theorem gSeq_len (ss : List SE) : (gSeq ss).length ≤ ss.length := by
  have : ∀ k, k ≤ ss.length → (gSeq (ss.take k)).length ≤ k := by
    intro k
    induction k with
    | zero => intro _; exact Nat.le_refl _
    | succ k ih =>
      intro h
      rw [gSeq_take ss k (by omega), length_putG]
      have := ih (by omega)
      split <;> omega
  have := this ss.length (Nat.le_refl _)
  rwa [List.take_length] at this
def newK (ss : List SE) (a : ByteArray) : Bool := !(lookG (gSeq ss) a).isSome
theorem act_no (P : ByteArray → Bool) (qs : List PQ) {k : Nat} (hk : k < qs.length) (h : isAct qs k = false) : actP (fun _ => true) qs (k + 1) = actP (fun _ => true) qs k ∧ actP P qs (k + 1) = actP P qs k ∧ freshG qs (k + 1) = freshG qs k := by
  refine ⟨?_, ?_, freshG_no qs k hk h⟩
  · rw [actP_succ, h]; simp
  · rw [actP_succ, h]; simp
theorem act_yes (P : ByteArray → Bool) (qs : List PQ) {k : Nat} (hk : k < qs.length) (h : isAct qs k = true) : actP (fun _ => true) qs (k + 1) = actP (fun _ => true) qs k + 1 ∧ actP P qs (k + 1) = actP P qs k + (if P qs[k].addr = true then 1 else 0) ∧ freshG qs (k + 1) = putG (freshG qs k) (pid qs[k].addr qs[k].pause) true := by
  refine ⟨?_, ?_, freshG_yes qs k hk h⟩
  · rw [actP_succ, h]; simp
  · rw [actP_succ, h, adr_at qs hk]; simp

set_option maxHeartbeats 8000000 in
set_option maxRecDepth 100000 in
theorem exact_any (ps : List RP) (qs : List PQ) (ss : List SE) (ts : List ByteArray) (a0 a1 a2 : Option Addr) (c0 c1 c2 : Nat) (w : World) (A : Args w ps qs ss ts a0 a1 a2 c0 c1 c2) :
    Calls Tryd.prog 3 #[.slice a0 ps.length c0, .slice a1 ss.length c1, .slice a2 ts.length c2] w fun e w' => e = .returned (.bool true) ∧ Below w.heap.size w w' := by
  have C5 := guard5_any ps ss ts a0 a1 a2 c0 c1 c2 w A.h0 A.h1 A.h2 A.hr A.hs A.ht A.l0 A.l1 A.l2
  have C6 := open_any ps ss ts a0 a1 a2 c0 c1 c2 w A.h0 A.h1 A.h2 A.hr A.hs A.ht A.l0 A.l1 A.l2
  replace A := hide A
  go_enter Tryd.func3, Tryd.ntmps3
  go_wp2_with fail
  refine C5.mono ?_
  rintro e w' ⟨⟨b, rfl⟩, hw⟩
  obtain rfl := hw.symm
  clear C5 hw
  cases b with
  | false =>
    go_wp2_with fail
    go_ret
    exact ⟨rfl, Below.refl _ _⟩
  | true =>
  go_wp2_with fail
  refine C6.mono ?_
  rintro e w' ⟨⟨r, rfl, hr⟩, hw⟩
  obtain rfl := hw.symm
  clear C6 hw
  by_cases hbig : 1048576 < r
  · go_wp2_with fail
    go_ret
    exact ⟨rfl, Below.refl _ _⟩
  obtain ⟨b0, b1, b2, hsm, hss, hts⟩ := hr (by omega)
  have C7 := cloneParts_any ps qs a0 c0 w A.out.h0 A.out.n0 (A.out.hq hsm) b0
  have hql : ps.length = qs.length := (A.out.hq hsm).1
  have hqa : ∀ q ∈ qs, q.addr.size ≤ 1048576 := by
    intro q hq
    obtain ⟨i, hi, rfl⟩ := List.getElem_of_mem hq
    obtain ⟨vo, vs, he, _⟩ := (A.out.hq hsm).2 i (by omega) hi
    have := (hsm ps[i] (List.getElem_mem _)).2.2.1
    rw [he] at this
    exact this
  replace hsm := hide hsm
  replace hqa := hide hqa
  replace hql := hide hql
  clear hr
  go_wp2_with fail
  refine C7.mono ?_
  rintro e w1 ⟨vp, ps', rfl, hP1, hO1, hl1, hvp, hb1⟩
  have C8 := cloneSeq_any ss a1 c1 w1 (A.out.h1.old SE.len hb1) A.out.n1 b1
  clear C7
  replace hP1 := hide hP1
  replace hO1 := hide hO1
  go_wp2_with fail
  refine C8.mono ?_
  rintro e w2 ⟨vs, rfl, hS2, hvs, hb2⟩
  have C9 := cloneSArg_any ts a2 c2 w2 ((A.out.h2.old hb1).old hb2) A.out.n2 b2
  clear C8
  replace hS2 := hide hS2
  go_wp2_with fail
  refine C9.mono ?_
  rintro e w3 ⟨vt, rfl, hT3, hvt, hb3⟩
  have P3 := hide (Pin.mk ((hP1.out.old hb2).old hb3) ((hO1.out.k5 (K5.below hb2)).k5 (K5.below hb3)) (hS2.out.old hb3) hT3)
  have hb03 : Below w.heap.size w w3 := (hb1.trans (hb2.mono hb1.size)).trans (hb3.mono (Nat.le_trans hb1.size hb2.size))
  clear C9 hP1 hO1 hS2 hT3 hb1 hb2 hb3
  have hql' : Hid (ps'.length = qs.length) := hl1.trans hql.out
  clear hl1
  obtain ⟨pa, pc, hpe, hpn⟩ := P3.out.ap.form RP.len
  rw [hql'.out] at hpe
  subst hpe
  obtain ⟨sa, sc, rfl, hsn⟩ := P3.out.as_.form SE.len
  obtain ⟨ta, tc, rfl, htn⟩ := P3.out.at_.form
  replace hvp : pa = none ↔ a0 = none := hpn.symm.trans hvp
  replace hvs : sa = none ↔ a1 = none := hsn.symm.trans hvs
  replace hvt : ta = none ↔ a2 = none := htn.symm.trans hvt
  clear w1 w2
  have bq : qs.length ≤ 131072 := by rw [← hql.out]; exact b0
  have CB := build_any ps' qs ss ts _ _ _ w3 P3.out.ap P3.out.ow P3.out.as_ P3.out.at_ (by rw [hql'.out]; exact bq) b1 b2
  go_wp2_with fail
  refine CB.mono ?_
  rintro e w5 ⟨rfl, ⟨vm, vq, vt', m, hCP, hvm, hvq, hvt'⟩, hb5⟩
  clear CB
  have hb05 : Below w.heap.size w w5 := hb03.trans (hb5.mono hb03.size)
  have C11 := eleven_built w3.heap.size vm vq vt' m qs ss ts w5 hCP (fun w' hb => A.out.hT w' (hb05.trans (hb.mono hb03.size))) hqa.out A.out.hp bq b2
  clear hCP
  go_wp2_with fail
  refine C11.mono ?_
  rintro e w6 ⟨rfl, vis, vq', vtn, l', hA, hqn, htn', hb6⟩
  have hb36 : Below w3.heap.size w3 w6 := hb5.trans hb6
  have P6 := hide (P3.out.old hb36)
  have hb06 : Below w.heap.size w w6 := hb03.trans (hb36.mono hb03.size)
  obtain ⟨om, hvme⟩ : ∃ ob, vm = .map ob := by rcases hA.cp.parts with ⟨h, _⟩ | ⟨b, h, _⟩ <;> exact ⟨_, h⟩
  obtain ⟨oq, hvqe⟩ : ∃ ob, vq' = .map ob := by rcases hA.cp.seq with ⟨h, _⟩ | ⟨b, h, _⟩ <;> exact ⟨_, h⟩
  obtain ⟨xa, xc, hvte, hxn⟩ := hA.cp.taken.form
  generalize hxm : (ts ++ vis.map pidZ).length = xn at hvte
  have hact := hA.act
  have hxe : xn = ts.length + actP (fun _ => true) qs qs.length := by rw [hact, ← hxm]; simp
  have hlm := hA.mlen
  -- nil or not
  have hNp : om.isNone = pa.isNone := by
    have : vm = .map none ↔ pa = none := hvm.trans hpn
    rw [hvme] at this
    cases om <;> cases pa <;> simp at this ⊢
  have hNq : oq = none ↔ sa = none ∧ vis = [] := by
    have : vq' = .map none ↔ sa = none ∧ vis = [] := by rw [hqn, hvq, hsn]
    rw [hvqe] at this
    simpa using this
  have hNt : xa = none ↔ ta = none ∧ vis = [] := by rw [← hxn, htn', hvt', htn]
  subst hvme hvqe
  replace hlm := hide hlm
  replace hact := hide hact
  replace hNp := hide hNp
  replace hNq := hide hNq
  replace hNt := hide hNt
  replace hA := hide hA
  clear C11 hb5 hb6 hb36 hb05 P3 hb03 hvq hvt' hqn htn' hvm hvp hvs hvt hpn hsn htn hxn
  generalize w3.heap.size = c at *
  subst hvte
  replace hxm := hide hxm
  replace hxe := hide hxe
  have hmm := @run_makeMap Tryd.prog
  have M3 : MapAt (w6.alloc (.map #[] 0)) w6.heap.size (mapV nV (lastG qs 0)) := mapAt_new w6
  have B3 : Below w6.heap.size w6 (w6.alloc (.map #[] 0)) := (Below.refl _ w6).alloc (Nat.le_refl _) _
  go_wp2_with fail
  go_loopw [9] (fun v wr => ∃ (k : Nat), k ≤ qs.length ∧ v = .int .i64 k ∧ MapAt wr w6.heap.size (mapV nV (lastG qs k)) ∧ Below w6.heap.size w6 wr) (fun v _ => qs.length - (intOf v).toNat)
  case atStart => exact ⟨0, Nat.zero_le _, rfl, M3, B3⟩
  case round =>
    clear M3 B3
    obtain ⟨k, hk, rfl, hM, hB⟩ := hrel
    by_cases hkl : k < qs.length
    · have hlti : (k : Int) < (qs.length : Int) := by omega
      have PW := P6.out.old hB
      obtain ⟨b, o1, n1, c1, o2, n2, c2, rfl, hbl, _, _, e0, _⟩ := parts_at PW.ap PW.ow (k := k) (by rw [hql'.out]; exact hkl) hkl
      have HG := hide (lastG_succ qs k hkl)
      generalize qs[k].addr = ad at *
      have U := run_put (P := Tryd.prog) Tryd.underlying33 Tryd.underlying9 (w := wr) (r := w6.heap.size) (l := mapV nV (lastG qs k)) hM ad (.int .i64 k)
      have M6 := hide (hM.put ad (.int .i64 k))
      have PM : Hid (put (mapV nV (lastG qs k)) ad (.int .i64 k) = mapV nV (putG (lastG qs k) ad k)) := put_mapV nV _ ad k
      have B6 := hide (hB.trans ((((Kept.refl wr [w6.heap.size])).setB (g := w6.heap.size) (.inl (by simp)) (.map (ents (put (mapV nV (lastG qs k)) ad (.int .i64 k))) (put (mapV nV (lastG qs k)) ad (.int .i64 k)).length)).toBelow (B := w6.heap.size) hB.size (by simp)))
      clear PW
      go_wp2_with fail
      go_roundw
      case rel =>
        refine ⟨k + 1, by omega, by go_num, ?_, B6.out⟩
        rw [HG.out, ← PM.out]; exact M6.out
      case measure => simp [intOf]; omega
    · have e : k = qs.length := by omega
      subst e
      obtain ⟨w7, hw7⟩ : ∃ x, x = wr := ⟨_, rfl⟩
      subst hw7
      have P7 := hide (P6.out.old hB)
      have A7 := hide (hA.out.old hB)
      have hb07 : Below w.heap.size w w7 := hb06.trans (hB.mono hb06.size)
      have M7 := hide hM
      clear P6 hA hb06 hB hM
      generalize w6.heap.size = bl at *
      have O3 : MapAt (w7.alloc (.map #[] 0)) w7.heap.size (mapV iV (gSeq (ss.take 0))) := mapAt_new w7
      have B3 : Below w7.heap.size w7 (w7.alloc (.map #[] 0)) := (Below.refl _ w7).alloc (Nat.le_refl _) _
      go_wp2_with fail
      go_loopw [11] (fun v wr => ∃ (k : Nat), k ≤ ss.length ∧ v = .int .i64 k ∧ MapAt wr w7.heap.size (mapV iV (gSeq (ss.take k))) ∧ Below w7.heap.size w7 wr) (fun v _ => ss.length - (intOf v).toNat)
      case atStart => exact ⟨0, Nat.zero_le _, rfl, O3, B3⟩
      case round =>
        clear O3 B3
        obtain ⟨k, hk, rfl, hM, hB⟩ := hrel
        by_cases hkl : k < ss.length
        · have hlti : (k : Int) < (ss.length : Int) := by omega
          have PW := P7.out.old hB
          obtain ⟨b, rfl, hbb, e0, e1⟩ := seq_at PW.as_ hkl
          have hb7 : b < w7.heap.size := by
            rcases P7.out.as_ with ⟨h, _⟩ | ⟨g, h, hrr⟩
            · cases h
            · injection h with h; injection h with h; injection h with h
              subst h; exact hrr.lt
          have HG := hide (gSeq_take ss k hkl)
          generalize ss[k].addr = ad at *
          generalize ss[k].n = nn at *
          have U := run_put (P := Tryd.prog) Tryd.underlying33 Tryd.underlying9 (w := wr.drew) (r := w7.heap.size) (l := mapV iV (gSeq (ss.take k))) hM ad (.int .i64 nn)
          have K6 := ((Kept.refl wr [w7.heap.size]).drew).setB (g := w7.heap.size) (.inl (by simp)) (.map (ents (put (mapV iV (gSeq (ss.take k))) ad (.int .i64 nn))) (put (mapV iV (gSeq (ss.take k))) ad (.int .i64 nn)).length)
          have e0d : wr.drew.cell? ⟨b, k * 2, none⟩ = some (.string ad) := e0
          have e1d : wr.drew.cell? ⟨b, k * 2 + 1, none⟩ = some (.int .i64 nn) := e1
          have KS := hide (And.intro (K6.cell e0 (by simp; omega)) (K6.cell e1 (by simp; omega)))
          have M6 := hide (MapAt.put (w := wr.drew) hM ad (.int .i64 nn))
          have PM : Hid (put (mapV iV (gSeq (ss.take k))) ad (.int .i64 nn) = mapV iV (putG (gSeq (ss.take k)) ad nn)) := put_mapV iV _ ad nn
          have B6 := hide (hB.trans (K6.toBelow (B := w7.heap.size) hB.size (by simp)))
          clear PW K6
          go_upto_region 19 with fail
          go_region_held3 (fun w' => w'.cell? ⟨b, k * 2, none⟩ = some (.string ad) ∧ w'.cell? ⟨b, k * 2 + 1, none⟩ = some (.int .i64 nn)) (first | (with_reducible exact ⟨e0d, e1d⟩) | (with_reducible exact KS.out) | fail) (fail)
          clear U KS e0 e1 e0d e1d
          go_wp2_with fail
          go_roundw
          case rel =>
            refine ⟨k + 1, by omega, by go_num, ?_, B6.out⟩
            rw [HG.out, ← PM.out]; exact M6.out
          case measure => simp [intOf]; omega
        · have e : k = ss.length := by omega
          subst e
          rw [List.take_length] at hM
          obtain ⟨w8, hw8⟩ : ∃ x, x = wr := ⟨_, rfl⟩
          subst hw8
          have P8 := hide (P7.out.old hB)
          have A8 := hide (A7.out.old hB)
          have M8 := hide (map_below M7.out hB)
          have O8 := hide hM
          have hb08 : Below w.heap.size w w8 := hb07.trans (hB.mono hb07.size)
          clear P7 A7 M7 hb07 hB hM
          generalize w7.heap.size = bo at *
          have LNo := run_len (P := Tryd.prog) Tryd.underlying33 O8.out
          rw [mapV_length] at LNo
          have hgl : (gSeq ss).length ≤ 131072 := Nat.le_trans (gSeq_len ss) b1
          have F3 : MapAt (w8.alloc (.map #[] 0)) w8.heap.size (mapV bV (freshG qs 0)) := mapAt_new w8
          have B3 : Below w8.heap.size w8 (w8.alloc (.map #[] 0)) := (Below.refl _ w8).alloc (Nat.le_refl _) _
          go_wp2_with fail
          go_loopw [12, 13, 15] (fun t12 t13 t15 wr => ∃ (k : Nat), k ≤ qs.length ∧ t15 = .int .i64 k ∧ t12 = .int .i64 (actP (fun _ => true) qs k : Nat) ∧ t13 = .int .i64 ((gSeq ss).length + actP (newK ss) qs k : Nat) ∧ MapAt wr w8.heap.size (mapV bV (freshG qs k)) ∧ Below w8.heap.size w8 wr) (fun _ _ v _ => qs.length - (intOf v).toNat)
          case atStart => exact ⟨0, Nat.zero_le _, rfl, rfl, rfl, F3, B3⟩
          case round =>
            clear F3 B3 LNo hmm
            obtain ⟨k, hk, rfl, rfl, rfl, hF, hB⟩ := hrel
            by_cases hkl : k < qs.length
            · have hlti : (k : Int) < (qs.length : Int) := by omega
              have PW := P8.out.old hB
              have AW := A8.out.old hB
              have MW := map_below M8.out hB
              have OW := map_below O8.out hB
              have ha1 := actP_le (fun _ => true) qs k
              have ha2 := actP_le (newK ss) qs k
              obtain ⟨b, o1, n1, c1, o2, n2, c2, rfl, hbl, ow1, ow2, e0, e1, e2, e3, e4, e5, e6, e7, e8, e9⟩ := parts_at PW.ap PW.ow (k := k) (by rw [hql'.out]; exact hkl) hkl
              obtain ⟨j, hj⟩ := Option.isSome_iff_exists.1 (last_some qs qs.length (Nat.le_refl _) k hkl hkl)
              have hac := isAct_iff qs hkl
              rw [hj] at hac
              replace hac := hide hac
              have HN := hide (act_no (newK ss) qs hkl)
              have HY := hide (act_yes (newK ss) qs hkl)
              have HA := hide (fun (h : j = k) => AW.at_ hkl (a := qs[k].addr) (by rw [hj, h]))
              have hsz := hqa.out qs[k] (List.getElem_mem hkl)
              have hpz := A.out.hp qs[k] (List.getElem_mem hkl)
              obtain ⟨bm, hvme, hMp⟩ := AW.bm hkl
              injection hvme with hvme
              subst hvme
              generalize qs[k] = q at *
              have LK := lkn_at (map_alloc MW (.cells #[.string q.addr, .slice o1 n1 c1, .int .i64 q.pause, .slice o2 n2 c2, .bool q.comp, .bool q.run, .string q.ind, .bool q.outs, .bool q.stop, .int .i64 q.ver] 36)) hj
              have R1 := row_new wr 36 [.string q.addr, .slice o1 n1 c1, .int .i64 q.pause, .slice o2 n2 c2, .bool q.comp, .bool q.run, .string q.ind, .bool q.outs, .bool q.stop, .int .i64 q.ver]
              have B1 : Below wr.heap.size wr (wr.alloc (.cells #[.string q.addr, .slice o1 n1 c1, .int .i64 q.pause, .slice o2 n2 c2, .bool q.comp, .bool q.run, .string q.ind, .bool q.outs, .bool q.stop, .int .i64 q.ver] 36)) := (Below.refl _ wr).alloc (Nat.le_refl _) _
              replace AW := hide AW
              replace MW := hide MW
              replace OW := hide OW
              replace hMp := hide hMp
              replace ow1 := hide ow1
              replace ow2 := hide ow2
              replace R1 := hide R1
              replace B1 := hide B1
              replace hF := hide hF
              clear PW hj
              by_cases hjk : (j : Int) = (k : Int)
              · have hjk' : j = k := by omega
                subst hjk'
                obtain ⟨z, hOZ, hlz, hkv⟩ := HA.out rfl
                obtain ⟨⟨z1, z2, z3⟩, zp, ⟨z4, z5, z6⟩, zc, zr, zi, zo, zs, zv⟩ := z
                have hze := hOZ.1
                simp only [zOf, ZP.mk.injEq, true_and] at hze
                obtain ⟨rfl, rfl, rfl, rfl, rfl, rfl, rfl⟩ := hze
                have hz1 := hide hOZ.2.1
                have hz2 := hide hOZ.2.2
                clear hOZ HA
                replace hkv := hide hkv
                generalize hru : q.run = ru at *
                cases ru with
                | false =>
                  have hno : isAct qs j = false := by
                    cases h : isAct qs j with
                    | false => rfl
                    | true => exact absurd (hac.out.1 h).2 (by simp)
                  have HN' := hide (HN.out hno)
                  clear hac HN hru
                  simp only [Bool.false_eq_true, if_false] at hlz
                  go_upto_region 28 with fail
                  generalize hw1 : wr.alloc (.cells #[.string q.addr, .slice o1 n1 c1, .int .i64 q.pause, .slice o2 n2 c2, .bool q.comp, .bool false, .string q.ind, .bool q.outs, .bool q.stop, .int .i64 q.ver] 36) = w1 at *
                  replace hw1 := hide hw1
                  have hMp1 := map_below hMp.out B1.out
                  have LK1 := look_part (w := w1.drew) hMp1 hlz true
                  have hMp2 := hide (map_alloc hMp1 (.cells zero42.toArray 42))
                  have LK2 := look_part (w := (w1.alloc (.cells zero42.toArray 42)).drew) hMp2.out hlz true
                  replace hMp1 := hide hMp1
                  replace hlz := hide hlz
                  simp only [ZP.arr, if_true] at LK1 LK2
                  have A1 := hide (AW.out.old B1.out)
                  have c5 : w1.cell? ⟨c, 5, none⟩ = some (.map (some bm)) := by rw [A1.out.cp.row.cell]; rfl
                  have p0 : w1.cell? ⟨wr.heap.size, 0, none⟩ = some (.string q.addr) := (R1.out.cell 0).trans rfl
                  go_region_held3 (fun w' => w'.cell? ⟨c, 5, none⟩ = some (.map (some bm)) ∧ w'.cell? ⟨wr.heap.size, 0, none⟩ = some (.string q.addr)) (first | (with_reducible exact ⟨c5, p0⟩) | go_keep | fail) (fail)
                  all_goals
                    have B12 := hide (((Below.refl w1.heap.size w1).alloc (Nat.le_refl _) (.cells #[.slice z1 z2 z3, .int .i64 q.pause, .slice z4 z5 z6, .bool q.comp, .bool false, .string q.ind, .bool q.outs, .bool q.stop, .int .i64 q.ver] 42)).drew)
                    have Q2 := hide ((row_new w1 42 [.slice z1 z2 z3, .int .i64 q.pause, .slice z4 z5 z6, .bool q.comp, .bool false, .string q.ind, .bool q.outs, .bool q.stop, .int .i64 q.ver]).dr)
                    clear LK1 LK2 hMp1 hMp2 hlz c5 p0
                    generalize hw2 : (w1.alloc (.cells #[.slice z1 z2 z3, .int .i64 q.pause, .slice z4 z5 z6, .bool q.comp, .bool false, .string q.ind, .bool q.outs, .bool q.stop, .int .i64 q.ver] 42)).drew = w2 at *
                    replace hw2 := hide hw2
                    have R2 := hide (R1.out.below B12.out R1.out.lt)
                    have BW2 := hide (B1.out.trans (B12.out.mono B1.out.size))
                    have p5 : w2.cell? ⟨wr.heap.size, 5, none⟩ = some (.bool false) := (R2.out.cell 5).trans rfl

                    go_upto_region 32 with fail
                    have q0 : w2.drew.cell? ⟨w1.heap.size, 0, none⟩ = some (.slice z1 z2 z3) := (Q2.out.cell 0).trans rfl
                    have q1 : w2.drew.cell? ⟨w1.heap.size, 1, none⟩ = some (.int .i64 q.pause) := (Q2.out.cell 1).trans rfl
                    have q2 : w2.drew.cell? ⟨w1.heap.size, 2, none⟩ = some (.slice z4 z5 z6) := (Q2.out.cell 2).trans rfl
                    have q3 : w2.drew.cell? ⟨w1.heap.size, 3, none⟩ = some (.bool q.comp) := (Q2.out.cell 3).trans rfl
                    have q4 : w2.drew.cell? ⟨w1.heap.size, 4, none⟩ = some (.bool false) := (Q2.out.cell 4).trans rfl
                    have q5 : w2.drew.cell? ⟨w1.heap.size, 5, none⟩ = some (.string q.ind) := (Q2.out.cell 5).trans rfl
                    have q6 : w2.drew.cell? ⟨w1.heap.size, 6, none⟩ = some (.bool q.outs) := (Q2.out.cell 6).trans rfl
                    have q7 : w2.drew.cell? ⟨w1.heap.size, 7, none⟩ = some (.bool q.stop) := (Q2.out.cell 7).trans rfl
                    have q8 : w2.drew.cell? ⟨w1.heap.size, 8, none⟩ = some (.int .i64 q.ver) := (Q2.out.cell 8).trans rfl
                    have p0 : w2.drew.cell? ⟨wr.heap.size, 0, none⟩ = some (.string q.addr) := (R2.out.cell 0).trans rfl
                    have p1 : w2.drew.cell? ⟨wr.heap.size, 1, none⟩ = some (.slice o1 n1 c1) := (R2.out.cell 1).trans rfl
                    have p2 : w2.drew.cell? ⟨wr.heap.size, 2, none⟩ = some (.int .i64 q.pause) := (R2.out.cell 2).trans rfl
                    have p3 : w2.drew.cell? ⟨wr.heap.size, 3, none⟩ = some (.slice o2 n2 c2) := (R2.out.cell 3).trans rfl
                    have p4 : w2.drew.cell? ⟨wr.heap.size, 4, none⟩ = some (.bool q.comp) := (R2.out.cell 4).trans rfl
                    have p5 : w2.drew.cell? ⟨wr.heap.size, 5, none⟩ = some (.bool false) := (R2.out.cell 5).trans rfl
                    have p6 : w2.drew.cell? ⟨wr.heap.size, 6, none⟩ = some (.string q.ind) := (R2.out.cell 6).trans rfl
                    have p7 : w2.drew.cell? ⟨wr.heap.size, 7, none⟩ = some (.bool q.outs) := (R2.out.cell 7).trans rfl
                    have p8 : w2.drew.cell? ⟨wr.heap.size, 8, none⟩ = some (.bool q.stop) := (R2.out.cell 8).trans rfl
                    have p9 : w2.drew.cell? ⟨wr.heap.size, 9, none⟩ = some (.int .i64 q.ver) := (R2.out.cell 9).trans rfl

                    have SS : Hid (w2.drew.cell? ⟨w1.heap.size, 0, none⟩ = some (.slice z1 z2 z3) ∧ w2.drew.cell? ⟨w1.heap.size, 1, none⟩ = some (.int .i64 q.pause) ∧ w2.drew.cell? ⟨w1.heap.size, 2, none⟩ = some (.slice z4 z5 z6) ∧ w2.drew.cell? ⟨w1.heap.size, 3, none⟩ = some (.bool q.comp) ∧ w2.drew.cell? ⟨w1.heap.size, 4, none⟩ = some (.bool false) ∧ w2.drew.cell? ⟨w1.heap.size, 5, none⟩ = some (.string q.ind) ∧ w2.drew.cell? ⟨w1.heap.size, 6, none⟩ = some (.bool q.outs) ∧ w2.drew.cell? ⟨w1.heap.size, 7, none⟩ = some (.bool q.stop) ∧ w2.drew.cell? ⟨w1.heap.size, 8, none⟩ = some (.int .i64 q.ver) ∧ w2.drew.cell? ⟨wr.heap.size, 0, none⟩ = some (.string q.addr) ∧ w2.drew.cell? ⟨wr.heap.size, 1, none⟩ = some (.slice o1 n1 c1) ∧ w2.drew.cell? ⟨wr.heap.size, 2, none⟩ = some (.int .i64 q.pause) ∧ w2.drew.cell? ⟨wr.heap.size, 3, none⟩ = some (.slice o2 n2 c2) ∧ w2.drew.cell? ⟨wr.heap.size, 4, none⟩ = some (.bool q.comp) ∧ w2.drew.cell? ⟨wr.heap.size, 5, none⟩ = some (.bool false) ∧ w2.drew.cell? ⟨wr.heap.size, 6, none⟩ = some (.string q.ind) ∧ w2.drew.cell? ⟨wr.heap.size, 7, none⟩ = some (.bool q.outs) ∧ w2.drew.cell? ⟨wr.heap.size, 8, none⟩ = some (.bool q.stop) ∧ w2.drew.cell? ⟨wr.heap.size, 9, none⟩ = some (.int .i64 q.ver)) := ⟨q0, q1, q2, q3, q4, q5, q6, q7, q8, p0, p1, p2, p3, p4, p5, p6, p7, p8, p9⟩
                    have C13 : Calls Tryd.prog 13 #[.agg #[.string q.addr, .slice o1 n1 c1, .int .i64 q.pause, .slice o2 n2 c2, .bool q.comp, .bool false, .string q.ind, .bool q.outs, .bool q.stop, .int .i64 q.ver]] w2.drew fun e w' => e = .returned (.agg #[.slice o1 n1 c1, .int .i64 q.pause, .slice o2 n2 c2, .bool q.comp, .bool false, .string q.ind, .bool q.outs, .bool q.stop, .int .i64 q.ver]) ∧ Below w2.drew.heap.size w2.drew w' := asPart_any ⟨q.addr, .slice o1 n1 c1, q.pause, .slice o2 n2 c2, q.comp, false, q.ind, q.outs, q.stop, q.ver⟩ ⟨o1, n1, c1⟩ ⟨o2, n2, c2⟩ rfl rfl w2.drew
                    have C12 : Hid (∀ w', Below w2.drew.heap.size w2.drew w' → Calls Tryd.prog 12 #[.agg #[.slice z1 z2 z3, .int .i64 q.pause, .slice z4 z5 z6, .bool q.comp, .bool false, .string q.ind, .bool q.outs, .bool q.stop, .int .i64 q.ver], .agg #[.slice o1 n1 c1, .int .i64 q.pause, .slice o2 n2 c2, .bool q.comp, .bool false, .string q.ind, .bool q.outs, .bool q.stop, .int .i64 q.ver]] w' fun e w'' => e = .returned (.bool true) ∧ Below w'.heap.size w' w'') := fun w' hb => partEq_any ⟨⟨z1, z2, z3⟩, q.pause, ⟨z4, z5, z6⟩, q.comp, false, q.ind, q.outs, q.stop, q.ver⟩ ⟨⟨o1, n1, c1⟩, q.pause, ⟨o2, n2, c2⟩, q.comp, false, q.ind, q.outs, q.stop, q.ver⟩ q.out q.state w' (hz1.out.inB.old (BW2.out.drew.trans (hb.mono BW2.out.size))) (ow1.out.inB.old (BW2.out.drew.trans (hb.mono BW2.out.size))) (hz2.out.inB.old (BW2.out.drew.trans (hb.mono BW2.out.size))) (ow2.out.inB.old (BW2.out.drew.trans (hb.mono BW2.out.size))) rfl
                    go_region_held3 (fun w' => w'.cell? ⟨w1.heap.size, 0, none⟩ = some (.slice z1 z2 z3) ∧ w'.cell? ⟨w1.heap.size, 1, none⟩ = some (.int .i64 q.pause) ∧ w'.cell? ⟨w1.heap.size, 2, none⟩ = some (.slice z4 z5 z6) ∧ w'.cell? ⟨w1.heap.size, 3, none⟩ = some (.bool q.comp) ∧ w'.cell? ⟨w1.heap.size, 4, none⟩ = some (.bool false) ∧ w'.cell? ⟨w1.heap.size, 5, none⟩ = some (.string q.ind) ∧ w'.cell? ⟨w1.heap.size, 6, none⟩ = some (.bool q.outs) ∧ w'.cell? ⟨w1.heap.size, 7, none⟩ = some (.bool q.stop) ∧ w'.cell? ⟨w1.heap.size, 8, none⟩ = some (.int .i64 q.ver) ∧ w'.cell? ⟨wr.heap.size, 0, none⟩ = some (.string q.addr) ∧ w'.cell? ⟨wr.heap.size, 1, none⟩ = some (.slice o1 n1 c1) ∧ w'.cell? ⟨wr.heap.size, 2, none⟩ = some (.int .i64 q.pause) ∧ w'.cell? ⟨wr.heap.size, 3, none⟩ = some (.slice o2 n2 c2) ∧ w'.cell? ⟨wr.heap.size, 4, none⟩ = some (.bool q.comp) ∧ w'.cell? ⟨wr.heap.size, 5, none⟩ = some (.bool false) ∧ w'.cell? ⟨wr.heap.size, 6, none⟩ = some (.string q.ind) ∧ w'.cell? ⟨wr.heap.size, 7, none⟩ = some (.bool q.outs) ∧ w'.cell? ⟨wr.heap.size, 8, none⟩ = some (.bool q.stop) ∧ w'.cell? ⟨wr.heap.size, 9, none⟩ = some (.int .i64 q.ver)) (first | (with_reducible exact SS.out) | (with_reducible exact SA.out) | (with_reducible exact SB.out) | fail) (first | (go_at_call 13; refine C13.mono ?_; rintro e wa ⟨rfl, hba⟩; have SA : Hid (wa.cell? ⟨w1.heap.size, 0, none⟩ = some (.slice z1 z2 z3) ∧ wa.cell? ⟨w1.heap.size, 1, none⟩ = some (.int .i64 q.pause) ∧ wa.cell? ⟨w1.heap.size, 2, none⟩ = some (.slice z4 z5 z6) ∧ wa.cell? ⟨w1.heap.size, 3, none⟩ = some (.bool q.comp) ∧ wa.cell? ⟨w1.heap.size, 4, none⟩ = some (.bool false) ∧ wa.cell? ⟨w1.heap.size, 5, none⟩ = some (.string q.ind) ∧ wa.cell? ⟨w1.heap.size, 6, none⟩ = some (.bool q.outs) ∧ wa.cell? ⟨w1.heap.size, 7, none⟩ = some (.bool q.stop) ∧ wa.cell? ⟨w1.heap.size, 8, none⟩ = some (.int .i64 q.ver) ∧ wa.cell? ⟨wr.heap.size, 0, none⟩ = some (.string q.addr) ∧ wa.cell? ⟨wr.heap.size, 1, none⟩ = some (.slice o1 n1 c1) ∧ wa.cell? ⟨wr.heap.size, 2, none⟩ = some (.int .i64 q.pause) ∧ wa.cell? ⟨wr.heap.size, 3, none⟩ = some (.slice o2 n2 c2) ∧ wa.cell? ⟨wr.heap.size, 4, none⟩ = some (.bool q.comp) ∧ wa.cell? ⟨wr.heap.size, 5, none⟩ = some (.bool false) ∧ wa.cell? ⟨wr.heap.size, 6, none⟩ = some (.string q.ind) ∧ wa.cell? ⟨wr.heap.size, 7, none⟩ = some (.bool q.outs) ∧ wa.cell? ⟨wr.heap.size, 8, none⟩ = some (.bool q.stop) ∧ wa.cell? ⟨wr.heap.size, 9, none⟩ = some (.int .i64 q.ver)) := ⟨keep_below hba q0, keep_below hba q1, keep_below hba q2, keep_below hba q3, keep_below hba q4, keep_below hba q5, keep_below hba q6, keep_below hba q7, keep_below hba q8, keep_below hba p0, keep_below hba p1, keep_below hba p2, keep_below hba p3, keep_below hba p4, keep_below hba p5, keep_below hba p6, keep_below hba p7, keep_below hba p8, keep_below hba p9⟩) | (go_at_call 12; refine (C12.out wa hba).mono ?_; rintro e wb ⟨rfl, hbb⟩; have SB : Hid (wb.cell? ⟨w1.heap.size, 0, none⟩ = some (.slice z1 z2 z3) ∧ wb.cell? ⟨w1.heap.size, 1, none⟩ = some (.int .i64 q.pause) ∧ wb.cell? ⟨w1.heap.size, 2, none⟩ = some (.slice z4 z5 z6) ∧ wb.cell? ⟨w1.heap.size, 3, none⟩ = some (.bool q.comp) ∧ wb.cell? ⟨w1.heap.size, 4, none⟩ = some (.bool false) ∧ wb.cell? ⟨w1.heap.size, 5, none⟩ = some (.string q.ind) ∧ wb.cell? ⟨w1.heap.size, 6, none⟩ = some (.bool q.outs) ∧ wb.cell? ⟨w1.heap.size, 7, none⟩ = some (.bool q.stop) ∧ wb.cell? ⟨w1.heap.size, 8, none⟩ = some (.int .i64 q.ver) ∧ wb.cell? ⟨wr.heap.size, 0, none⟩ = some (.string q.addr) ∧ wb.cell? ⟨wr.heap.size, 1, none⟩ = some (.slice o1 n1 c1) ∧ wb.cell? ⟨wr.heap.size, 2, none⟩ = some (.int .i64 q.pause) ∧ wb.cell? ⟨wr.heap.size, 3, none⟩ = some (.slice o2 n2 c2) ∧ wb.cell? ⟨wr.heap.size, 4, none⟩ = some (.bool q.comp) ∧ wb.cell? ⟨wr.heap.size, 5, none⟩ = some (.bool false) ∧ wb.cell? ⟨wr.heap.size, 6, none⟩ = some (.string q.ind) ∧ wb.cell? ⟨wr.heap.size, 7, none⟩ = some (.bool q.outs) ∧ wb.cell? ⟨wr.heap.size, 8, none⟩ = some (.bool q.stop) ∧ wb.cell? ⟨wr.heap.size, 9, none⟩ = some (.int .i64 q.ver)) := ⟨keep_below hbb (keep_below hba q0), keep_below hbb (keep_below hba q1), keep_below hbb (keep_below hba q2), keep_below hbb (keep_below hba q3), keep_below hbb (keep_below hba q4), keep_below hbb (keep_below hba q5), keep_below hbb (keep_below hba q6), keep_below hbb (keep_below hba q7), keep_below hbb (keep_below hba q8), keep_below hbb (keep_below hba p0), keep_below hbb (keep_below hba p1), keep_below hbb (keep_below hba p2), keep_below hbb (keep_below hba p3), keep_below hbb (keep_below hba p4), keep_below hbb (keep_below hba p5), keep_below hbb (keep_below hba p6), keep_below hbb (keep_below hba p7), keep_below hbb (keep_below hba p8), keep_below hbb (keep_below hba p9)⟩; have BWB := hide ((BW2.out.drew.trans (hba.mono BW2.out.size)).trans (hbb.mono (Nat.le_trans BW2.out.size hba.size)))))
                    have FB := hide (map_below hF.out BWB.out)
                    have BB := hide (hB.trans (BWB.out.mono hB.size))
                    clear C13 C12 SS SA SB hba hbb q0 q1 q2 q3 q4 q5 q6 q7 q8 p0 p1 p2 p3 p4 p5 p6 p7 p8 p9 hz1 hz2 ow1 ow2 BWB BW2 R2 Q2 R1 B1 B12 hF hB A1 AW MW OW hMp HY
                    go_wp2_with fail
                    go_roundw
                    case rel =>
                      refine ⟨j + 1, by omega, by go_num, ?_, ?_, ?_, BB.out⟩
                      · rw [HN'.out.1]
                      · rw [HN'.out.2.1]; go_num
                      · rw [HN'.out.2.2]; exact FB.out
                    case measure => simp [intOf]; omega
                | true =>
                  have hyes : isAct qs j = true := hac.out.2 ⟨rfl, rfl⟩
                  have HY1 := hide (HY.out hyes).1
                  have HY3 := hide (HY.out hyes).2.2
                  have HY2 : Hid (actP (newK ss) qs (j + 1) = actP (newK ss) qs j + (if (lookG (gSeq ss) q.addr).isSome = true then 0 else 1)) := by
                    rw [(HY.out hyes).2.1]
                    unfold newK
                    cases (lookG (gSeq ss) q.addr).isSome <;> rfl
                  have hav : q.addr ∈ keys vis := hkv.out.2 rfl
                  have hlq : lookG l' q.addr = some (wrap64 ((lookG (gSeq ss) q.addr).getD 0 + 1)) := by rw [AW.out.sl.look, if_pos hav]; rfl
                  have HLo : Hid (∀ W, MapAt W bo (mapV iV (gSeq ss)) → (Instr.lookup 33 (.map (some bo)) (.string q.addr) true).run Tryd.prog W = .ok (.tuple #[.int .i64 ((lookG (gSeq ss) q.addr).getD 0), .bool (lookG (gSeq ss) q.addr).isSome]) W) := fun W h => look_seq (B := 0) (.inr ⟨bo, rfl, Nat.zero_le _, h⟩) q.addr
                  have HLq : Hid (∀ W, MAt iV c W (.map oq) l' → (Instr.lookup 33 (.map oq) (.string q.addr) true).run Tryd.prog W = .ok (.tuple #[.int .i64 (wrap64 ((lookG (gSeq ss) q.addr).getD 0 + 1)), .bool true]) W) := fun W h => by rw [look_seq h q.addr, hlq]; rfl
                  simp only [if_true, doubtZ, inc] at hlz
                  clear hac HN HY hru hkv hav hlq hyes
                  generalize (lookG (gSeq ss) q.addr).getD 0 = nn at *
                  generalize (lookG (gSeq ss) q.addr).isSome = had at *

                  go_upto_region 28 with fail
                  generalize hw1 : wr.alloc (.cells #[.string q.addr, .slice o1 n1 c1, .int .i64 q.pause, .slice o2 n2 c2, .bool q.comp, .bool true, .string q.ind, .bool q.outs, .bool q.stop, .int .i64 q.ver] 36) = w1 at *
                  replace hw1 := hide hw1
                  have hMp1 := map_below hMp.out B1.out
                  have LK1 := look_part (w := w1.drew) hMp1 hlz true
                  have hMp2 := hide (map_alloc hMp1 (.cells zero42.toArray 42))
                  have LK2 := look_part (w := (w1.alloc (.cells zero42.toArray 42)).drew) hMp2.out hlz true
                  replace hMp1 := hide hMp1
                  replace hlz := hide hlz
                  simp only [ZP.arr, if_true] at LK1 LK2
                  have A1 := hide (AW.out.old B1.out)
                  have c5 : w1.cell? ⟨c, 5, none⟩ = some (.map (some bm)) := by rw [A1.out.cp.row.cell]; rfl
                  have p0 : w1.cell? ⟨wr.heap.size, 0, none⟩ = some (.string q.addr) := (R1.out.cell 0).trans rfl
                  go_region_held3 (fun w' => w'.cell? ⟨c, 5, none⟩ = some (.map (some bm)) ∧ w'.cell? ⟨wr.heap.size, 0, none⟩ = some (.string q.addr)) (first | (with_reducible exact ⟨c5, p0⟩) | go_keep | fail) (fail)
                  all_goals
                    have B12 := hide (((Below.refl w1.heap.size w1).alloc (Nat.le_refl _) (.cells #[.slice none 0 0, .int .i64 (wrap64 (nn + 1)), .slice z4 z5 z6, .bool false, .bool false, .string (pid q.addr q.pause), .bool false, .bool false, .int .i64 q.ver] 42)).drew)
                    have Q2 := hide ((row_new w1 42 [.slice none 0 0, .int .i64 (wrap64 (nn + 1)), .slice z4 z5 z6, .bool false, .bool false, .string (pid q.addr q.pause), .bool false, .bool false, .int .i64 q.ver]).dr)
                    clear LK1 LK2 hMp1 hMp2 hlz c5 p0
                    generalize hw2 : (w1.alloc (.cells #[.slice none 0 0, .int .i64 (wrap64 (nn + 1)), .slice z4 z5 z6, .bool false, .bool false, .string (pid q.addr q.pause), .bool false, .bool false, .int .i64 q.ver] 42)).drew = w2 at *
                    replace hw2 := hide hw2
                    have R2 := hide (R1.out.below B12.out R1.out.lt)
                    have BW2 := hide (B1.out.trans (B12.out.mono B1.out.size))
                    have p5 : w2.cell? ⟨wr.heap.size, 5, none⟩ = some (.bool true) := (R2.out.cell 5).trans rfl

                    have O2 := hide (map_below OW.out BW2.out)
                    have A2 := hide (AW.out.old BW2.out)
                    have LKo := HLo.out w2 O2.out
                    have LKq := HLq.out w2.drew A2.out.cp.seq
                    have p0 : w2.cell? ⟨wr.heap.size, 0, none⟩ = some (.string q.addr) := (R2.out.cell 0).trans rfl
                    have c6d : w2.drew.cell? ⟨c, 6, none⟩ = some (.map oq) := (A2.out.cp.row.cell 6).trans rfl
                    have p0d : w2.drew.cell? ⟨wr.heap.size, 0, none⟩ = some (.string q.addr) := p0
                    cases had
                    all_goals
                      go_upto_region 38 with fail
                      go_region_held3 (fun w' => w'.cell? ⟨c, 6, none⟩ = some (.map oq) ∧ w'.cell? ⟨wr.heap.size, 0, none⟩ = some (.string q.addr)) (first | (with_reducible exact ⟨c6d, p0d⟩) | fail) (fail)
                      have B23 := hide ((Below.refl w2.heap.size w2).drew)
                      clear LKo LKq p0 p0d c6d p5 HLo HLq
                      generalize hw3 : w2.drew = w3 at *
                      replace hw3 := hide hw3
                      go_upto_region 41 with fail
                      have hil := Lib.itoa_length_le q.pause hpz.1 hpz.2
                      have g1 : ¬ 9223372036854775807 < q.addr.size + 1 := by omega
                      have g2 : ¬ 9223372036854775807 < q.addr.size + 1 + (Lib.itoa q.pause).length := by omega
                      have p0d : w3.drew.cell? ⟨wr.heap.size, 0, none⟩ = some (.string q.addr) := (B23.out.cell (p := ⟨wr.heap.size, 0, none⟩) R2.out.lt).trans ((R2.out.cell 0).trans rfl)
                      have p2d : w3.drew.cell? ⟨wr.heap.size, 2, none⟩ = some (.int .i64 q.pause) := (B23.out.cell (p := ⟨wr.heap.size, 2, none⟩) R2.out.lt).trans ((R2.out.cell 2).trans rfl)
                      have C14 := itoa_any q.pause w3.drew hpz.1 hpz.2
                      go_region_held3 (fun w' => w'.cell? ⟨wr.heap.size, 0, none⟩ = some (.string q.addr) ∧ w'.cell? ⟨wr.heap.size, 2, none⟩ = some (.int .i64 q.pause)) (first | (with_reducible exact ⟨p0d, p2d⟩) | (with_reducible exact SI.out) | fail) ((go_at_call 14; refine C14.mono ?_; rintro e w4 ⟨rfl, hb4⟩; have SI : Hid (w4.cell? ⟨wr.heap.size, 0, none⟩ = some (.string q.addr) ∧ w4.cell? ⟨wr.heap.size, 2, none⟩ = some (.int .i64 q.pause)) := ⟨keep_below hb4 p0d, keep_below hb4 p2d⟩; have B24 := hide (B23.out.drew.trans (hb4.mono B23.out.size))))
                      have p3 : w4.cell? ⟨wr.heap.size, 3, none⟩ = some (.slice o2 n2 c2) := (B24.out.cell (p := ⟨wr.heap.size, 3, none⟩) R2.out.lt).trans ((R2.out.cell 3).trans rfl)
                      have p9 : w4.cell? ⟨wr.heap.size, 9, none⟩ = some (.int .i64 q.ver) := (B24.out.cell (p := ⟨wr.heap.size, 9, none⟩) R2.out.lt).trans ((R2.out.cell 9).trans rfl)
                      clear C14 SI p0d p2d hb4 hil g1 g2
                      go_upto_region 43 with fail
                      have hid : Hid (pid q.addr q.pause = q.addr ++ ({ data := #[35] } : ByteArray) ++ { data := (Lib.itoa q.pause).toArray }) := rfl
                      have Q2' := Q2.out
                      rw [hid.out] at Q2'
                      have HY3' := HY3.out
                      rw [hid.out] at HY3'
                      replace HY3' := hide HY3'
                      replace Q2' := hide Q2'
                      clear HY3 Q2 hid hw2 p3 p9
                      generalize q.addr ++ ({ data := #[35] } : ByteArray) ++ { data := (Lib.itoa q.pause).toArray } = id at *
                      have B25 := hide (B24.out.alloc B24.out.size (.cells #[.slice none 0 0, .int .i64 (wrap64 (nn + 1)), .slice o2 n2 c2, .bool false, .bool false, .string id, .bool false, .bool false, .int .i64 q.ver] 42))
                      have W5 := hide (row_new w4 42 [.slice none 0 0, .int .i64 (wrap64 (nn + 1)), .slice o2 n2 c2, .bool false, .bool false, .string id, .bool false, .bool false, .int .i64 q.ver])
                      generalize hw5 : w4.alloc (.cells #[.slice none 0 0, .int .i64 (wrap64 (nn + 1)), .slice o2 n2 c2, .bool false, .bool false, .string id, .bool false, .bool false, .int .i64 q.ver] 42) = w5 at *
                      replace hw5 := hide hw5
                      have Q5 := hide (Q2'.out.below B25.out Q2'.out.lt)
                      have BW5 := hide (BW2.out.trans (B25.out.mono BW2.out.size))
                      have q0 : w5.cell? ⟨w1.heap.size, 0, none⟩ = some (.slice none 0 0) := (Q5.out.cell 0).trans rfl
                      have q1 : w5.cell? ⟨w1.heap.size, 1, none⟩ = some (.int .i64 (wrap64 (nn + 1))) := (Q5.out.cell 1).trans rfl
                      have q2 : w5.cell? ⟨w1.heap.size, 2, none⟩ = some (.slice z4 z5 z6) := (Q5.out.cell 2).trans rfl
                      have q3 : w5.cell? ⟨w1.heap.size, 3, none⟩ = some (.bool false) := (Q5.out.cell 3).trans rfl
                      have q4 : w5.cell? ⟨w1.heap.size, 4, none⟩ = some (.bool false) := (Q5.out.cell 4).trans rfl
                      have q5 : w5.cell? ⟨w1.heap.size, 5, none⟩ = some (.string id) := (Q5.out.cell 5).trans rfl
                      have q6 : w5.cell? ⟨w1.heap.size, 6, none⟩ = some (.bool false) := (Q5.out.cell 6).trans rfl
                      have q7 : w5.cell? ⟨w1.heap.size, 7, none⟩ = some (.bool false) := (Q5.out.cell 7).trans rfl
                      have q8 : w5.cell? ⟨w1.heap.size, 8, none⟩ = some (.int .i64 q.ver) := (Q5.out.cell 8).trans rfl
                      have t0 : w5.cell? ⟨w4.heap.size, 0, none⟩ = some (.slice none 0 0) := (W5.out.cell 0).trans rfl
                      have t1 : w5.cell? ⟨w4.heap.size, 1, none⟩ = some (.int .i64 (wrap64 (nn + 1))) := (W5.out.cell 1).trans rfl
                      have t2 : w5.cell? ⟨w4.heap.size, 2, none⟩ = some (.slice o2 n2 c2) := (W5.out.cell 2).trans rfl
                      have t3 : w5.cell? ⟨w4.heap.size, 3, none⟩ = some (.bool false) := (W5.out.cell 3).trans rfl
                      have t4 : w5.cell? ⟨w4.heap.size, 4, none⟩ = some (.bool false) := (W5.out.cell 4).trans rfl
                      have t5 : w5.cell? ⟨w4.heap.size, 5, none⟩ = some (.string id) := (W5.out.cell 5).trans rfl
                      have t6 : w5.cell? ⟨w4.heap.size, 6, none⟩ = some (.bool false) := (W5.out.cell 6).trans rfl
                      have t7 : w5.cell? ⟨w4.heap.size, 7, none⟩ = some (.bool false) := (W5.out.cell 7).trans rfl
                      have t8 : w5.cell? ⟨w4.heap.size, 8, none⟩ = some (.int .i64 q.ver) := (W5.out.cell 8).trans rfl

                      have C12 : Calls Tryd.prog 12 #[.agg #[.slice none 0 0, .int .i64 (wrap64 (nn + 1)), .slice z4 z5 z6, .bool false, .bool false, .string id, .bool false, .bool false, .int .i64 q.ver], .agg #[.slice none 0 0, .int .i64 (wrap64 (nn + 1)), .slice o2 n2 c2, .bool false, .bool false, .string id, .bool false, .bool false, .int .i64 q.ver]] w5 fun e w' => e = .returned (.bool true) ∧ Below w5.heap.size w5 w' := partEq_any ⟨⟨none, 0, 0⟩, wrap64 (nn + 1), ⟨z4, z5, z6⟩, false, false, id, false, false, q.ver⟩ ⟨⟨none, 0, 0⟩, wrap64 (nn + 1), ⟨o2, n2, c2⟩, false, false, id, false, false, q.ver⟩ none q.state w5 (.inl ⟨rfl, rfl⟩) (.inl ⟨rfl, rfl⟩) (hz2.out.inB.old BW5.out) (ow2.out.inB.old BW5.out) rfl
                      go_wp2_with fail
                      refine C12.mono ?_
                      rintro e w6' ⟨rfl, hb6'⟩
                      have BW6 := hide (BW5.out.trans (hb6'.mono BW5.out.size))
                      have F6 := map_below hF.out BW6.out
                      have U := run_put (P := Tryd.prog) Tryd.underlying39 Tryd.underlying9 (w := w6') (r := w8.heap.size) (l := mapV bV (freshG qs j)) F6 id (.bool true)
                      have M6 := hide (F6.put id (.bool true))
                      have PM : Hid (put (mapV bV (freshG qs j)) id (.bool true) = mapV bV (putG (freshG qs j) id true)) := put_mapV bV _ id true
                      have B86 := hB.trans (BW6.out.mono hB.size)
                      have BB := hide (B86.trans (((Kept.refl w6' [w8.heap.size]).setB (g := w8.heap.size) (.inl (by simp)) (.map (ents (put (mapV bV (freshG qs j)) id (.bool true))) (put (mapV bV (freshG qs j)) id (.bool true)).length)).toBelow (B := w8.heap.size) B86.size (by simp)))
                      clear C12 q0 q1 q2 q3 q4 q5 q6 q7 q8 t0 t1 t2 t3 t4 t5 t6 t7 t8 hz1 hz2 ow1 ow2 BW6 BW5 BW2 R2 Q5 Q2' W5 R1 B1 B12 B23 B24 B25 hF hB A1 A2 O2 AW MW OW hMp F6 B86 hb6' hw5 hw3 hw1
                      go_wp2_with fail
                      go_roundw
                      case rel =>
                        refine ⟨j + 1, by omega, by go_num, ?_, ?_, ?_, BB.out⟩
                        · rw [HY1.out]; go_num
                        · rw [HY2.out]; simp only [Bool.false_eq_true, if_false, if_true]; go_num
                        · rw [HY3'.out, ← PM.out]; exact M6.out
                      case measure => simp [intOf]; omega
              · have hno : isAct qs k = false := by
                  cases h : isAct qs k with
                  | false => rfl
                  | true =>
                    have := (hac.out.1 h).1
                    injection this with this
                    exact absurd (by rw [this]) hjk
                have HN' := hide (HN.out hno)
                have F1 := hide (map_alloc hF.out (.cells #[.string q.addr, .slice o1 n1 c1, .int .i64 q.pause, .slice o2 n2 c2, .bool q.comp, .bool q.run, .string q.ind, .bool q.outs, .bool q.stop, .int .i64 q.ver] 36))
                have BB := hide (hB.trans (B1.out.mono hB.size))
                clear hac HN HY HA AW MW OW hMp ow1 ow2 R1 B1 hF hB
                go_wp2_with fail
                go_roundw
                case rel =>
                  refine ⟨k + 1, by omega, by go_num, ?_, ?_, ?_, BB.out⟩
                  · rw [HN'.out.1]
                  · rw [HN'.out.2.1]
                  · rw [HN'.out.2.2]; exact F1.out
                case measure => simp [intOf]; omega
            · have e : k = qs.length := by omega
              subst e
              obtain ⟨w9, hw9⟩ : ∃ x, x = wr := ⟨_, rfl⟩
              subst hw9
              have P9 := hide (P8.out.old hB)
              have A9 := hide (A8.out.old hB)
              have M9 := hide (map_below M8.out hB)
              have O9 := hide (map_below O8.out hB)
              have F9 := hide hF
              have hb09 : Below w.heap.size w w9 := hb08.trans (hB.mono hb08.size)
              clear P8 A8 M8 O8 hb08 hB hF
              generalize w8.heap.size = bf at *
              have hal := actP_le (fun _ => true) qs qs.length
              have hal2 := actP_le (newK ss) qs qs.length
              have hkk2 := act_count (newK ss) qs vis A9.out.nv A9.out.vk
              generalize hkk : (gSeq ss).length + actP (newK ss) qs qs.length = kk at *
              generalize actP (fun _ => true) qs qs.length = na at *
              have hlq : (l'.length : Int) = (kk : Int) := by
                have h1 := A9.out.sl.len
                have h3 : (vis.filter fun p => newK ss p.1) = vis.filter fun p => (lookG (gSeq ss) p.1).isNone := by
                  apply List.filter_congr
                  intro p _
                  unfold newK
                  cases lookG (gSeq ss) p.1 <;> rfl
                rw [h3] at hkk2
                omega
              have hv0 : vis = [] ↔ na = 0 := by rw [hact.out]; exact List.length_eq_zero_iff.symm
              have hNq' : Hid (oq = none ↔ sa = none ∧ na = 0) := by rw [hNq.out, hv0]; exact Iff.rfl
              have hNt' : Hid (xa = none ↔ ta = none ∧ na = 0) := by rw [hNt.out, hv0]; exact Iff.rfl
              have hxI : (xn : Int) = (ts.length : Int) + (na : Int) := by rw [hxe.out]; omega
              have hkb : kk ≤ 262144 := by omega
              clear hkk hkk2 hal2 hv0 hNq hNt
              replace hlq := hide hlq
              replace hxI := hide hxI
              have c5 : w9.cell? ⟨c, 5, none⟩ = some (.map om) := by rw [A9.out.cp.row.cell]; rfl
              have c6 : w9.cell? ⟨c, 6, none⟩ = some (.map oq) := by rw [A9.out.cp.row.cell]; rfl
              have c9 : w9.cell? ⟨c, 9, none⟩ = some (.slice xa xn xc) := by rw [A9.out.cp.row.cell]; rfl
              have LN1 := run_len_any (T := 44) Tryd.underlying44 A9.out.cp.parts
              have LN2 := run_len (P := Tryd.prog) Tryd.underlying33 M9.out
              have LN3 := run_len_any (T := 33) Tryd.underlying33 A9.out.cp.seq
              rw [hlm.out] at LN1
              rw [mapV_length] at LN2
              have heq44 := run_eql_mapnil (P := Tryd.prog) 44 9 42 Tryd.underlying44
              have heq33 := run_eql_mapnil (P := Tryd.prog) 33 9 3 Tryd.underlying33
              have heq22 := run_eql_nil (P := Tryd.prog) 22 36 Tryd.underlying22
              have heq23 := run_eql_nil (P := Tryd.prog) 23 38 Tryd.underlying23
              have heq24 := run_eql_nil (P := Tryd.prog) 24 9 Tryd.underlying24
              have hNp' := hNp.out
              go_wp2_with fail
              go_loop [24] (fun v => ∃ (k : Nat), k ≤ ss.length ∧ v = .int .i64 k) (fun v => ss.length - (intOf v).toNat)
              case atStart => exact ⟨0, Nat.zero_le _, rfl⟩
              case round =>
                clear c5 LN1 LN2 heq44 heq22 hNp'
                obtain ⟨k, hk, rfl⟩ := hrel
                by_cases hkl : k < ss.length
                · have hlti : (k : Int) < (ss.length : Int) := by omega
                  obtain ⟨b, rfl, hbb, e0, e1⟩ := seq_at P9.out.as_ hkl
                  obtain ⟨nn, hnn⟩ := gSeq_has ss k hkl
                  have LKl := look_nat M9.out ss[k].addr
                  have LKq := look_seq A9.out.cp.seq ss[k].addr
                  have LKo := lk_at O9.out hnn
                  have hvk := A9.out.vk ss[k].addr
                  have hll := A9.out.sl.look ss[k].addr
                  rw [hnn] at hll
                  generalize ss[k].addr = ad at *
                  cases hog : lookG (lastAll qs) ad with
                  | none =>
                    have hnv : ad ∉ keys vis := by
                      rw [hvk, parts_all, hog]; rintro ⟨q, h, _⟩; cases h
                    rw [if_neg hnv] at hll
                    rw [hll] at LKq
                    rw [hog] at LKl
                    simp only [Option.getD_none, Option.isSome_none, Option.getD_some, Option.isSome_some] at LKl LKq
                    clear hvk hll hnn hog hnv e1
                    go_wp2_with fail
                    go_round
                    case rel => exact ⟨k + 1, by omega, by go_num⟩
                    case measure => simp [intOf]; omega
                  | some j =>
                    obtain ⟨hjl, _⟩ := last_at qs ad qs.length (Nat.le_refl _) j hog
                    obtain ⟨z, _, _, hkv⟩ := A9.out.at_ hjl hog
                    obtain ⟨b', o1, n1, c1, o2, n2, c2, rfl, _, _, _, _, _, _, _, _, e5, _⟩ := parts_at P9.out.ap P9.out.ow (k := j) (by rw [hql'.out]; exact hjl) hjl
                    have hjlI : (j : Int) < (qs.length : Int) := by omega
                    rw [hog] at LKl
                    simp only [Option.getD_some, Option.isSome_some] at LKl
                    generalize qs[j].run = ru at *
                    cases ru with
                    | true =>
                      clear hvk hll hnn hog hkv e1 LKq LKo
                      go_wp2_with fail
                      go_round
                      case rel => exact ⟨k + 1, by omega, by go_num⟩
                      case measure => simp [intOf]; omega
                    | false =>
                      have hnv : ad ∉ keys vis := by rw [hkv]; simp
                      rw [if_neg hnv] at hll
                      rw [hll] at LKq
                      simp only [Option.getD_some, Option.isSome_some] at LKq
                      clear hvk hll hnn hog hkv e1 hnv
                      go_wp2_with fail
                      go_round
                      case rel => exact ⟨k + 1, by omega, by go_num⟩
                      case measure => simp [intOf]; omega
                · have e : k = ss.length := by omega
                  subst e
                  go_upto_region 57 with fail
                  go_cut [260] from 240 to 260 (fun s wc => s = .bool false ∧ w9 = wc)
                  case first =>
                    have hlq' := hlq.out
                    by_cases hz : na = 0
                    · have hzI : ((na : Int) == 0) = true := by simp [hz]
                      replace hz := hide hz
                      cases sa with
                      | none =>
                        obtain rfl : oq = none := hNq'.out.2 ⟨rfl, hz.out⟩
                        go_wp2_with fail
                        go_meet
                        case rel => exact ⟨rfl, rfl⟩
                      | some x =>
                        cases oq with
                        | none => exact absurd (hNq'.out.1 rfl).1 (by simp)
                        | some y =>
                          go_wp2_with fail
                          go_meet
                          case rel => exact ⟨rfl, rfl⟩
                    · have hzI : ((na : Int) == 0) = false := by simp [hz]
                      replace hz := hide hz
                      cases oq with
                      | none => exact absurd (hNq'.out.1 rfl).2 hz.out
                      | some y =>
                        cases sa with
                        | none =>
                          go_wp2_with fail
                          go_meet
                          case rel => exact ⟨rfl, rfl⟩
                        | some x =>
                          go_wp2_with fail
                          go_meet
                          case rel => exact ⟨rfl, rfl⟩

                  case rest =>
                    obtain ⟨rfl, hwc⟩ := hcut
                    subst hwc
                    go_upto_region 59 with fail
                    go_cut [284] from 261 to 284 (fun s wc => s = .bool false ∧ w9 = wc)
                    case first =>
                      have hxI' := hxI.out
                      have hwr : IntKind.i64.wrap ((ts.length : Int) + (na : Int)) = (ts.length : Int) + (na : Int) := by rw [IntKind.wrap_i64]; omega
                      by_cases hz : na = 0
                      · have hzI : ((na : Int) == 0) = true := by simp [hz]
                        replace hz := hide hz
                        cases ta with
                        | none =>
                          obtain rfl : xa = none := hNt'.out.2 ⟨rfl, hz.out⟩
                          go_wp2_with fail
                          go_meet
                          case rel => exact ⟨rfl, rfl⟩
                        | some x =>
                          cases xa with
                          | none => exact absurd (hNt'.out.1 rfl).1 (by simp)
                          | some y =>
                            go_wp2_with fail
                            go_meet
                            case rel => exact ⟨rfl, rfl⟩
                      · have hzI : ((na : Int) == 0) = false := by simp [hz]
                        replace hz := hide hz
                        cases xa with
                        | none => exact absurd (hNt'.out.1 rfl).2 hz.out
                        | some y =>
                          cases ta with
                          | none =>
                            go_wp2_with fail
                            go_meet
                            case rel => exact ⟨rfl, rfl⟩
                          | some x =>
                            go_wp2_with fail
                            go_meet
                            case rel => exact ⟨rfl, rfl⟩

                    case rest =>
                      obtain ⟨rfl, hwc⟩ := hcut
                      subst hwc
                      go_wp2_with fail
                      clear heq33 heq23 heq24 LN3 c9 c6
                      have hxv : Hid (xn = ts.length + vis.length) := by rw [hxe.out, hact.out]; rfl
                      have hvb : vis.length ≤ 131072 := by rw [← hact.out]; omega
                      have hxb : xn ≤ 262144 := by rw [hxv.out]; omega
                      have htx : ts.length ≤ xn := by rw [hxv.out]; omega
                      go_loopw [30] (fun v wr => ∃ (k : Nat), k ≤ ts.length ∧ v = .int .i64 k ∧ Below w9.heap.size w9 wr) (fun v _ => ts.length - (intOf v).toNat)
                      case atStart => exact ⟨0, Nat.zero_le _, rfl, Below.refl _ _⟩
                      case round =>
                        obtain ⟨k, hk, rfl, hB⟩ := hrel
                        by_cases hkl : k < ts.length
                        · have hlti : (k : Int) < (ts.length : Int) := by omega
                          have hltx : (k : Int) < (xn : Int) := by omega
                          have AW := A9.out.old hB
                          have PW := P9.out.old hB
                          have hkt : k < (ts ++ vis.map pidZ).length := by rw [hxm.out]; omega
                          obtain ⟨xb, xo, rfl, x0⟩ := sIn_at AW.cp.taken.sIn k hkt
                          obtain ⟨yb, yo, rfl, y0⟩ := sIn_at PW.at_.sIn k hkl
                          rw [List.getElem_append_left hkl] at x0
                          have c9 : wr.drew.cell? ⟨c, 9, none⟩ = some (.slice (some ⟨xb, xo, none⟩) xn xc) := (AW.cp.row.cell 9).trans rfl
                          have BB := hide hB.drew
                          clear AW PW hB
                          generalize ts[k] = id at *
                          have x0d : wr.drew.cell? ⟨xb, xo + k, none⟩ = some (.string id) := x0
                          have y0d : wr.drew.cell? ⟨yb, yo + k, none⟩ = some (.string id) := y0
                          go_upto_region 64 with fail
                          go_region_held3 (fun w' => w'.cell? ⟨c, 9, none⟩ = some (.slice (some ⟨xb, xo, none⟩) xn xc) ∧ w'.cell? ⟨xb, xo + k, none⟩ = some (.string id) ∧ w'.cell? ⟨yb, yo + k, none⟩ = some (.string id)) (first | (with_reducible exact ⟨c9, x0d, y0d⟩) | fail) (fail)
                          clear c9 x0 y0 x0d y0d
                          go_wp2_with fail
                          go_roundw
                          case rel => exact ⟨k + 1, by omega, by go_num, BB.out⟩
                          case measure => simp [intOf]; omega
                        · have e : k = ts.length := by omega
                          subst e
                          obtain ⟨w10, hw10⟩ : ∃ x, x = wr := ⟨_, rfl⟩
                          subst hw10
                          have A10 := hide (A9.out.old hB)
                          have F10 := hide (map_below F9.out hB)
                          have hb010 : Below w.heap.size w w10 := hb09.trans (hB.mono hb09.size)
                          clear P9 A9 M9 O9 F9 hb09 hB
                          have S3 : MapAt (w10.alloc (.map #[] 0)) w10.heap.size (mapV bV (seenG (vis.map pidZ) 0)) := mapAt_new w10
                          have B3 : Below w10.heap.size w10 (w10.alloc (.map #[] 0)) := (Below.refl _ w10).alloc (Nat.le_refl _) _
                          have hmm := @run_makeMap Tryd.prog
                          go_wp2_with fail
                          go_loopw [32] (fun v wr => ∃ (i k : Nat), i = ts.length + k ∧ k ≤ vis.length ∧ v = .int .i64 i ∧ MapAt wr w10.heap.size (mapV bV (seenG (vis.map pidZ) k)) ∧ Below w10.heap.size w10 wr) (fun v _ => xn - (intOf v).toNat)
                          case atStart => exact ⟨ts.length, 0, rfl, Nat.zero_le _, rfl, S3, B3⟩
                          case round =>
                            clear S3 B3 hmm
                            obtain ⟨i, k, hik, hk, rfl, hS, hB⟩ := hrel
                            by_cases hkl : k < vis.length
                            · have hlti : (i : Int) < (xn : Int) := by rw [hik, hxv.out]; omega
                              have AW := A10.out.old hB
                              have FW := map_below F10.out hB
                              have hit : i < (ts ++ vis.map pidZ).length := by rw [hxm.out]; omega
                              have hki : k < (vis.map pidZ).length := by simpa using hkl
                              obtain ⟨xb, xo, rfl, x0⟩ := sIn_at AW.cp.taken.sIn i hit
                              have hid : (ts ++ vis.map pidZ)[i] = (vis.map pidZ)[k] := by
                                subst hik
                                rw [List.getElem_append_right (by omega)]
                                simp
                              rw [hid] at x0
                              have c9 : wr.cell? ⟨c, 9, none⟩ = some (.slice (some ⟨xb, xo, none⟩) xn xc) := by rw [AW.cp.row.cell]; rfl
                              have LKf := lkb_at FW (fresh_vis AW.own0 AW.mv vis[k] (List.getElem_mem hkl))
                              have hpz : pidZ vis[k] = (vis.map pidZ)[k] := by simp
                              rw [hpz] at LKf
                              have LKs := lkb_no hS (seenG_none (vis.map pidZ) (pids_nodup AW.nv) k (by omega) k hki (Nat.le_refl _))
                              have HG := hide (seenG_succ (vis.map pidZ) k hki)
                              generalize (vis.map pidZ)[k] = id at *
                              have U := run_put (P := Tryd.prog) Tryd.underlying39 Tryd.underlying9 (w := wr) (r := w10.heap.size) (l := mapV bV (seenG (vis.map pidZ) k)) hS id (.bool true)
                              have M6 := hide (hS.put id (.bool true))
                              have PM : Hid (put (mapV bV (seenG (vis.map pidZ) k)) id (.bool true) = mapV bV (putG (seenG (vis.map pidZ) k) id true)) := put_mapV bV _ id true
                              have BB := hide (hB.trans (((Kept.refl wr [w10.heap.size]).setB (g := w10.heap.size) (.inl (by simp)) (.map (ents (put (mapV bV (seenG (vis.map pidZ) k)) id (.bool true))) (put (mapV bV (seenG (vis.map pidZ) k)) id (.bool true)).length)).toBelow (B := w10.heap.size) hB.size (by simp)))
                              replace hik := hide hik
                              clear AW FW hB hS hid hpz
                              go_wp2_with fail
                              go_roundw
                              case rel =>
                                refine ⟨i + 1, k + 1, by rw [hik.out]; omega, by omega, by go_num, ?_, BB.out⟩
                                rw [HG.out, ← PM.out]; exact M6.out
                              case measure => simp [intOf]; omega
                            · have e : i = xn := by rw [hik, hxv.out]; omega
                              subst e
                              have c9 : wr.cell? ⟨c, 9, none⟩ = some (.slice xa i xc) := by rw [(A10.out.old hB).cp.row.cell]; rfl
                              have BF := hide (hb010.trans (hB.mono hb010.size))
                              replace hik := hide hik
                              go_wp2_with fail
                              go_ret
                              exact ⟨rfl, BF.out⟩
end Go.Proofs.Qxb6604717aDoor
