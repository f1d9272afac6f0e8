import Derived.Test.Qxb6604717aDoorAft
namespace Go.Proofs.Qxb6604717aDoor
open Go.ChangeShapes Go.WideShapes Go.ChangeAt Go.RowKit
open Go.ChangeMaps (setBlock)
set_option linter.unusedVariables false

theorem TAt.form {B : Nat} {w : World} {v : Value} {ts : List ByteArray} (h : TAt B w v ts) : ∃ a c, v = .slice a ts.length c ∧ (v = .slice none 0 0 ↔ a = none) := by
  obtain ⟨_, ⟨h1, h2⟩ | ⟨g, cap, cur, h1, _⟩⟩ := h
  · exact ⟨none, 0, by rw [h1, h2], by simp [h1]⟩
  · exact ⟨_, _, h1, by simp [h1]⟩

theorem Tryd.info3 : (Tryd.prog.info? 3).map (fun i => (i.zero, i.size, i.bytes)) = some (some (.int .i64 0), 1, 8) := by kernel_rfl
theorem Tryd.info4 : (Tryd.prog.info? 4).map (fun i => (i.zero, i.size, i.bytes)) = some (some (.bool false), 1, 1) := by kernel_rfl
theorem Tryd.info42 : (Tryd.prog.info? 42).map (fun i => (i.zero, i.size, i.bytes)) = some (some (.agg #[.slice none 0 0, .int .i64 0, .slice none 0 0, .bool false, .bool false, .string ByteArray.empty, .bool false, .bool false, .int .i64 0]), 9, 96) := by kernel_rfl
def ZP.cellsL (z : ZP) : List Value := [.slice z.vo.a z.vo.n z.vo.c, .int .i64 z.pause, .slice z.vs.a z.vs.n z.vs.c, .bool z.comp, .bool z.run, .string z.ind, .bool z.outs, .bool z.stop, .int .i64 z.ver]
theorem ZP.lenL (z : ZP) : z.cellsL.length = 9 := rfl
def ZP.zero : ZP := ⟨⟨none, 0, 0⟩, 0, ⟨none, 0, 0⟩, false, false, ByteArray.empty, false, false, 0⟩

theorem RowAt.dr {w : World} {g : Nat} {e : TypeId} {xs : List Value} (h : RowAt w g e xs) : RowAt w.drew g e xs := h
theorem kept9o (w : World) (g o : Nat) (v0 v1 v2 v3 v4 v5 v6 v7 v8 : Value) : Kept w (((((((((w.setCell ⟨g, o, none⟩ v0).setCell ⟨g, o + 1, none⟩ v1).setCell ⟨g, o + 2, none⟩ v2).setCell ⟨g, o + 3, none⟩ v3).setCell ⟨g, o + 4, none⟩ v4).setCell ⟨g, o + 5, none⟩ v5).setCell ⟨g, o + 6, none⟩ v6).setCell ⟨g, o + 7, none⟩ v7).setCell ⟨g, o + 8, none⟩ v8) [g] := ((((((((((Kept.refl w [g]).set (g := g) (.inl (by simp)) o v0).set (g := g) (.inl (by simp)) (o + 1) v1).set (g := g) (.inl (by simp)) (o + 2) v2).set (g := g) (.inl (by simp)) (o + 3) v3).set (g := g) (.inl (by simp)) (o + 4) v4).set (g := g) (.inl (by simp)) (o + 5) v5).set (g := g) (.inl (by simp)) (o + 6) v6).set (g := g) (.inl (by simp)) (o + 7) v7).set (g := g) (.inl (by simp)) (o + 8) v8)
theorem row9o {w : World} {g : Nat} {e : TypeId} {xs : List Value} (h : RowAt w g e xs) (o : Nat) (v0 v1 v2 v3 v4 v5 v6 v7 v8 : Value) : RowAt (((((((((w.setCell ⟨g, o, none⟩ v0).setCell ⟨g, o + 1, none⟩ v1).setCell ⟨g, o + 2, none⟩ v2).setCell ⟨g, o + 3, none⟩ v3).setCell ⟨g, o + 4, none⟩ v4).setCell ⟨g, o + 5, none⟩ v5).setCell ⟨g, o + 6, none⟩ v6).setCell ⟨g, o + 7, none⟩ v7).setCell ⟨g, o + 8, none⟩ v8) g e (setMany xs o [v0, v1, v2, v3, v4, v5, v6, v7, v8]) := (((((((((h.set o v0).set (o + 1) v1).set (o + 2) v2).set (o + 3) v3).set (o + 4) v4).set (o + 5) v5).set (o + 6) v6).set (o + 7) v7).set (o + 8) v8)

theorem upF_at {α : Type} (u : α) (xs : List α) (k : Nat) (h : k < xs.length) (h' : k < (upF u xs k).length) : (upF u xs k)[k] = u := by
  have e : (upF u xs k)[k]? = some u := by
    show (xs.take k ++ List.replicate (xs.length - k) u)[k]? = some u
    rw [List.getElem?_append_right (by simp; omega), List.length_take, Nat.min_eq_left (by omega), Nat.sub_self, List.getElem?_replicate, if_pos (by omega)]
  rw [List.getElem?_eq_getElem h'] at e
  exact Option.some.inj e

theorem upV_at (vs : List Value) (z : Value) (k : Nat) (h : k < vs.length) : (upV vs z k)[k]? = some z := by
  show (vs.take k ++ List.replicate (vs.length - k) z)[k]? = some z
  rw [List.getElem?_append_right (by simp; omega), List.length_take, Nat.min_eq_left (by omega), Nat.sub_self, List.getElem?_replicate, if_pos (by omega)]
theorem sIn_at {w : World} {a : Option Addr} {n c : Nat} {ts : List ByteArray} (h : SIn w (.slice a n c) ts) (k : Nat) (hk : k < ts.length) : ∃ b o, a = some ⟨b, o, none⟩ ∧ w.cell? ⟨b, o + k, none⟩ = some (.string ts[k]) := by
  rcases h with ⟨_, h⟩ | ⟨x, c', h1, h2⟩
  · subst h; simp at hk
  · injection h1 with h1
    subst h1
    have hk' : k < (strs ts).length := by rw [strs_length]; exact hk
    rcases h2 with h2 | ⟨b, o, h2, h3⟩
    · rw [h2] at hk'; simp at hk'
    · refine ⟨b, o, h2, ?_⟩
      rw [h3 k hk', strs_get]
/-! ### All keys -/
def kAll (qs : List PQ) (ss : List SE) : List ByteArray := qs.map (·.addr) ++ ss.map (·.addr)
theorem kAll_length (qs : List PQ) (ss : List SE) : (kAll qs ss).length = qs.length + ss.length := by simp [kAll]
def wasV (l : List (ByteArray × Int)) (qs : List PQ) (ss : List SE) : List Value := (kAll qs ss).map fun a => .int .i64 ((lookG l a).getD 0)
def hadV (l : List (ByteArray × Int)) (qs : List PQ) (ss : List SE) : List Value := (kAll qs ss).map fun a => .bool (lookG l a).isSome
theorem wasV_length (l : List (ByteArray × Int)) (qs : List PQ) (ss : List SE) : (wasV l qs ss).length = qs.length + ss.length := by simp [wasV, kAll_length]
theorem hadV_length (l : List (ByteArray × Int)) (qs : List PQ) (ss : List SE) : (hadV l qs ss).length = qs.length + ss.length := by simp [hadV, kAll_length]
theorem wasV_at (l : List (ByteArray × Int)) (qs : List PQ) (ss : List SE) (k : Nat) (h : k < (kAll qs ss).length) (h' : k < (wasV l qs ss).length) : (wasV l qs ss)[k] = .int .i64 ((lookG l (kAll qs ss)[k]).getD 0) := by simp [wasV]
theorem hadV_at (l : List (ByteArray × Int)) (qs : List PQ) (ss : List SE) (k : Nat) (h : k < (kAll qs ss).length) (h' : k < (hadV l qs ss).length) : (hadV l qs ss)[k] = .bool (lookG l (kAll qs ss)[k]).isSome := by simp [hadV]
theorem seqKey_any (ps : List RP) (qs : List PQ) (ss : List SE) (pa sa : Option Addr) (pc sc : Nat) (W : World) (h0 : ArgF RP.cells 36 W (.slice pa qs.length pc) ps) (ho : Owns W ps qs) (h1 : ArgF SE.cells 38 W (.slice sa ss.length sc) ss) (hl : ps.length = qs.length) (k : Nat) (hk : k < (kAll qs ss).length) (l0 : qs.length ≤ 131072) (l1 : ss.length ≤ 131072) :
    Calls Tryd.prog 16 #[.slice pa qs.length pc, .slice sa ss.length sc, .int .i64 k] W fun e w' => e = .returned (.string (kAll qs ss)[k]) ∧ w' = W := by
  by_cases hp : k < qs.length
  · have hk' : k < ps.length := by rw [hl]; exact hp
    have C := seqKey_part ps pa sa pc sc ss.length W (h0.cellsF RP.len) k hk' (by rw [hl]; exact l0)
    obtain ⟨vo, vs, he, _⟩ := ho.2 k hk' hp
    have e : (kAll qs ss)[k] = ps[k].addr := by
      rw [he]
      have h1 : (kAll qs ss)[k]? = some qs[k].addr := by
        show (qs.map (·.addr) ++ ss.map (·.addr))[k]? = _
        rw [List.getElem?_append_left (by simpa using hp)]
        simp [hp]
      rw [List.getElem?_eq_getElem hk] at h1
      exact Option.some.inj h1
    rw [hl] at C
    rw [e]
    exact C
  · have hk2 : k - qs.length < ss.length := by rw [kAll_length] at hk; omega
    have C := seqKey_seq qs.length ss pa sa pc sc W (h1.cellsF SE.len) (k - qs.length) hk2 l0 l1
    rw [show qs.length + (k - qs.length) = k by omega] at C
    have e : (kAll qs ss)[k] = ss[k - qs.length].addr := by
      have h1 : (kAll qs ss)[k]? = some ss[k - qs.length].addr := by
        show (qs.map (·.addr) ++ ss.map (·.addr))[k]? = _
        rw [List.getElem?_append_right (by simp; omega)]
        simp [hk2]
      rw [List.getElem?_eq_getElem hk] at h1
      exact Option.some.inj h1
    rw [e]
    exact C

set_option maxHeartbeats 8000000 in
set_option maxRecDepth 100000 in
theorem settles_any (ps : List RP) (qs : List PQ) (ss : List SE) (ts : List ByteArray) (a0 a1 a2 : Option Addr) (c0 c1 c2 : Nat) (w : World) (A : Args w ps qs ss ts a0 a1 a2 c0 c1 c2) :
    Calls Tryd.prog 4 #[.slice a0 ps.length c0, .slice a1 ss.length c1, .slice a2 ts.length c2] w fun e w' => e = .returned (.bool true) ∧ Below w.heap.size w w' := by
  have C15 := guard15_any ps ss ts a0 a1 a2 c0 c1 c2 w A.h0 A.h1 A.h2 A.hr A.hs A.ht A.l0 A.l1 A.l2
  have C6 := open_any ps ss ts a0 a1 a2 c0 c1 c2 w A.h0 A.h1 A.h2 A.hr A.hs A.ht A.l0 A.l1 A.l2
  replace A := hide A
  go_enter Tryd.func4, Tryd.ntmps4
  go_wp2_with fail
  refine C15.mono ?_
  rintro e w' ⟨⟨b, rfl⟩, hw⟩
  obtain rfl := hw.symm
  clear C15 hw
  cases b with
  | false =>
    go_wp2_with fail
    go_ret
    exact ⟨rfl, Below.refl _ _⟩
  | true =>
  go_wp2_with fail
  refine C6.mono ?_
  rintro e w' ⟨⟨r, rfl, hr⟩, hw⟩
  obtain rfl := hw.symm
  clear C6 hw
  by_cases hbig : 1048576 < r
  · go_wp2_with fail
    go_ret
    exact ⟨rfl, Below.refl _ _⟩
  obtain ⟨b0, b1, b2, hsm, hss, hts⟩ := hr (by omega)
  have C7 := cloneParts_any ps qs a0 c0 w A.out.h0 A.out.n0 (A.out.hq hsm) b0
  have hql : ps.length = qs.length := (A.out.hq hsm).1
  have hqa : ∀ q ∈ qs, q.addr.size ≤ 1048576 := by
    intro q hq
    obtain ⟨i, hi, rfl⟩ := List.getElem_of_mem hq
    obtain ⟨vo, vs, he, _⟩ := (A.out.hq hsm).2 i (by omega) hi
    have := (hsm ps[i] (List.getElem_mem _)).2.2.1
    rw [he] at this
    exact this
  replace hsm := hide hsm
  replace hqa := hide hqa
  replace hql := hide hql
  clear hr
  go_wp2_with fail
  refine C7.mono ?_
  rintro e w1 ⟨vp, ps', rfl, hP1, hO1, hl1, hvp, hb1⟩
  have C8 := cloneSeq_any ss a1 c1 w1 (A.out.h1.old SE.len hb1) A.out.n1 b1
  clear C7
  replace hP1 := hide hP1
  replace hO1 := hide hO1
  go_wp2_with fail
  refine C8.mono ?_
  rintro e w2 ⟨vs, rfl, hS2, hvs, hb2⟩
  have C9 := cloneSArg_any ts a2 c2 w2 ((A.out.h2.old hb1).old hb2) A.out.n2 b2
  clear C8
  replace hS2 := hide hS2
  go_wp2_with fail
  refine C9.mono ?_
  rintro e w3 ⟨vt, rfl, hT3, hvt, hb3⟩
  have P3 := hide (Pin.mk ((hP1.out.old hb2).old hb3) ((hO1.out.k5 (K5.below hb2)).k5 (K5.below hb3)) (hS2.out.old hb3) hT3)
  have hb03 : Below w.heap.size w w3 := (hb1.trans (hb2.mono hb1.size)).trans (hb3.mono (Nat.le_trans hb1.size hb2.size))
  clear C9 hP1 hO1 hS2 hT3 hb1 hb2 hb3
  have hql' : Hid (ps'.length = qs.length) := hl1.trans hql.out
  clear hl1
  obtain ⟨pa, pc, hpe, hpn⟩ := P3.out.ap.form RP.len
  rw [hql'.out] at hpe
  subst hpe
  obtain ⟨sa, sc, rfl, hsn⟩ := P3.out.as_.form SE.len
  obtain ⟨ta, tc, rfl, htn⟩ := P3.out.at_.form
  replace hvp : pa = none ↔ a0 = none := hpn.symm.trans hvp
  replace hvs : sa = none ↔ a1 = none := hsn.symm.trans hvs
  replace hvt : ta = none ↔ a2 = none := htn.symm.trans hvt
  clear w1 w2
  have hmm := @run_makeMap Tryd.prog
  have bq : qs.length ≤ 131072 := by rw [← hql.out]; exact b0
  have M3 : MapAt (w3.alloc (.map #[] 0)) w3.heap.size (mapV nV (lastG qs 0)) := mapAt_new w3
  have B3 : Below w3.heap.size w3 (w3.alloc (.map #[] 0)) := (Below.refl _ w3).alloc (Nat.le_refl _) _
  go_wp2_with fail
  go_loopw [8] (fun v wr => ∃ (k : Nat), k ≤ qs.length ∧ v = .int .i64 k ∧ MapAt wr w3.heap.size (mapV nV (lastG qs k)) ∧ Below w3.heap.size w3 wr) (fun v _ => qs.length - (intOf v).toNat)
  case atStart => exact ⟨0, Nat.zero_le _, rfl, M3, B3⟩
  case round =>
    clear M3 B3 hmm
    obtain ⟨k, hk, rfl, hM, hB⟩ := hrel
    by_cases hkl : k < qs.length
    · have hlti : (k : Int) < (qs.length : Int) := by omega
      have PW := P3.out.old hB
      obtain ⟨b, o1, n1, c1, o2, n2, c2, rfl, hbl, _, _, e0, _⟩ := parts_at PW.ap PW.ow (k := k) (by rw [hql'.out]; exact hkl) hkl
      have HG := hide (lastG_succ qs k hkl)
      generalize qs[k].addr = ad at *
      have U := run_put (P := Tryd.prog) Tryd.underlying33 Tryd.underlying9 (w := wr) (r := w3.heap.size) (l := mapV nV (lastG qs k)) hM ad (.int .i64 k)
      have M6 := hide (hM.put ad (.int .i64 k))
      have PM : Hid (put (mapV nV (lastG qs k)) ad (.int .i64 k) = mapV nV (putG (lastG qs k) ad k)) := put_mapV nV _ ad k
      have B6 := hide (hB.trans ((((Kept.refl wr [w3.heap.size])).setB (g := w3.heap.size) (.inl (by simp)) (.map (ents (put (mapV nV (lastG qs k)) ad (.int .i64 k))) (put (mapV nV (lastG qs k)) ad (.int .i64 k)).length)).toBelow (B := w3.heap.size) hB.size (by simp)))
      clear PW
      go_wp2_with fail
      go_roundw
      case rel =>
        refine ⟨k + 1, by omega, by go_num, ?_, B6.out⟩
        rw [HG.out, ← PM.out]; exact M6.out
      case measure => simp [intOf]; omega
    · have e : k = qs.length := by omega
      subst e
      have P4 := hide (P3.out.old hB)
      have hb04 : Below w.heap.size w wr := hb03.trans (hB.mono hb03.size)
      have hbl4 : w3.heap.size < wr.heap.size := hM.lt
      clear P3 hb03 hB
      generalize w3.heap.size = bl at *
      obtain ⟨w4, hw4⟩ : ∃ x, x = wr := ⟨_, rfl⟩
      subst hw4
      replace hM := hide hM
      have A0 : actP (fun _ => true) qs 0 = 0 := rfl
      go_wp2_with fail
      go_loop [9, 10] (fun t i => ∃ (k : Nat), k ≤ qs.length ∧ i = .int .i64 k ∧ t = .int .i64 (actP (fun _ => true) qs k : Nat)) (fun _ i => qs.length - (intOf i).toNat)
      case atStart => exact ⟨0, Nat.zero_le _, rfl, rfl⟩
      case round =>
        obtain ⟨k, hk, rfl, rfl⟩ := hrel
        by_cases hkl : k < qs.length
        · have hlti : (k : Int) < (qs.length : Int) := by omega
          obtain ⟨b, o1, n1, c1, o2, n2, c2, rfl, hbl, _, _, e0, _, _, _, _, e5, _⟩ := parts_at P4.out.ap P4.out.ow (k := k) (by rw [hql'.out]; exact hkl) hkl
          have hS := last_some qs qs.length (Nat.le_refl _) k hkl hkl
          obtain ⟨j, hj⟩ := Option.isSome_iff_exists.1 hS
          have LK := lkn_at hM.out hj
          have hac := isAct_iff qs hkl
          have hsu := hide (actP_succ (fun _ => true) qs k)
          have hale := actP_le (fun _ => true) qs k
          rw [hj] at hac
          replace hac := hide hac
          clear hS hj
          generalize qs[k].addr = ad at *
          generalize qs[k].run = ru at *
          by_cases hjk : (j : Int) = (k : Int)
          · have hjk' : j = k := by omega
            subst hjk'
            cases ru with
            | true =>
              have hyes : isAct qs j = true := hac.out.2 ⟨rfl, rfl⟩
              clear hac
              go_wp2_with fail
              go_round
              case rel =>
                refine ⟨j + 1, by omega, by go_num, ?_⟩
                rw [hsu.out, hyes]
                go_num
              case measure => simp [intOf]; omega
            | false =>
              have hno : isAct qs j = false := by
                cases h : isAct qs j with
                | false => rfl
                | true => exact absurd (hac.out.1 h).2 (by simp)
              clear hac
              go_wp2_with fail
              go_round
              case rel =>
                refine ⟨j + 1, by omega, by go_num, ?_⟩
                rw [hsu.out, hno]
                simp
              case measure => simp [intOf]; omega
          · have hno : isAct qs k = false := by
              cases h : isAct qs k with
              | false => rfl
              | true =>
                have := (hac.out.1 h).1
                injection this with this
                exact absurd (by rw [this]) hjk
            clear hac
            go_wp2_with fail
            go_round
            case rel =>
              refine ⟨k + 1, by omega, by go_num, ?_⟩
              rw [hsu.out, hno]
              simp
            case measure => simp [intOf]; omega
        · have e : k = qs.length := by omega
          subst e
          go_wp2_with fail
          have CB := build_any ps' qs ss ts _ _ _ w4 P4.out.ap P4.out.ow P4.out.as_ P4.out.at_ (by rw [hql'.out]; exact bq) b1 b2
          refine CB.mono ?_
          rintro e w5 ⟨rfl, ⟨vm, vq, vt', m, hCP, hvm, hvq, hvt'⟩, hb5⟩
          clear CB
          have hb05 : Below w.heap.size w w5 := hb04.trans (hb5.mono hb04.size)
          have C11 := eleven_built w4.heap.size vm vq vt' m qs ss ts w5 hCP (fun w' hb => A.out.hT w' (hb05.trans (hb.mono hb04.size))) hqa.out A.out.hp bq b2
          clear hCP
          go_wp2_with fail
          refine C11.mono ?_
          rintro e w6 ⟨rfl, vis, vq', vtn, l', hA, hqn, htn', hb6⟩
          have hb46 : Below w4.heap.size w4 w6 := hb5.trans hb6
          have P6 := hide (P4.out.old hb46)
          have hM6 := hide (map_below hM.out hb46)
          have hb06 : Below w.heap.size w w6 := hb04.trans (hb46.mono hb04.size)
          have hBc := hb04.size
          obtain ⟨om, hvme⟩ : ∃ ob, vm = .map ob := by rcases hA.cp.parts with ⟨h, _⟩ | ⟨b, h, _⟩ <;> exact ⟨_, h⟩
          obtain ⟨oq, hvqe⟩ : ∃ ob, vq' = .map ob := by rcases hA.cp.seq with ⟨h, _⟩ | ⟨b, h, _⟩ <;> exact ⟨_, h⟩
          obtain ⟨xa, xc, hvte, hxn⟩ := hA.cp.taken.form
          generalize hxm : (ts ++ vis.map pidZ).length = xn at hvte
          subst hvme hvqe
          have hact := hA.act
          have hxe : xn = ts.length + actP (fun _ => true) qs qs.length := by rw [hact, ← hxm]; simp
          have hlm := hA.mlen
          replace hlm := hide hlm
          replace hact := hide hact
          replace hA := hide hA
          clear C11 hb5 hb6 hb46 hb05 P4 hM hb04 hvq hvt' hqn htn' hvm
          generalize w4.heap.size = c at *
          subst hvte
          replace hxm := hide hxm
          replace hxe := hide hxe
          go_wp2_with fail
          go_loopw [12] (fun v wr => ∃ (k : Nat), k ≤ qs.length ∧ v = .int .i64 k ∧ Below w6.heap.size w6 wr) (fun v _ => qs.length - (intOf v).toNat)
          case atStart => exact ⟨0, Nat.zero_le _, rfl, Below.refl _ _⟩
          case round =>
            obtain ⟨k, hk, rfl, hB⟩ := hrel
            by_cases hkl : k < qs.length
            · have hlti : (k : Int) < (qs.length : Int) := by omega
              have PW := P6.out.old hB
              have AW := hA.out.old hB
              obtain ⟨b, o1, n1, c1, o2, n2, c2, rfl, hbl, _, _, e0, _⟩ := parts_at PW.ap PW.ow (k := k) (by rw [hql'.out]; exact hkl) hkl
              obtain ⟨bm, hvme, hMp⟩ := AW.bm hkl
              obtain ⟨z, hz, hzr⟩ := AW.still hkl
              injection hvme with hvme
              subst hvme
              have c5 : wr.cell? ⟨c, 5, none⟩ = some (.map (some bm)) := by rw [AW.cp.row.cell]; rfl
              have LK1 := look_part (w := wr.drew) hMp hz true
              have hMp2 := hide (map_alloc hMp (.cells zero42.toArray 42))
              have LK2 := look_part (w := (wr.alloc (.cells zero42.toArray 42)).drew) hMp2.out hz true
              replace hMp := hide hMp
              replace hz := hide hz
              have AWl := AW.cp.row.lt
              clear PW AW
              generalize qs[k].addr = ad at *
              obtain ⟨⟨z1, z2, z3⟩, zp, ⟨z4, z5, z6⟩, zc, zr, zi, zo, zs, zv⟩ := z
              dsimp only at hzr
              subst hzr
              simp only [ZP.arr, if_true] at LK1 LK2
              go_upto_region 24 with fail
              go_region_held3 (fun w' => w'.cell? ⟨c, 5, none⟩ = some (.map (some bm)) ∧ w'.cell? ⟨b, k * 10, none⟩ = some (.string ad)) (first | (with_reducible exact ⟨c5, e0⟩) | go_keep | fail) (fail)
              all_goals
                have BW := hide ((hB.alloc hB.size (.cells #[.slice z1 z2 z3, .int .i64 zp, .slice z4 z5 z6, .bool zc, .bool false, .string zi, .bool zo, .bool zs, .int .i64 zv] 42)).drew)
                clear LK1 LK2 hMp hMp2 hz c5 e0 hB
                go_wp2_with fail
                go_roundw
                case rel => exact ⟨k + 1, by omega, by go_num, BW.out⟩
                case measure => simp [intOf]; omega
            · have e : k = qs.length := by omega
              subst e
              obtain ⟨w7, hw7⟩ : ∃ x, x = wr := ⟨_, rfl⟩
              subst hw7
              have P7 := hide (P6.out.old hB)
              have A7 := hide (hA.out.old hB)
              have hM7 := hide (map_below hM6.out hB)
              have hb07 : Below w.heap.size w w7 := hb06.trans (hB.mono hb06.size)
              clear P6 hA hM6 hb06 hB
              have c5 : w7.cell? ⟨c, 5, none⟩ = some (.map om) := by rw [A7.out.cp.row.cell]; rfl
              have c9 : w7.cell? ⟨c, 9, none⟩ = some (.slice xa xn xc) := by rw [A7.out.cp.row.cell]; rfl
              have LN1 := run_len_any (T := 44) Tryd.underlying44 A7.out.cp.parts
              have LN2 := run_len (P := Tryd.prog) Tryd.underlying33 hM7.out
              rw [hlm.out] at LN1
              rw [mapV_length] at LN2
              have hale := actP_le (fun _ => true) qs qs.length
              have hxI : (xn : Int) = (ts.length : Int) + (actP (fun _ => true) qs qs.length : Int) := by rw [hxe.out]; omega
              have hwr : IntKind.i64.wrap ((ts.length : Int) + (actP (fun _ => true) qs qs.length : Int)) = (ts.length : Int) + (actP (fun _ => true) qs qs.length : Int) := by rw [IntKind.wrap_i64]; omega
              obtain ⟨i42, hi42, hz0, hz1, hz2⟩ := info_parts Tryd.info42
              go_wp2_with (at_make; refine wpList_make_flat ZP.cellsL 9 ZP.lenL (by decide) ZP.zero rfl (.tmp 139) (.tmp 139) 51 rfl 42 i42 _ Tryd.underlying51 hi42 hz0 hz1 rfl _ _ _ _ qs.length rfl rfl rfl rfl (by rw [hz2]; omega) (by unfold maxLen; omega) ?_)
              intro w8 hrow8 hb8
              clear LN1 LN2 hwr hxI hi42 hz0 hz1 hz2 c5 c9
              obtain ⟨snap, hsl, hsnap⟩ : ∃ s : List ZP, s.length = qs.length ∧ ∀ k (h : k < qs.length) (h' : k < s.length), lookG (cM (gSeq ss) (keys vis) m) qs[k].addr = some s[k] := by
                refine ⟨qs.map fun q => (lookG (cM (gSeq ss) (keys vis) m) q.addr).getD ZP.zero, by simp, fun k h h' => ?_⟩
                obtain ⟨z, hz, _⟩ := A7.out.still h
                simp [hz]
              replace hsl := hide hsl
              replace hsnap := hide hsnap
              have hR0 : RowAt w8 w7.heap.size 42 ((upF ZP.zero snap 0).flatMap ZP.cellsL) := by rw [upF_zero, hsl.out]; exact hrow8
              clear hrow8
              replace hR0 := hide hR0
              go_wp2_with fail
              go_loopw [16] (fun v wr => ∃ (k : Nat), k ≤ qs.length ∧ v = .int .i64 k ∧ RowAt wr w7.heap.size 42 ((upF ZP.zero snap k).flatMap ZP.cellsL) ∧ Below w7.heap.size w7 wr) (fun v _ => qs.length - (intOf v).toNat)
              case atStart => exact ⟨0, Nat.zero_le _, rfl, hR0.out, hb8⟩
              case round =>
                clear hR0 hb8
                obtain ⟨k, hk, rfl, hR, hB⟩ := hrel
                by_cases hkl : k < qs.length
                · have hlti : (k : Int) < (qs.length : Int) := by omega
                  have hks : k < snap.length := by rw [hsl.out]; exact hkl
                  have PW := P7.out.old hB
                  have AW := A7.out.old hB
                  obtain ⟨b, o1, n1, c1, o2, n2, c2, rfl, hbl, _, _, e0, _⟩ := parts_at PW.ap PW.ow (k := k) (by rw [hql'.out]; exact hkl) hkl
                  obtain ⟨bm, hvme, hMp⟩ := AW.bm hkl
                  have hz := hsnap.out k hkl hks
                  have HU := hide (upF_succ ZP.zero snap k hks)
                  injection hvme with hvme
                  subst hvme
                  have c5 : wr.cell? ⟨c, 5, none⟩ = some (.map (some bm)) := by rw [AW.cp.row.cell]; rfl
                  have hcb := A7.out.cp.row.lt
                  have hbb : b < w7.heap.size := by
                    rcases P7.out.ap with ⟨h, _⟩ | ⟨g, h, hrr⟩
                    · cases h
                    · injection h with h; injection h with h; injection h with h
                      subst h; exact hrr.lt
                  have LK1 := look_part (w := wr.drew) hMp hz false
                  replace hMp := hide hMp
                  replace hz := hide hz
                  generalize hsk : snap[k] = z at *
                  replace hsk := hide hsk
                  clear PW AW
                  generalize qs[k].addr = ad at *
                  obtain ⟨⟨z1, z2, z3⟩, zp, ⟨z4, z5, z6⟩, zc, zr, zi, zo, zs, zv⟩ := z
                  simp only [ZP.arr, Bool.false_eq_true, if_false] at LK1
                  have hfl : ∀ j, j < 9 → wr.cell? ⟨w7.heap.size, k * 9 + j, none⟩ = zero42[j]? := by
                    intro j hj
                    have hul : k < (upF ZP.zero snap k).length := by rw [upF_length _ _ _ (by omega)]; exact hks
                    rw [hR.cell, flat_get ZP.cellsL 9 ZP.lenL (upF ZP.zero snap k) k hul j hj, upF_at ZP.zero snap k hks hul]
                    rfl
                  have d0 : wr.cell? ⟨w7.heap.size, k * 9, none⟩ = some (.slice none 0 0) := hfl 0 (by omega)
                  have d1 : wr.cell? ⟨w7.heap.size, k * 9 + 1, none⟩ = some (.int .i64 0) := hfl 1 (by omega)
                  have d2 : wr.cell? ⟨w7.heap.size, k * 9 + 2, none⟩ = some (.slice none 0 0) := hfl 2 (by omega)
                  have d3 : wr.cell? ⟨w7.heap.size, k * 9 + 3, none⟩ = some (.bool false) := hfl 3 (by omega)
                  have d4 : wr.cell? ⟨w7.heap.size, k * 9 + 4, none⟩ = some (.bool false) := hfl 4 (by omega)
                  have d5 : wr.cell? ⟨w7.heap.size, k * 9 + 5, none⟩ = some (.string ⟨#[]⟩) := hfl 5 (by omega)
                  have d6 : wr.cell? ⟨w7.heap.size, k * 9 + 6, none⟩ = some (.bool false) := hfl 6 (by omega)
                  have d7 : wr.cell? ⟨w7.heap.size, k * 9 + 7, none⟩ = some (.bool false) := hfl 7 (by omega)
                  have d8 : wr.cell? ⟨w7.heap.size, k * 9 + 8, none⟩ = some (.int .i64 0) := hfl 8 (by omega)
                  have f0 := hR.frozen (k * 9)
                  have f1 := hR.frozen (k * 9 + 1)
                  have f2 := hR.frozen (k * 9 + 2)
                  have f3 := hR.frozen (k * 9 + 3)
                  have f4 := hR.frozen (k * 9 + 4)
                  have f5 := hR.frozen (k * 9 + 5)
                  have f6 := hR.frozen (k * 9 + 6)
                  have f7 := hR.frozen (k * 9 + 7)
                  have f8 := hR.frozen (k * 9 + 8)
                  have K9 := (kept9o wr w7.heap.size (k * 9) (.slice z1 z2 z3) (.int .i64 zp) (.slice z4 z5 z6) (.bool zc) (.bool zr) (.string zi) (.bool zo) (.bool zs) (.int .i64 zv)).drew
                  have R9 := hide (row9o hR (k * 9) (.slice z1 z2 z3) (.int .i64 zp) (.slice z4 z5 z6) (.bool zc) (.bool zr) (.string zi) (.bool zo) (.bool zs) (.int .i64 zv)).dr
                  have KS := hide (And.intro (K9.cell c5 (by simp; omega)) (K9.cell e0 (by simp; omega)))
                  have B9 := hide (hB.trans (K9.toBelow (B := w7.heap.size) hB.size (by simp)))
                  have c5d : wr.drew.cell? ⟨c, 5, none⟩ = some (.map (some bm)) := c5
                  have e0d : wr.drew.cell? ⟨b, k * 10, none⟩ = some (.string ad) := e0
                  clear hfl K9 hR
                  go_upto_region 33 with fail
                  go_region_held3 (fun w' => w'.cell? ⟨c, 5, none⟩ = some (.map (some bm)) ∧ w'.cell? ⟨b, k * 10, none⟩ = some (.string ad)) (first | (with_reducible exact ⟨c5d, e0d⟩) | (with_reducible exact KS.out) | fail) (fail)
                  clear LK1 KS c5 c5d e0 e0d d0 d1 d2 d3 d4 d5 d6 d7 d8 f0 f1 f2 f3 f4 f5 f6 f7 f8 hMp hz
                  go_wp2_with fail
                  go_roundw
                  case rel =>
                    refine ⟨k + 1, by omega, by go_num, ?_, B9.out⟩
                    have hul : k < (upF ZP.zero snap k).length := by rw [upF_length _ _ _ (by omega)]; exact hks
                    have e := flat_set ZP.cellsL 9 ZP.lenL (upF ZP.zero snap k) k hul snap[k]
                    rw [hsk.out] at e
                    rw [HU.out] at e
                    rw [← e]
                    exact R9.out
                  case measure => simp [intOf]; omega
                · have e : k = qs.length := by omega
                  subst e
                  rw [← hsl.out, upF_full] at hR
                  obtain ⟨w9, hw9⟩ : ∃ x, x = wr := ⟨_, rfl⟩
                  subst hw9
                  have P9 := hide (P7.out.old hB)
                  have A9 := hide (A7.out.old hB)
                  have hM9 := hide (map_below hM7.out hB)
                  have hb09 : Below w.heap.size w w9 := hb07.trans (hB.mono hb07.size)
                  have hR9 := hide hR
                  clear P7 A7 hM7 hb07 hB hR
                  generalize w7.heap.size = gs at *
                  have hnk : IntKind.i64.wrap ((qs.length : Int) + (ss.length : Int)) = ((qs.length + ss.length : Nat) : Int) := by rw [IntKind.wrap_i64]; omega
                  obtain ⟨i3, hi3, hi30, hi31, hi32⟩ := info_parts Tryd.info3
                  go_wp2_with (at_make; refine wpList_make_row rfl (.tmp 165) (.tmp 165) 52 rfl 3 i3 _ Tryd.underlying52 hi3 hi30 hi31 rfl _ _ _ _ (qs.length + ss.length) rfl rfl (by first | rfl | omega) (by first | rfl | omega) (by rw [hi32]; omega) (by unfold maxLen; omega) ?_)
                  intro w10 hr10 hb10
                  have hs10 := hr10.lt
                  obtain ⟨i4, hi4, hi40, hi41, hi42⟩ := info_parts Tryd.info4
                  go_wp2_with (at_make; refine wpList_make_row rfl (.tmp 167) (.tmp 167) 53 rfl 4 i4 _ Tryd.underlying53 hi4 hi40 hi41 rfl _ _ _ _ (qs.length + ss.length) rfl rfl (by first | rfl | omega) (by first | rfl | omega) (by rw [hi42]; omega) (by unfold maxLen; omega) ?_)
                  intro w11 hr11 hb11
                  have hb911 : Below w9.heap.size w9 w11 := hb10.trans (hb11.mono hb10.size)
                  have hg12 : w9.heap.size < w10.heap.size := hs10
                  have hr10' := hide (hr10.below hb11 hr10.lt)
                  replace hr11 := hide hr11
                  clear hi3 hi30 hi31 hi32 hi4 hi40 hi41 hi42 hr10 hb10 hb11 hnk hs10
                  have hg2 := hr11.out.lt
                  generalize hg2e : w10.heap.size = g2 at *
                  clear hg2e
                  have hU1 : Hid (RowAt w11 w9.heap.size 3 (upV (wasV l' qs ss) (.int .i64 0) 0)) := by
                    rw [upV_zero, wasV_length]; exact hr10'.out
                  have hU2 : Hid (RowAt w11 g2 4 (upV (hadV l' qs ss) (.bool false) 0)) := by
                    rw [upV_zero, hadV_length]; exact hr11.out
                  clear hr10' hr11
                  go_wp2_with fail
                  go_loopw [20] (fun v wr => ∃ (k : Nat), k ≤ qs.length + ss.length ∧ v = .int .i64 k ∧ RowAt wr w9.heap.size 3 (upV (wasV l' qs ss) (.int .i64 0) k) ∧ RowAt wr g2 4 (upV (hadV l' qs ss) (.bool false) k) ∧ Below w9.heap.size w9 wr) (fun v _ => qs.length + ss.length - (intOf v).toNat)
                  case atStart => exact ⟨0, Nat.zero_le _, rfl, hU1.out, hU2.out, hb911⟩
                  case round =>
                    clear hU1 hU2 hb911 hg2
                    obtain ⟨k, hk, rfl, hR1, hR2, hB⟩ := hrel
                    by_cases hkl : k < qs.length + ss.length
                    · have hlti : (k : Int) < ((qs.length + ss.length : Nat) : Int) := by omega
                      have hka : k < (kAll qs ss).length := by rw [kAll_length]; exact hkl
                      have PW := P9.out.old hB
                      have AW := A9.out.old hB
                      have c6 : wr.cell? ⟨c, 6, none⟩ = some (.map oq) := by rw [AW.cp.row.cell]; rfl
                      have C16 := seqKey_any ps' qs ss pa sa pc sc wr.drew PW.ap PW.ow PW.as_ hql'.out k hka bq b1
                      have LK1 := look_seq (w := wr.drew) AW.cp.seq ((kAll qs ss)[k])
                      have HU1 := hide (upV_succ (wasV l' qs ss) (.int .i64 0) k (by rw [wasV_length]; exact hkl))
                      have HU2 := hide (upV_succ (hadV l' qs ss) (.bool false) k (by rw [hadV_length]; exact hkl))
                      have HW1 := hide (wasV_at l' qs ss k hka (by rw [wasV_length]; exact hkl))
                      have HW2 := hide (hadV_at l' qs ss k hka (by rw [hadV_length]; exact hkl))
                      have d1 : wr.cell? ⟨w9.heap.size, k, none⟩ = some (.int .i64 0) := by rw [hR1.cell]; exact upV_at _ _ k (by rw [wasV_length]; exact hkl)
                      have f1 := hR1.frozen k
                      clear PW AW
                      generalize (kAll qs ss)[k] = ad at *
                      generalize (lookG l' ad).getD 0 = nn at *
                      generalize (lookG l' ad).isSome = bb at *
                      have hgg : w9.heap.size ≠ g2 := by omega
                      have hR2' := hR2.setOther ⟨w9.heap.size, k, none⟩ (.int .i64 nn) hgg.symm
                      have hR1' := hide (((hR1.set k (.int .i64 nn)).setOther ⟨g2, k, none⟩ (.bool bb) hgg).dr)
                      have hR2'' := hide ((hR2'.set k (.bool bb)).dr)
                      have d2 : (wr.setCell ⟨w9.heap.size, k, none⟩ (.int .i64 nn)).cell? ⟨g2, k, none⟩ = some (.bool false) := by rw [hR2'.cell]; exact upV_at _ _ k (by rw [hadV_length]; exact hkl)
                      have f2 := hR2'.frozen k
                      have BB := hide (((hB.setCell (p := ⟨w9.heap.size, k, none⟩) (Nat.le_refl _) (.int .i64 nn)).setCell (p := ⟨g2, k, none⟩) (Nat.le_of_lt hg12) (.bool bb)).drew)
                      clear hR1 hR2 hR2' hB
                      have c6d : wr.drew.cell? ⟨c, 6, none⟩ = some (.map oq) := c6
                      go_upto_region 40 with fail
                      go_region_held3 (fun w' => w'.cell? ⟨c, 6, none⟩ = some (.map oq)) (first | (with_reducible exact c6d) | fail) ((go_at_call 16; refine C16.mono ?_; rintro e w' ⟨rfl, hw⟩; obtain rfl := hw.symm; clear hw))
                      clear C16 LK1 c6 c6d
                      go_wp2_with fail
                      go_roundw
                      case rel =>
                        refine ⟨k + 1, by omega, by go_num, ?_, ?_, BB.out⟩
                        · rw [← HU1.out, HW1.out]; exact hR1'.out
                        · rw [← HU2.out, HW2.out]; exact hR2''.out
                      case measure => simp [intOf]; omega
                    · have e : k = qs.length + ss.length := by omega
                      subst e
                      have hlti : ¬ ((qs.length : Int) + (ss.length : Int) < (qs.length : Int) + (ss.length : Int)) := by omega
                      rw [show qs.length + ss.length = (wasV l' qs ss).length from (wasV_length _ _ _).symm, upV_full] at hR1
                      rw [show qs.length + ss.length = (hadV l' qs ss).length from (hadV_length _ _ _).symm, upV_full] at hR2
                      obtain ⟨w12, hw12⟩ : ∃ x, x = wr := ⟨_, rfl⟩
                      subst hw12
                      have P12 := hide (P9.out.old hB)
                      have A12 := hide (A9.out.old hB)
                      have hM12 := hide (map_below hM9.out hB)
                      have hb12 : Below w.heap.size w w12 := hb09.trans (hB.mono hb09.size)
                      have hS12 := hide (hR9.out.below hB hR9.out.lt)
                      replace hR1 := hide hR1
                      replace hR2 := hide hR2
                      clear P9 A9 hM9 hb09 hR9 hB hg12
                      generalize w9.heap.size = g1 at *
                      have c6 : w12.cell? ⟨c, 6, none⟩ = some (.map oq) := by rw [A12.out.cp.row.cell]; rfl
                      have c9 : w12.cell? ⟨c, 9, none⟩ = some (.slice xa xn xc) := by rw [A12.out.cp.row.cell]; rfl
                      have LN3 := run_len_any (T := 33) Tryd.underlying33 A12.out.cp.seq
                      have heq := run_eql_mapnil (P := Tryd.prog) 33 9 3 Tryd.underlying33
                      have hvl : vis.length ≤ 131072 := by rw [← hact.out]; exact Nat.le_trans (actP_le _ _ _) bq
                      have C9 := cloneS_any (.slice xa xn xc) (ts ++ vis.map pidZ) w12 A12.out.cp.taken.sIn (by simp; omega)
                      go_wp2_with fail
                      refine C9.mono ?_
                      rintro e w13 ⟨v9, rfl, hT13, hnil13, hb13⟩
                      obtain ⟨ya, yc, hye, hyn⟩ := hT13.form
                      rw [hxm.out] at hye
                      subst hye
                      have hP13 := P12.out.old hb13
                      have hA13 := A12.out.old hb13
                      have hb013 : Below w.heap.size w w13 := hb12.trans (hb13.mono hb12.size)
                      have C11 := eleven_again c (.map om) (.map oq) (.slice xa xn xc) m qs ss ts vis l' w13 hA13 (fun w' hb => A.out.hT w' (hb013.trans (hb.mono hBc))) hqa.out A.out.hp bq b2
                      replace hT13 := hide hT13
                      replace hP13 := hide hP13
                      replace hA13 := hide hA13
                      have hM13 := hide (map_below hM12.out hb13)
                      have hS13 := hide (hS12.out.below hb13 hS12.out.lt)
                      have hR113 := hide (hR1.out.below hb13 hR1.out.lt)
                      have hR213 := hide (hR2.out.below hb13 hR2.out.lt)
                      clear C9 P12 A12 hM12 hb12 hS12 hR1 hR2 hb13 c6 c9 LN3
                      go_wp2_with fail
                      refine C11.mono ?_
                      rintro e w14 ⟨rfl, hb14⟩
                      have P14 := hide (hP13.out.old hb14)
                      have A14 := hide (hA13.out.old hb14)
                      have M14 := hide (map_below hM13.out hb14)
                      have S14 := hide (hS13.out.below hb14 hS13.out.lt)
                      have R1 := hide (hR113.out.below hb14 hR113.out.lt)
                      have R2 := hide (hR213.out.below hb14 hR213.out.lt)
                      have T14 := hide (hT13.out.kept ((Kept.refl w13 []).below hb14) (by simp))
                      have hb014 : Below w.heap.size w w14 := hb013.trans (hb14.mono hb013.size)
                      clear C11 hP13 hA13 hM13 hS13 hR113 hR213 hT13 hb013 hb14
                      have c5 : w14.cell? ⟨c, 5, none⟩ = some (.map om) := by rw [A14.out.cp.row.cell]; rfl
                      have LN1 := run_len_any (T := 44) Tryd.underlying44 A14.out.cp.parts
                      have LN2 := run_len (P := Tryd.prog) Tryd.underlying33 M14.out
                      rw [hlm.out] at LN1
                      rw [mapV_length] at LN2
                      go_wp2_with fail
                      go_loopw [26] (fun v wr => ∃ (k : Nat), k ≤ qs.length ∧ v = .int .i64 k ∧ Below w14.heap.size w14 wr) (fun v _ => qs.length - (intOf v).toNat)
                      case atStart => exact ⟨0, Nat.zero_le _, rfl, Below.refl _ _⟩
                      case round =>
                        clear c5 LN1 LN2
                        obtain ⟨k, hk, rfl, hB⟩ := hrel
                        by_cases hkl : k < qs.length
                        · have hlti : (k : Int) < (qs.length : Int) := by omega
                          have hks : k < snap.length := by rw [hsl.out]; exact hkl
                          have PW := P14.out.old hB
                          have AW := A14.out.old hB
                          have SW := S14.out.below hB S14.out.lt
                          obtain ⟨b, o1, n1, c1, o2, n2, c2, rfl, hbl, _, _, e0, _⟩ := parts_at PW.ap PW.ow (k := k) (by rw [hql'.out]; exact hkl) hkl
                          obtain ⟨bm, hvme, hMp⟩ := AW.bm hkl
                          have hz := hsnap.out k hkl hks
                          obtain ⟨q', hq', hOZ⟩ := AW.cp.own.back hz
                          injection hvme with hvme
                          subst hvme
                          have c5 : wr.cell? ⟨c, 5, none⟩ = some (.map (some bm)) := by rw [AW.cp.row.cell]; rfl
                          have LK1 := look_part (w := wr.drew) hMp hz true
                          have hMp2 := hide (map_alloc hMp (.cells zero42.toArray 42))
                          have LK2 := look_part (w := (wr.alloc (.cells zero42.toArray 42)).drew) hMp2.out hz true
                          have hsc : ∀ j, j < 9 → wr.cell? ⟨gs, k * 9 + j, none⟩ = (snap[k].cellsL)[j]? := by
                            intro j hj
                            rw [SW.cell, flat_get ZP.cellsL 9 ZP.lenL snap k hks j hj]
                          have hI1 := hOZ.2.1.inB
                          have hI2 := hOZ.2.2.inB
                          have hgs := SW.lt
                          replace hMp := hide hMp
                          replace hz := hide hz
                          generalize snap[k] = z at *
                          clear PW AW SW hOZ hq'
                          generalize qs[k].addr = ad at *
                          obtain ⟨⟨z1, z2, z3⟩, zp, ⟨z4, z5, z6⟩, zc, zr, zi, zo, zs, zv⟩ := z
                          simp only [ZP.arr, if_true] at LK1 LK2
                          replace hsc := hide hsc
                          replace hI1 := hide hI1
                          replace hI2 := hide hI2
                          go_upto_region 52 with fail
                          go_region_held3 (fun w' => w'.cell? ⟨c, 5, none⟩ = some (.map (some bm)) ∧ w'.cell? ⟨b, k * 10, none⟩ = some (.string ad)) (first | (with_reducible exact ⟨c5, e0⟩) | go_keep | fail) (fail)
                          all_goals
                            have BW := hide ((hB.alloc hB.size (.cells #[.slice z1 z2 z3, .int .i64 zp, .slice z4 z5 z6, .bool zc, .bool zr, .string zi, .bool zo, .bool zs, .int .i64 zv] 42)).drew)
                            have Bwr := hide (((Below.refl wr.heap.size wr).alloc (Nat.le_refl _) (.cells #[.slice z1 z2 z3, .int .i64 zp, .slice z4 z5 z6, .bool zc, .bool zr, .string zi, .bool zo, .bool zs, .int .i64 zv] 42)).drew)
                            have QR := hide ((row_new wr 42 [.slice z1 z2 z3, .int .i64 zp, .slice z4 z5 z6, .bool zc, .bool zr, .string zi, .bool zo, .bool zs, .int .i64 zv]).dr)
                            clear LK1 LK2 hMp hMp2 hz c5 e0 hB
                            go_upto_region 53 with fail
                            generalize hwq : (wr.alloc (.cells #[.slice z1 z2 z3, .int .i64 zp, .slice z4 z5 z6, .bool zc, .bool zr, .string zi, .bool zo, .bool zs, .int .i64 zv] 42)).drew = wq at *
                            replace hwq := hide hwq
                            have q0 : wq.drew.cell? ⟨wr.heap.size, 0, none⟩ = some (.slice z1 z2 z3) := (QR.out.cell 0).trans rfl
                            have q1 : wq.drew.cell? ⟨wr.heap.size, 1, none⟩ = some (.int .i64 zp) := (QR.out.cell 1).trans rfl
                            have q2 : wq.drew.cell? ⟨wr.heap.size, 2, none⟩ = some (.slice z4 z5 z6) := (QR.out.cell 2).trans rfl
                            have q3 : wq.drew.cell? ⟨wr.heap.size, 3, none⟩ = some (.bool zc) := (QR.out.cell 3).trans rfl
                            have q4 : wq.drew.cell? ⟨wr.heap.size, 4, none⟩ = some (.bool zr) := (QR.out.cell 4).trans rfl
                            have q5 : wq.drew.cell? ⟨wr.heap.size, 5, none⟩ = some (.string zi) := (QR.out.cell 5).trans rfl
                            have q6 : wq.drew.cell? ⟨wr.heap.size, 6, none⟩ = some (.bool zo) := (QR.out.cell 6).trans rfl
                            have q7 : wq.drew.cell? ⟨wr.heap.size, 7, none⟩ = some (.bool zs) := (QR.out.cell 7).trans rfl
                            have q8 : wq.drew.cell? ⟨wr.heap.size, 8, none⟩ = some (.int .i64 zv) := (QR.out.cell 8).trans rfl
                            have s0 : wq.drew.cell? ⟨gs, k * 9, none⟩ = some (.slice z1 z2 z3) := (Bwr.out.cell (p := ⟨gs, k * 9, none⟩) hgs).trans (hsc.out 0 (by omega))
                            have s1 : wq.drew.cell? ⟨gs, k * 9 + 1, none⟩ = some (.int .i64 zp) := (Bwr.out.cell (p := ⟨gs, k * 9 + 1, none⟩) hgs).trans (hsc.out 1 (by omega))
                            have s2 : wq.drew.cell? ⟨gs, k * 9 + 2, none⟩ = some (.slice z4 z5 z6) := (Bwr.out.cell (p := ⟨gs, k * 9 + 2, none⟩) hgs).trans (hsc.out 2 (by omega))
                            have s3 : wq.drew.cell? ⟨gs, k * 9 + 3, none⟩ = some (.bool zc) := (Bwr.out.cell (p := ⟨gs, k * 9 + 3, none⟩) hgs).trans (hsc.out 3 (by omega))
                            have s4 : wq.drew.cell? ⟨gs, k * 9 + 4, none⟩ = some (.bool zr) := (Bwr.out.cell (p := ⟨gs, k * 9 + 4, none⟩) hgs).trans (hsc.out 4 (by omega))
                            have s5 : wq.drew.cell? ⟨gs, k * 9 + 5, none⟩ = some (.string zi) := (Bwr.out.cell (p := ⟨gs, k * 9 + 5, none⟩) hgs).trans (hsc.out 5 (by omega))
                            have s6 : wq.drew.cell? ⟨gs, k * 9 + 6, none⟩ = some (.bool zo) := (Bwr.out.cell (p := ⟨gs, k * 9 + 6, none⟩) hgs).trans (hsc.out 6 (by omega))
                            have s7 : wq.drew.cell? ⟨gs, k * 9 + 7, none⟩ = some (.bool zs) := (Bwr.out.cell (p := ⟨gs, k * 9 + 7, none⟩) hgs).trans (hsc.out 7 (by omega))
                            have s8 : wq.drew.cell? ⟨gs, k * 9 + 8, none⟩ = some (.int .i64 zv) := (Bwr.out.cell (p := ⟨gs, k * 9 + 8, none⟩) hgs).trans (hsc.out 8 (by omega))
                            have SS : Hid (wq.drew.cell? ⟨wr.heap.size, 0, none⟩ = some (.slice z1 z2 z3) ∧ wq.drew.cell? ⟨wr.heap.size, 1, none⟩ = some (.int .i64 zp) ∧ wq.drew.cell? ⟨wr.heap.size, 2, none⟩ = some (.slice z4 z5 z6) ∧ wq.drew.cell? ⟨wr.heap.size, 3, none⟩ = some (.bool zc) ∧ wq.drew.cell? ⟨wr.heap.size, 4, none⟩ = some (.bool zr) ∧ wq.drew.cell? ⟨wr.heap.size, 5, none⟩ = some (.string zi) ∧ wq.drew.cell? ⟨wr.heap.size, 6, none⟩ = some (.bool zo) ∧ wq.drew.cell? ⟨wr.heap.size, 7, none⟩ = some (.bool zs) ∧ wq.drew.cell? ⟨wr.heap.size, 8, none⟩ = some (.int .i64 zv) ∧ wq.drew.cell? ⟨gs, k * 9, none⟩ = some (.slice z1 z2 z3) ∧ wq.drew.cell? ⟨gs, k * 9 + 1, none⟩ = some (.int .i64 zp) ∧ wq.drew.cell? ⟨gs, k * 9 + 2, none⟩ = some (.slice z4 z5 z6) ∧ wq.drew.cell? ⟨gs, k * 9 + 3, none⟩ = some (.bool zc) ∧ wq.drew.cell? ⟨gs, k * 9 + 4, none⟩ = some (.bool zr) ∧ wq.drew.cell? ⟨gs, k * 9 + 5, none⟩ = some (.string zi) ∧ wq.drew.cell? ⟨gs, k * 9 + 6, none⟩ = some (.bool zo) ∧ wq.drew.cell? ⟨gs, k * 9 + 7, none⟩ = some (.bool zs) ∧ wq.drew.cell? ⟨gs, k * 9 + 8, none⟩ = some (.int .i64 zv)) := ⟨q0, q1, q2, q3, q4, q5, q6, q7, q8, s0, s1, s2, s3, s4, s5, s6, s7, s8⟩
                            have C12 : Calls Tryd.prog 12 #[.agg #[.slice z1 z2 z3, .int .i64 zp, .slice z4 z5 z6, .bool zc, .bool zr, .string zi, .bool zo, .bool zs, .int .i64 zv], .agg #[.slice z1 z2 z3, .int .i64 zp, .slice z4 z5 z6, .bool zc, .bool zr, .string zi, .bool zo, .bool zs, .int .i64 zv]] wq.drew fun e w' => e = .returned (.bool true) ∧ Below wq.drew.heap.size wq.drew w' := partEq_any ⟨⟨z1, z2, z3⟩, zp, ⟨z4, z5, z6⟩, zc, zr, zi, zo, zs, zv⟩ ⟨⟨z1, z2, z3⟩, zp, ⟨z4, z5, z6⟩, zc, zr, zi, zo, zs, zv⟩ _ _ wq.drew (hI1.out.old Bwr.out.drew) (hI1.out.old Bwr.out.drew) (hI2.out.old Bwr.out.drew) (hI2.out.old Bwr.out.drew) rfl
                            go_region_held3 (fun w' => w'.cell? ⟨wr.heap.size, 0, none⟩ = some (.slice z1 z2 z3) ∧ w'.cell? ⟨wr.heap.size, 1, none⟩ = some (.int .i64 zp) ∧ w'.cell? ⟨wr.heap.size, 2, none⟩ = some (.slice z4 z5 z6) ∧ w'.cell? ⟨wr.heap.size, 3, none⟩ = some (.bool zc) ∧ w'.cell? ⟨wr.heap.size, 4, none⟩ = some (.bool zr) ∧ w'.cell? ⟨wr.heap.size, 5, none⟩ = some (.string zi) ∧ w'.cell? ⟨wr.heap.size, 6, none⟩ = some (.bool zo) ∧ w'.cell? ⟨wr.heap.size, 7, none⟩ = some (.bool zs) ∧ w'.cell? ⟨wr.heap.size, 8, none⟩ = some (.int .i64 zv) ∧ w'.cell? ⟨gs, k * 9, none⟩ = some (.slice z1 z2 z3) ∧ w'.cell? ⟨gs, k * 9 + 1, none⟩ = some (.int .i64 zp) ∧ w'.cell? ⟨gs, k * 9 + 2, none⟩ = some (.slice z4 z5 z6) ∧ w'.cell? ⟨gs, k * 9 + 3, none⟩ = some (.bool zc) ∧ w'.cell? ⟨gs, k * 9 + 4, none⟩ = some (.bool zr) ∧ w'.cell? ⟨gs, k * 9 + 5, none⟩ = some (.string zi) ∧ w'.cell? ⟨gs, k * 9 + 6, none⟩ = some (.bool zo) ∧ w'.cell? ⟨gs, k * 9 + 7, none⟩ = some (.bool zs) ∧ w'.cell? ⟨gs, k * 9 + 8, none⟩ = some (.int .i64 zv)) (first | (with_reducible exact SS.out) | (with_reducible exact SB.out) | fail) ((go_at_call 12; refine C12.mono ?_; rintro e w' ⟨rfl, hb12⟩; have SB : Hid (w'.cell? ⟨wr.heap.size, 0, none⟩ = some (.slice z1 z2 z3) ∧ w'.cell? ⟨wr.heap.size, 1, none⟩ = some (.int .i64 zp) ∧ w'.cell? ⟨wr.heap.size, 2, none⟩ = some (.slice z4 z5 z6) ∧ w'.cell? ⟨wr.heap.size, 3, none⟩ = some (.bool zc) ∧ w'.cell? ⟨wr.heap.size, 4, none⟩ = some (.bool zr) ∧ w'.cell? ⟨wr.heap.size, 5, none⟩ = some (.string zi) ∧ w'.cell? ⟨wr.heap.size, 6, none⟩ = some (.bool zo) ∧ w'.cell? ⟨wr.heap.size, 7, none⟩ = some (.bool zs) ∧ w'.cell? ⟨wr.heap.size, 8, none⟩ = some (.int .i64 zv) ∧ w'.cell? ⟨gs, k * 9, none⟩ = some (.slice z1 z2 z3) ∧ w'.cell? ⟨gs, k * 9 + 1, none⟩ = some (.int .i64 zp) ∧ w'.cell? ⟨gs, k * 9 + 2, none⟩ = some (.slice z4 z5 z6) ∧ w'.cell? ⟨gs, k * 9 + 3, none⟩ = some (.bool zc) ∧ w'.cell? ⟨gs, k * 9 + 4, none⟩ = some (.bool zr) ∧ w'.cell? ⟨gs, k * 9 + 5, none⟩ = some (.string zi) ∧ w'.cell? ⟨gs, k * 9 + 6, none⟩ = some (.bool zo) ∧ w'.cell? ⟨gs, k * 9 + 7, none⟩ = some (.bool zs) ∧ w'.cell? ⟨gs, k * 9 + 8, none⟩ = some (.int .i64 zv)) := ⟨keep_below hb12 q0, keep_below hb12 q1, keep_below hb12 q2, keep_below hb12 q3, keep_below hb12 q4, keep_below hb12 q5, keep_below hb12 q6, keep_below hb12 q7, keep_below hb12 q8, keep_below hb12 s0, keep_below hb12 s1, keep_below hb12 s2, keep_below hb12 s3, keep_below hb12 s4, keep_below hb12 s5, keep_below hb12 s6, keep_below hb12 s7, keep_below hb12 s8⟩; have BB := hide (BW.out.trans (((Below.refl _ wq).drew.mono BW.out.size).trans (hb12.mono BW.out.size)))))
                            clear C12 SS BW Bwr QR q0 q1 q2 q3 q4 q5 q6 q7 q8 s0 s1 s2 s3 s4 s5 s6 s7 s8 hI1 hI2 hsc hwq
                            go_wp2_with fail
                            go_roundw
                            case rel => exact ⟨k + 1, by omega, by go_num, BB.out⟩
                            case measure => simp [intOf]; omega
                        · have e : k = qs.length := by omega
                          subst e
                          obtain ⟨w15, hw15⟩ : ∃ x, x = wr := ⟨_, rfl⟩
                          subst hw15
                          have P15 := hide (P14.out.old hB)
                          have A15 := hide (A14.out.old hB)
                          have R115 := hide (R1.out.below hB R1.out.lt)
                          have R215 := hide (R2.out.below hB R2.out.lt)
                          have T15 := hide (T14.out.kept ((Kept.refl w14 []).below hB) (by simp))
                          have hb015 : Below w.heap.size w w15 := hb014.trans (hB.mono hb014.size)
                          clear P14 A14 M14 S14 R1 R2 T14 hb014 hB
                          have c6 : w15.cell? ⟨c, 6, none⟩ = some (.map oq) := by rw [A15.out.cp.row.cell]; rfl
                          have LN3 := run_len_any (T := 33) Tryd.underlying33 A15.out.cp.seq
                          go_wp2_with fail
                          go_loopw [29] (fun v wr => ∃ (k : Nat), k ≤ qs.length + ss.length ∧ v = .int .i64 k ∧ Below w15.heap.size w15 wr) (fun v _ => qs.length + ss.length - (intOf v).toNat)
                          case atStart => exact ⟨0, Nat.zero_le _, rfl, Below.refl _ _⟩
                          case round =>
                            clear c6 LN3
                            obtain ⟨k, hk, rfl, hB⟩ := hrel
                            by_cases hkl : k < qs.length + ss.length
                            · have hlti : (k : Int) < ((qs.length + ss.length : Nat) : Int) := by omega
                              have hka : k < (kAll qs ss).length := by rw [kAll_length]; exact hkl
                              have PW := P15.out.old hB
                              have AW := A15.out.old hB
                              have RW1 := R115.out.below hB R115.out.lt
                              have RW2 := R215.out.below hB R215.out.lt
                              have c6 : wr.cell? ⟨c, 6, none⟩ = some (.map oq) := by rw [AW.cp.row.cell]; rfl
                              have C16 := seqKey_any ps' qs ss pa sa pc sc wr.drew PW.ap PW.ow PW.as_ hql'.out k hka bq b1
                              have LK1 := look_seq (w := wr.drew) AW.cp.seq ((kAll qs ss)[k])
                              have d1 : wr.cell? ⟨g1, k, none⟩ = some (.int .i64 ((lookG l' (kAll qs ss)[k]).getD 0)) := by
                                rw [RW1.cell, List.getElem?_eq_getElem (by rw [wasV_length]; exact hkl), wasV_at l' qs ss k hka]
                              have d2 : wr.cell? ⟨g2, k, none⟩ = some (.bool (lookG l' (kAll qs ss)[k]).isSome) := by
                                rw [RW2.cell, List.getElem?_eq_getElem (by rw [hadV_length]; exact hkl), hadV_at l' qs ss k hka]
                              have BB := hide hB.drew
                              clear PW AW RW1 RW2 hB
                              generalize (kAll qs ss)[k] = ad at *
                              generalize (lookG l' ad).getD 0 = nn at *
                              generalize (lookG l' ad).isSome = bb at *
                              have c6d : wr.drew.cell? ⟨c, 6, none⟩ = some (.map oq) := c6
                              go_upto_region 60 with fail
                              go_region_held3 (fun w' => w'.cell? ⟨c, 6, none⟩ = some (.map oq)) (first | (with_reducible exact c6d) | fail) ((go_at_call 16; refine C16.mono ?_; rintro e w' ⟨rfl, hw⟩; obtain rfl := hw.symm; clear hw))
                              clear C16 LK1 c6 c6d
                              go_wp2_with fail
                              go_roundw
                              case rel => exact ⟨k + 1, by omega, by go_num, BB.out⟩
                              case measure => simp [intOf]; omega
                            · have e : k = qs.length + ss.length := by omega
                              subst e
                              have hlti : ¬ ((qs.length : Int) + (ss.length : Int) < (qs.length : Int) + (ss.length : Int)) := by omega
                              obtain ⟨w16, hw16⟩ : ∃ x, x = wr := ⟨_, rfl⟩
                              subst hw16
                              have A16 := hide (A15.out.old hB)
                              have T16 := hide (T15.out.kept ((Kept.refl w15 []).below hB) (by simp))
                              have hb016 : Below w.heap.size w w16 := hb015.trans (hB.mono hb015.size)
                              clear P15 A15 R115 R215 T15 hb015 hB
                              have c9 : w16.cell? ⟨c, 9, none⟩ = some (.slice xa xn xc) := by rw [A16.out.cp.row.cell]; rfl
                              have heq24 := run_eql_nil (P := Tryd.prog) 24 9 Tryd.underlying24
                              have hxy : xa.isNone = ya.isNone := by
                                have : xa = none ↔ ya = none := (hxn.symm.trans hnil13.symm).trans hyn
                                cases xa <;> cases ya <;> simp at this ⊢
                              go_wp2_with fail
                              have hxb : xn ≤ 262144 := by rw [← hxm.out]; simp; omega
                              clear heq24 hxy heq c9
                              go_loopw [32] (fun v wr => ∃ (k : Nat), k ≤ xn ∧ v = .int .i64 k ∧ Below w16.heap.size w16 wr) (fun v _ => xn - (intOf v).toNat)
                              case atStart => exact ⟨0, Nat.zero_le _, rfl, Below.refl _ _⟩
                              case round =>
                                obtain ⟨k, hk, rfl, hB⟩ := hrel
                                by_cases hkl : k < xn
                                · have hlti : (k : Int) < (xn : Int) := by omega
                                  have AW := A16.out.old hB
                                  have TW := T16.out.kept ((Kept.refl w16 []).below hB) (by simp)
                                  have hkt : k < (ts ++ vis.map pidZ).length := by rw [hxm.out]; exact hkl
                                  obtain ⟨xb, xo, rfl, x0⟩ := sIn_at AW.cp.taken.sIn k hkt
                                  obtain ⟨yb, yo, rfl, y0⟩ := sIn_at TW.sIn k hkt
                                  have c9 : wr.drew.cell? ⟨c, 9, none⟩ = some (.slice (some ⟨xb, xo, none⟩) xn xc) := (AW.cp.row.cell 9).trans rfl
                                  have BB := hide hB.drew
                                  clear AW TW hB
                                  generalize (ts ++ vis.map pidZ)[k] = id at *
                                  have x0d : wr.drew.cell? ⟨xb, xo + k, none⟩ = some (.string id) := x0
                                  have y0d : wr.drew.cell? ⟨yb, yo + k, none⟩ = some (.string id) := y0
                                  go_upto_region 68 with fail
                                  go_region_held3 (fun w' => w'.cell? ⟨c, 9, none⟩ = some (.slice (some ⟨xb, xo, none⟩) xn xc) ∧ w'.cell? ⟨xb, xo + k, none⟩ = some (.string id) ∧ w'.cell? ⟨yb, yo + k, none⟩ = some (.string id)) (first | (with_reducible exact ⟨c9, x0d, y0d⟩) | fail) (fail)
                                  clear c9 x0 y0 x0d y0d
                                  go_wp2_with fail
                                  go_roundw
                                  case rel => exact ⟨k + 1, by omega, by go_num, BB.out⟩
                                  case measure => simp [intOf]; omega
                                · have e : k = xn := by omega
                                  subst e
                                  have BF := hide (hb016.trans (hB.mono hb016.size))
                                  go_wp2_with fail
                                  go_ret
                                  exact ⟨rfl, BF.out⟩
end Go.Proofs.Qxb6604717aDoor
