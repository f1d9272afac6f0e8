import Derived.Test.Qxb6604717aDoorAssoc
import Derived.Carry
namespace Go.Proofs.Qxb6604717aDoor
open Go.ChangeShapes Go.WideShapes Go.ChangeAt Go.RowKit
open Go.ChangeMaps (setBlock)
set_option linter.unusedVariables false

/-- A slice that the call has cloned, N cells an element; or nil. -/
def ArgF {α : Type} (f : α → List Value) (e : TypeId) (w : World) (v : Value) (xs : List α) : Prop :=
  (v = .slice none 0 0 ∧ xs = []) ∨ ∃ g, v = .slice (some ⟨g, 0, none⟩) xs.length xs.length ∧ RowAt w g e (xs.flatMap f)
def ArgS (w : World) (v : Value) (ts : List ByteArray) : Prop :=
  (v = .slice none 0 0 ∧ ts = []) ∨ ∃ g, v = .slice (some ⟨g, 0, none⟩) ts.length ts.length ∧ RowAt w g 9 (strs ts)

/-- A slice of strings, wherever it lies. -/
def SIn (w : World) (v : Value) (ts : List ByteArray) : Prop :=
  (v = .slice none 0 0 ∧ ts = []) ∨ ∃ x c, v = .slice (some x) ts.length c ∧ Cells w (some x) (strs ts)
/-- .. that the call has made. -/
def TAt (B : Nat) (w : World) (v : Value) (ts : List ByteArray) : Prop := w.ownsRow B 9 1 v ts.length (strs ts)
theorem strs_sh (ts : List ByteArray) : ∀ v ∈ strs ts, ∃ s : ByteArray, v = .string s := by
  intro v hv
  obtain ⟨c, _, rfl⟩ := List.mem_map.1 hv
  exact ⟨_, rfl⟩
theorem ArgS.sIn {w : World} {v : Value} {ts : List ByteArray} (h : ArgS w v ts) : SIn w v ts := by
  rcases h with h | ⟨g, h1, h2⟩
  · exact .inl h
  · exact .inr ⟨_, _, h1, h2.cells⟩
theorem TAt.of_row {w : World} {g B : Nat} {ts : List ByteArray} (h : RowAt w g 9 (strs ts)) (hB : B ≤ g) (hl : ts.length ≤ maxLen) : TAt B w (.slice (some ⟨g, 0, none⟩) ts.length ts.length) ts := by
  refine ⟨by rw [strs_length]; omega, .inr ⟨g, ts.length, (strs ts).toArray, rfl, hB, h, Nat.le_refl _, hl, by simp [strs_length], ?_⟩⟩
  simp only [Nat.mul_one]
  rw [← strs_length, List.take_length]
theorem TAt.sIn {w : World} {B : Nat} {v : Value} {ts : List ByteArray} (h : TAt B w v ts) : SIn w v ts := by
  obtain ⟨h0, ⟨h1, h2⟩ | ⟨g, cap, cur, h1, h2, h3, h4, h5, h6, h7⟩⟩ := h
  · exact .inl ⟨h1, List.eq_nil_of_length_eq_zero h2⟩
  · refine .inr ⟨⟨g, 0, none⟩, cap, h1, .inr ⟨g, 0, rfl, fun i hi => ?_⟩⟩
    rw [Nat.zero_add, cell_of_row w g i _ 9 (0, 0) h3]
    have e : (strs ts)[i]? = cur[i]? := by
      rw [← h7, List.getElem?_take_of_lt (by rw [strs_length] at hi; omega)]
      simp
    rw [← e, List.getElem?_eq_getElem hi]
theorem TAt.mono {w : World} {B B' : Nat} {v : Value} {ts : List ByteArray} (h : TAt B w v ts) (hB : B' ≤ B) : TAt B' w v ts := by
  obtain ⟨h0, h | ⟨g, cap, cur, h1, h2, h3⟩⟩ := h
  · exact ⟨h0, .inl h⟩
  · exact ⟨h0, .inr ⟨g, cap, cur, h1, by omega, h3⟩⟩
theorem TAt.kept {w w' : World} {B : Nat} {v : Value} {ts : List ByteArray} {S : List Nat} (h : TAt B w v ts) (k : Kept w w' S) (hn : ∀ g, v.ownBlock = some g → g ∉ S) : TAt B w' v ts := by
  obtain ⟨h0, h | ⟨g, cap, cur, rfl, h2, h3, h4⟩⟩ := h
  · exact ⟨h0, .inl h⟩
  · exact ⟨h0, .inr ⟨g, cap, cur, rfl, h2, by rw [k.block g (Array.getElem?_eq_some_iff.1 h3).1 (hn g rfl)]; exact h3, h4⟩⟩
theorem cloneS_any (v : Value) (ts : List ByteArray) (w : World) (h : SIn w v ts) (hl : ts.length ≤ 1048576) :
    Calls Tryd.prog 9 #[v] w fun e w' => ∃ v', e = .returned v' ∧ TAt w.heap.size w' v' ts ∧ (v' = .slice none 0 0 ↔ v = .slice none 0 0) ∧ Below w.heap.size w w' := by
  rcases h with ⟨rfl, rfl⟩ | ⟨x, c, rfl, h3⟩
  · refine (cloneS_nil w).mono ?_
    rintro e w' ⟨rfl, hw⟩
    obtain rfl := hw.symm
    exact ⟨_, rfl, ⟨rfl, .inl ⟨rfl, rfl⟩⟩, Iff.rfl, Below.refl _ _⟩
  · have C := cloneS_some (strs ts) x c w h3 (strs_sh ts) (by rw [strs_length]; exact hl)
    rw [strs_length] at C
    refine C.mono ?_
    rintro e w' ⟨rfl, hr, hb⟩
    exact ⟨_, rfl, TAt.of_row hr (Nat.le_refl _) (by unfold maxLen; omega), by simp, hb⟩
/-- A checkpoint. -/
structure CP (w : World) (cp : Nat) (vm vq vt : Value) (m : List (ByteArray × ZP)) (g : List (ByteArray × PQ)) (l : List (ByteArray × Int)) (ts : List ByteArray) (B : Nat) : Prop where
  row : RowAt w cp 46 (cpL vm vq vt)
  low : B ≤ cp
  parts : MAt ZP.val B w vm m
  own : MOwn w m g
  seq : MAt iV B w vq l
  ne : ∀ b, vm = .map (some b) → vq ≠ .map (some b)
  taken : TAt B w vt ts
theorem MAt.mono {α : Type} {f : α → Value} {B B' : Nat} {w : World} {v : Value} {m : List (ByteArray × α)} (h : MAt f B w v m) (hB : B' ≤ B) : MAt f B' w v m := by
  rcases h with h | ⟨b, h1, h2, h3⟩
  · exact .inl h
  · exact .inr ⟨b, h1, by omega, h3⟩
theorem MAt.kept {α : Type} {f : α → Value} {B : Nat} {w w' : World} {v : Value} {m : List (ByteArray × α)} {S : List Nat} (h : MAt f B w v m) (k : Kept w w' S) (hn : ∀ b, v = .map (some b) → b ∉ S) : MAt f B w' v m := by
  rcases h with h | ⟨b, h1, h2, h3⟩
  · exact .inl h
  · exact .inr ⟨b, h1, h2, h3.kept k (hn b h1)⟩
theorem MAt.ne_row {α : Type} {f : α → Value} {B : Nat} {w : World} {v : Value} {m : List (ByteArray × α)} {g : Nat} {e : TypeId} {xs : List Value} (h : MAt f B w v m) (r : RowAt w g e xs) : ∀ b, v = .map (some b) → b ∉ [g] := by
  rintro b rfl hm
  rcases h with ⟨h, _⟩ | ⟨b', h1, h2, h3⟩
  · cases h
  · injection h1 with h1
    injection h1 with h1
    subst h1
    simp at hm
    subst hm
    exact row_ne_map r h3 rfl
/-- zzBuild's checkpoint. -/
def RetCP (w' : World) (cp : Nat) (vp vs vt : Value) (g : List (ByteArray × PQ)) (l : List (ByteArray × Int)) (ts : List ByteArray) : Prop :=
  ∃ vm vq vt' m, CP w' cp vm vq vt' m g l ts cp ∧ (vm = .map none ↔ vp = .slice none 0 0) ∧ (vq = .map none ↔ vs = .slice none 0 0) ∧ (vt' = .slice none 0 0 ↔ vt = .slice none 0 0)
theorem ArgF.nil_iff {α : Type} {f : α → List Value} {e : TypeId} {w : World} {a : Option Addr} {n c : Nat} {xs : List α} (h : ArgF f e w (.slice a n c) xs) : a = none ↔ (.slice a n c : Value) = .slice none 0 0 := by
  rcases h with ⟨h, _⟩ | ⟨g, h, _⟩ <;> injection h with h1 h2 h3 <;> subst h1 h2 h3 <;> simp
theorem Kept.cell {w w' : World} {S : List Nat} (k : Kept w w' S) {a : Addr} {v : Value} (h : w.cell? a = some v) (hn : a.block ∉ S) : w'.cell? a = some v := by
  rw [World.cell?_of_block (k.block a.block (World.block_lt_of_cell? w _ h) hn)]; exact h

set_option maxHeartbeats 4000000 in
set_option maxRecDepth 100000 in
theorem build_any (ps : List RP) (qs : List PQ) (ss : List SE) (ts : List ByteArray) (vp vs vt : Value) (w : World) (h0 : ArgF RP.cells 36 w vp ps) (hq : Owns w ps qs) (h1 : ArgF SE.cells 38 w vs ss) (h2 : ArgS w vt ts)
    (l0 : ps.length ≤ 131072) (l1 : ss.length ≤ 131072) (l2 : ts.length ≤ 131072) :
    Calls Tryd.prog 10 #[vp, vs, vt] w fun e w' => e = .returned (.pointer (some ⟨w.heap.size, 0, none⟩)) ∧ RetCP w' w.heap.size vp vs vt (gParts qs) (gSeq ss) ts ∧ Below w.heap.size w w' := by
  have hmm := @run_makeMap Tryd.prog
  have hn22 := run_neq_nil (P := Tryd.prog) 22 36 Tryd.underlying22
  have hn23 := run_neq_nil (P := Tryd.prog) 23 38 Tryd.underlying23
  obtain ⟨pa, pn, pc, hvp⟩ : ∃ a n c, vp = .slice a n c := by rcases h0 with ⟨rfl, _⟩ | ⟨g, rfl, _⟩ <;> exact ⟨_, _, _, rfl⟩
  obtain ⟨sa, sn, sc, hvs⟩ : ∃ a n c, vs = .slice a n c := by rcases h1 with ⟨rfl, _⟩ | ⟨g, rfl, _⟩ <;> exact ⟨_, _, _, rfl⟩
  obtain ⟨ta, tn, tc, hvt⟩ : ∃ a n c, vt = .slice a n c := by rcases h2 with ⟨rfl, _⟩ | ⟨g, rfl, _⟩ <;> exact ⟨_, _, _, rfl⟩
  subst hvp hvs hvt
  have R0 : RowAt (w.alloc (.cells (cpL (.map none) (.map none) (.slice none 0 0)).toArray 46)) w.heap.size 46 (cpL (.map none) (.map none) (.slice none 0 0)) := heap_alloc_new w _
  have B0 : Below w.heap.size w (w.alloc (.cells (cpL (.map none) (.map none) (.slice none 0 0)).toArray 46)) := (Below.refl _ w).alloc (Nat.le_refl _) _
  have S0 : (w.alloc (.cells (cpL (.map none) (.map none) (.slice none 0 0)).toArray 46)).heap.size = w.heap.size + 1 := by simp
  simp only [cpL] at R0 B0 S0
  go_enter Tryd.func10, Tryd.ntmps10
  go_upto_if 14 with fail
  generalize w.alloc _ = w0 at *
  go_cut [8] from 11 to 53 (fun s8 wc => ∃ vm m, RowAt wc w.heap.size 46 (cpL vm (.map none) (.slice none 0 0)) ∧ MAt ZP.val (w.heap.size + 1) wc vm m ∧ MOwn wc m (gParts qs) ∧ (vm = .map none ↔ pa = none) ∧ Below w.heap.size w wc)
  case first =>
    rcases h0 with ⟨he, rfl⟩ | ⟨g, he, hrow⟩
    · injection he with he1 he2 he3
      subst he1 he2 he3
      go_wp2_with fail
      go_meet
      case rel =>
        have : qs = [] := List.eq_nil_of_length_eq_zero (by rw [← hq.1]; rfl)
        subst this
        exact ⟨.map none, [], R0, .inl ⟨rfl, rfl⟩, trivial, by simp, B0⟩
    · injection he with he1 he2 he3
      subst he1 he2 he3
      simp only [Option.isSome_some]
      have d5 : w0.cell? ⟨w.heap.size, 5, none⟩ = some (.map none) := by rw [R0.cell]; rfl
      have f5 := R0.frozen 5
      have d5' : (w0.alloc (.map #[] 0)).cell? ⟨w.heap.size, 5, none⟩ = some (.map none) := by rw [(R0.alloc _).cell]; rfl
      have f5' := (R0.alloc (.map #[] 0)).frozen 5
      have R1 := (R0.set 5 (.map (some (w.heap.size + 1)))).alloc (.map #[] 0)
      have M1 : MapAt ((w0.setCell ⟨w.heap.size, 5, none⟩ (.map (some (w.heap.size + 1)))).alloc (.map #[] 0)) (w.heap.size + 1) (mapV ZP.val []) := by
        have := mapAt_new (w0.setCell ⟨w.heap.size, 5, none⟩ (.map (some (w.heap.size + 1))))
        rw [show (w0.setCell ⟨w.heap.size, 5, none⟩ (.map (some (w.heap.size + 1)))).heap.size = w.heap.size + 1 by simp [World.setCell, S0]] at this
        exact this
      have B1 := (B0.setCell (p := ⟨w.heap.size, 5, none⟩) (Nat.le_refl _) (.map (some (w.heap.size + 1)))).alloc (by simp [World.setCell, S0]) (.map #[] 0)
      go_wp2_with fail
      go_loopw [8] (fun v wr => ∃ (k : Nat) (m : List (ByteArray × ZP)), k ≤ ps.length ∧ v = .int .i64 k ∧ RowAt wr w.heap.size 46 (cpL (.map (some (w.heap.size+1))) (.map none) (.slice none 0 0)) ∧ MapAt wr (w.heap.size+1) (mapV ZP.val m) ∧ MOwn wr m (gParts (qs.take k)) ∧ Below w.heap.size w wr) (fun v _ => ps.length - (intOf v).toNat)
      case atStart => exact ⟨0, [], Nat.zero_le _, rfl, R1, M1, trivial, B1⟩
      case round =>
        clear R1 M1 B1 d5 d5' f5 f5' R0 B0 S0 hmm hn22 hn23
        obtain ⟨k, m, hk, rfl, hcp, hmp, hmo, hb⟩ := hrel
        by_cases hkl : k < ps.length
        · have hlti : (k : Int) < (ps.length : Int) := by omega
          have hkq : k < qs.length := by rw [← hq.1]; exact hkl
          obtain ⟨vo, vs, hpe, hvo, hvs⟩ := hq.2 k hkl hkq
          have HG := hide (gParts_take qs k hkq)
          have hcb : ∀ j, j < 10 → wr.cell? ⟨g, k * 10 + j, none⟩ = ((qs[k].rp vo vs).cells)[j]? := by
            intro j hj
            have h := flat_get RP.cells 10 RP.len ps k hkl j hj
            rw [hpe] at h
            rw [(hrow.below hb hrow.lt).cell, h]
          have hpl : ps[k]'hkl = qs[k].rp vo vs := hpe
          generalize hqe : qs[k] = q at *
          obtain ⟨oa1, on1, oc1, rfl⟩ := hvo.inB.sl
          obtain ⟨oa2, on2, oc2, rfl⟩ := hvs.inB.sl
          have c0 : wr.cell? ⟨g, k * 10, none⟩ = some (.string q.addr) := hcb 0 (by omega)
          have c1 : wr.cell? ⟨g, k * 10 + 1, none⟩ = some (.slice oa1 on1 oc1) := hcb 1 (by omega)
          have c2 : wr.cell? ⟨g, k * 10 + 2, none⟩ = some (.int .i64 q.pause) := hcb 2 (by omega)
          have c3 : wr.cell? ⟨g, k * 10 + 3, none⟩ = some (.slice oa2 on2 oc2) := hcb 3 (by omega)
          have c4 : wr.cell? ⟨g, k * 10 + 4, none⟩ = some (.bool q.comp) := hcb 4 (by omega)
          have c5 : wr.cell? ⟨g, k * 10 + 5, none⟩ = some (.bool q.run) := hcb 5 (by omega)
          have c6 : wr.cell? ⟨g, k * 10 + 6, none⟩ = some (.string q.ind) := hcb 6 (by omega)
          have c7 : wr.cell? ⟨g, k * 10 + 7, none⟩ = some (.bool q.outs) := hcb 7 (by omega)
          have c8 : wr.cell? ⟨g, k * 10 + 8, none⟩ = some (.bool q.stop) := hcb 8 (by omega)
          have c9 : wr.cell? ⟨g, k * 10 + 9, none⟩ = some (.int .i64 q.ver) := hcb 9 (by omega)
          have hvo0 := hvo.inB
          have hvs0 := hvs.inB
          have hgl : g < wr.heap.size := Nat.lt_of_lt_of_le hrow.lt hb.size
          have hgw := hrow.lt
          clear hcb hpe hqe hpl hvo hvs
          have C13 : Calls Tryd.prog 13 #[.agg #[.string q.addr, .slice oa1 on1 oc1, .int .i64 q.pause, .slice oa2 on2 oc2, .bool q.comp, .bool q.run, .string q.ind, .bool q.outs, .bool q.stop, .int .i64 q.ver]] wr fun e w' => e = .returned (.agg #[.slice oa1 on1 oc1, .int .i64 q.pause, .slice oa2 on2 oc2, .bool q.comp, .bool q.run, .string q.ind, .bool q.outs, .bool q.stop, .int .i64 q.ver]) ∧ Below wr.heap.size wr w' := asPart_any (q.rp (.slice oa1 on1 oc1) (.slice oa2 on2 oc2)) ⟨oa1, on1, oc1⟩ ⟨oa2, on2, oc2⟩ rfl rfl wr
          go_wp2_with fail
          refine C13.mono ?_
          rintro e w1 ⟨rfl, hb1⟩
          clear C13
          have hs1 := hb1.size
          have hbw0 : Below w.heap.size w w1 := hb.trans (hb1.mono hb.size)
          have hk0 := (Kept.refl wr []).below hb1
          have hmp1 := hmp.kept hk0 (by simp)
          have hml := hmp1.lt
          have hcp1 := hcp.kept hk0 (by simp)
          have hmo1 := hmo.k5 (K5.below hb1)
          replace c0 := (hb1.cell (p := ⟨g, k * 10, none⟩) hgl).trans c0
          replace c1 := (hb1.cell (p := ⟨g, k * 10 + 1, none⟩) hgl).trans c1
          replace c3 := (hb1.cell (p := ⟨g, k * 10 + 3, none⟩) hgl).trans c3
          clear c2 c4 c5 c6 c7 c8 c9 hmp hcp hmo hb hb1 hk0
          have hg1 : g < w1.heap.size := by omega
          have hQ1 : RowAt (w1.alloc (.cells #[.slice oa1 on1 oc1, .int .i64 q.pause, .slice oa2 on2 oc2, .bool q.comp, .bool q.run, .string q.ind, .bool q.outs, .bool q.stop, .int .i64 q.ver] 42)) w1.heap.size 42 [.slice oa1 on1 oc1, .int .i64 q.pause, .slice oa2 on2 oc2, .bool q.comp, .bool q.run, .string q.ind, .bool q.outs, .bool q.stop, .int .i64 q.ver] := heap_alloc_new w1 _
          have hk1 := (Kept.refl w1 []).alloc (.cells #[.slice oa1 on1 oc1, .int .i64 q.pause, .slice oa2 on2 oc2, .bool q.comp, .bool q.run, .string q.ind, .bool q.outs, .bool q.stop, .int .i64 q.ver] 42)
          have hbw1 := hbw0.alloc hbw0.size (.cells #[.slice oa1 on1 oc1, .int .i64 q.pause, .slice oa2 on2 oc2, .bool q.comp, .bool q.run, .string q.ind, .bool q.outs, .bool q.stop, .int .i64 q.ver] 42)
          have d0 : (w1.alloc (.cells #[.slice oa1 on1 oc1, .int .i64 q.pause, .slice oa2 on2 oc2, .bool q.comp, .bool q.run, .string q.ind, .bool q.outs, .bool q.stop, .int .i64 q.ver] 42)).cell? ⟨g, k * 10, none⟩ = some (.string q.addr) := by rw [World.cell?_of_block (w := w1) (Below.heap_alloc w1 _ g hg1)]; exact c0
          have d1 : (w1.alloc (.cells #[.slice oa1 on1 oc1, .int .i64 q.pause, .slice oa2 on2 oc2, .bool q.comp, .bool q.run, .string q.ind, .bool q.outs, .bool q.stop, .int .i64 q.ver] 42)).cell? ⟨g, k * 10 + 1, none⟩ = some (.slice oa1 on1 oc1) := by rw [World.cell?_of_block (w := w1) (Below.heap_alloc w1 _ g hg1)]; exact c1
          have d3 : (w1.alloc (.cells #[.slice oa1 on1 oc1, .int .i64 q.pause, .slice oa2 on2 oc2, .bool q.comp, .bool q.run, .string q.ind, .bool q.outs, .bool q.stop, .int .i64 q.ver] 42)).cell? ⟨g, k * 10 + 3, none⟩ = some (.slice oa2 on2 oc2) := by rw [World.cell?_of_block (w := w1) (Below.heap_alloc w1 _ g hg1)]; exact c3
          have hI1 := hvo0.old hbw1
          have hsz1 : (w1.alloc (.cells #[.slice oa1 on1 oc1, .int .i64 q.pause, .slice oa2 on2 oc2, .bool q.comp, .bool q.run, .string q.ind, .bool q.outs, .bool q.stop, .int .i64 q.ver] 42)).heap.size = w1.heap.size + 1 := by simp
          have hwl := hbw0.size
          go_wp2_with fail
          generalize (w1.alloc (.cells #[.slice oa1 on1 oc1, .int .i64 q.pause, .slice oa2 on2 oc2, .bool q.comp, .bool q.run, .string q.ind, .bool q.outs, .bool q.stop, .int .i64 q.ver] 42)) = w1' at *
          clear c0 c1 c3
          refine (cloneB_any _ _ w1' hI1).mono ?_
          rintro e w2 ⟨v1, rfl, ho1, hb2⟩
          have hs2 := hb2.size
          have hQ2 := hQ1.below hb2 hQ1.lt
          have hk2 := hk1.below hb2
          have hbw2 : Below w.heap.size w w2 := hbw1.trans (hb2.mono (by omega))
          have dq0 : w2.cell? ⟨g, k * 10, none⟩ = some (.string q.addr) := by
            rw [hb2.cell (p := ⟨g, k * 10, none⟩) (by show g < w1'.heap.size; omega)]; exact d0
          have dq3 : w2.cell? ⟨g, k * 10 + 3, none⟩ = some (.slice oa2 on2 oc2) := by
            rw [hb2.cell (p := ⟨g, k * 10 + 3, none⟩) (by show g < w1'.heap.size; omega)]; exact d3
          have f1 := hQ2.frozen 0
          have g1 : w2.cell? ⟨w1.heap.size, 0, none⟩ = some (.slice oa1 on1 oc1) := by rw [hQ2.cell]; rfl
          have hQ3 := hQ2.set 0 v1
          have hk3 := hk2.set (g := w1.heap.size) (.inr (Nat.le_refl _)) 0 v1
          have ho3 : OwnB (w2.setCell ⟨w1.heap.size, 0, none⟩ v1) v1 q.out := ho1.kept ((Kept.refl w2 [w1.heap.size]).set (g := w1.heap.size) (.inl (by simp)) 0 v1) (No5.row hQ2 (by decide) (No5.nil _))
          have hbw3 := hbw2.setCell (p := ⟨w1.heap.size, 0, none⟩) (by show _ ≤ w1.heap.size; omega) v1
          have hI3 := hvs0.old hbw3
          have hn1 : ¬ g = w1.heap.size := by omega
          have hn2 : ¬ w1.heap.size = g := by omega
          obtain ⟨s1, s2, s3, rfl⟩ := ho1.inB.sl
          have dr0 : (w2.setCell ⟨w1.heap.size, 0, none⟩ (.slice s1 s2 s3)).cell? ⟨g, k * 10, none⟩ = some (.string q.addr) := by
            rw [World.cell?_of_block (w := w2) (Below.heap_setCell _ _ _ _ hn1)]; exact dq0
          go_wp2_with fail
          generalize w2.setCell ⟨w1.heap.size, 0, none⟩ (.slice s1 s2 s3) = w3 at *
          refine (cloneB_any _ _ w3 hI3).mono ?_
          rintro e w4 ⟨v2, rfl, ho2, hb4⟩
          have hQ4 := hQ3.below hb4 hQ3.lt
          have hk4 := hk3.below hb4
          have ho4 := ho3.kept ((Kept.refl w3 []).below hb4) (No5.nil _)
          have hbw4 : Below w.heap.size w w4 := hbw3.trans (hb4.mono hbw3.size)
          have ds0 : w4.cell? ⟨g, k * 10, none⟩ = some (.string q.addr) := by
            rw [hb4.cell (p := ⟨g, k * 10, none⟩) (World.block_lt_of_cell? w3 _ dr0)]; exact dr0
          have f3 := hQ4.frozen 2
          have g3 : w4.cell? ⟨w1.heap.size, 2, none⟩ = some (.slice oa2 on2 oc2) := by rw [hQ4.cell]; rfl
          have hQ5 := hQ4.set 2 v2
          have hk5 := hk4.set (g := w1.heap.size) (.inr (Nat.le_refl _)) 2 v2
          have k45 := (Kept.refl w4 [w1.heap.size]).set (g := w1.heap.size) (.inl (by simp)) 2 v2
          have n45 := No5.row hQ4 (by decide) (No5.nil _)
          have ho5 := ho4.kept k45 n45
          have ho6 := ho2.kept k45 n45
          have hbw5 := hbw4.setCell (p := ⟨w1.heap.size, 2, none⟩) (by show _ ≤ w1.heap.size; omega) v2
          have dt0 : (w4.setCell ⟨w1.heap.size, 2, none⟩ v2).cell? ⟨g, k * 10, none⟩ = some (.string q.addr) := by
            rw [World.cell?_of_block (w := w4) (Below.heap_setCell _ _ _ _ hn1)]; exact ds0
          obtain ⟨r1, r2, r3, rfl⟩ := ho2.inB.sl
          go_upto_region 10 with fail
          clear hQ1 hQ2 hQ3 hQ4 hk1 hk2 hk3 hk4 ho1 ho2 ho3 ho4 hI1 hI3 hbw1 hbw2 hbw3 hbw4 hb2 hb4 d0 d1 d3 dq0 dq3 dr0 ds0 f1 g1 g3 f3 k45 n45
          generalize w4.setCell ⟨w1.heap.size, 2, none⟩ (.slice r1 r2 r3) = w5 at *
          have e0 : w5.cell? ⟨w1.heap.size, 0, none⟩ = some (.slice s1 s2 s3) := by rw [hQ5.cell]; rfl
          have e1 : w5.cell? ⟨w1.heap.size, 1, none⟩ = some (.int .i64 q.pause) := by rw [hQ5.cell]; rfl
          have e2 : w5.cell? ⟨w1.heap.size, 2, none⟩ = some (.slice r1 r2 r3) := by rw [hQ5.cell]; rfl
          have e3 : w5.cell? ⟨w1.heap.size, 3, none⟩ = some (.bool q.comp) := by rw [hQ5.cell]; rfl
          have e4 : w5.cell? ⟨w1.heap.size, 4, none⟩ = some (.bool q.run) := by rw [hQ5.cell]; rfl
          have e5 : w5.cell? ⟨w1.heap.size, 5, none⟩ = some (.string q.ind) := by rw [hQ5.cell]; rfl
          have e6 : w5.cell? ⟨w1.heap.size, 6, none⟩ = some (.bool q.outs) := by rw [hQ5.cell]; rfl
          have e7 : w5.cell? ⟨w1.heap.size, 7, none⟩ = some (.bool q.stop) := by rw [hQ5.cell]; rfl
          have e8 : w5.cell? ⟨w1.heap.size, 8, none⟩ = some (.int .i64 q.ver) := by rw [hQ5.cell]; rfl
          have hcp5 := hcp1.kept hk5 (by simp)
          have hmp5 := hmp1.kept hk5 (by simp)
          have hmo5 := hmo1.k5 (K5.kept hk5 (No5.nil _))
          have e11 : w5.cell? ⟨w.heap.size, 5, none⟩ = some (.map (some (w.heap.size + 1))) := by rw [hcp5.cell]; rfl
          have U := run_put (P := Tryd.prog) Tryd.underlying44 Tryd.underlying9 (w := w5.drew) (r := w.heap.size + 1) (l := mapV ZP.val m) hmp5 q.addr (.agg #[.slice s1 s2 s3, .int .i64 q.pause, .slice r1 r2 r3, .bool q.comp, .bool q.run, .string q.ind, .bool q.outs, .bool q.stop, .int .i64 q.ver])
          have K6 := ((Kept.refl w5 [w.heap.size + 1]).drew).setB (g := w.heap.size + 1) (.inl (by simp)) (.map (ents (put (mapV ZP.val m) q.addr (.agg #[.slice s1 s2 s3, .int .i64 q.pause, .slice r1 r2 r3, .bool q.comp, .bool q.run, .string q.ind, .bool q.outs, .bool q.stop, .int .i64 q.ver]))) (put (mapV ZP.val m) q.addr (.agg #[.slice s1 s2 s3, .int .i64 q.pause, .slice r1 r2 r3, .bool q.comp, .bool q.run, .string q.ind, .bool q.outs, .bool q.stop, .int .i64 q.ver])).length)
          have KS : (setBlock w5.drew (w.heap.size + 1) (.map (ents (put (mapV ZP.val m) q.addr (.agg #[.slice s1 s2 s3, .int .i64 q.pause, .slice r1 r2 r3, .bool q.comp, .bool q.run, .string q.ind, .bool q.outs, .bool q.stop, .int .i64 q.ver]))) (put (mapV ZP.val m) q.addr (.agg #[.slice s1 s2 s3, .int .i64 q.pause, .slice r1 r2 r3, .bool q.comp, .bool q.run, .string q.ind, .bool q.outs, .bool q.stop, .int .i64 q.ver])).length)).cell? ⟨w1.heap.size, 0, none⟩ = some (.slice s1 s2 s3) ∧ (setBlock w5.drew (w.heap.size + 1) (.map (ents (put (mapV ZP.val m) q.addr (.agg #[.slice s1 s2 s3, .int .i64 q.pause, .slice r1 r2 r3, .bool q.comp, .bool q.run, .string q.ind, .bool q.outs, .bool q.stop, .int .i64 q.ver]))) (put (mapV ZP.val m) q.addr (.agg #[.slice s1 s2 s3, .int .i64 q.pause, .slice r1 r2 r3, .bool q.comp, .bool q.run, .string q.ind, .bool q.outs, .bool q.stop, .int .i64 q.ver])).length)).cell? ⟨w1.heap.size, 1, none⟩ = some (.int .i64 q.pause) ∧ (setBlock w5.drew (w.heap.size + 1) (.map (ents (put (mapV ZP.val m) q.addr (.agg #[.slice s1 s2 s3, .int .i64 q.pause, .slice r1 r2 r3, .bool q.comp, .bool q.run, .string q.ind, .bool q.outs, .bool q.stop, .int .i64 q.ver]))) (put (mapV ZP.val m) q.addr (.agg #[.slice s1 s2 s3, .int .i64 q.pause, .slice r1 r2 r3, .bool q.comp, .bool q.run, .string q.ind, .bool q.outs, .bool q.stop, .int .i64 q.ver])).length)).cell? ⟨w1.heap.size, 2, none⟩ = some (.slice r1 r2 r3) ∧ (setBlock w5.drew (w.heap.size + 1) (.map (ents (put (mapV ZP.val m) q.addr (.agg #[.slice s1 s2 s3, .int .i64 q.pause, .slice r1 r2 r3, .bool q.comp, .bool q.run, .string q.ind, .bool q.outs, .bool q.stop, .int .i64 q.ver]))) (put (mapV ZP.val m) q.addr (.agg #[.slice s1 s2 s3, .int .i64 q.pause, .slice r1 r2 r3, .bool q.comp, .bool q.run, .string q.ind, .bool q.outs, .bool q.stop, .int .i64 q.ver])).length)).cell? ⟨w1.heap.size, 3, none⟩ = some (.bool q.comp) ∧ (setBlock w5.drew (w.heap.size + 1) (.map (ents (put (mapV ZP.val m) q.addr (.agg #[.slice s1 s2 s3, .int .i64 q.pause, .slice r1 r2 r3, .bool q.comp, .bool q.run, .string q.ind, .bool q.outs, .bool q.stop, .int .i64 q.ver]))) (put (mapV ZP.val m) q.addr (.agg #[.slice s1 s2 s3, .int .i64 q.pause, .slice r1 r2 r3, .bool q.comp, .bool q.run, .string q.ind, .bool q.outs, .bool q.stop, .int .i64 q.ver])).length)).cell? ⟨w1.heap.size, 4, none⟩ = some (.bool q.run) ∧ (setBlock w5.drew (w.heap.size + 1) (.map (ents (put (mapV ZP.val m) q.addr (.agg #[.slice s1 s2 s3, .int .i64 q.pause, .slice r1 r2 r3, .bool q.comp, .bool q.run, .string q.ind, .bool q.outs, .bool q.stop, .int .i64 q.ver]))) (put (mapV ZP.val m) q.addr (.agg #[.slice s1 s2 s3, .int .i64 q.pause, .slice r1 r2 r3, .bool q.comp, .bool q.run, .string q.ind, .bool q.outs, .bool q.stop, .int .i64 q.ver])).length)).cell? ⟨w1.heap.size, 5, none⟩ = some (.string q.ind) ∧ (setBlock w5.drew (w.heap.size + 1) (.map (ents (put (mapV ZP.val m) q.addr (.agg #[.slice s1 s2 s3, .int .i64 q.pause, .slice r1 r2 r3, .bool q.comp, .bool q.run, .string q.ind, .bool q.outs, .bool q.stop, .int .i64 q.ver]))) (put (mapV ZP.val m) q.addr (.agg #[.slice s1 s2 s3, .int .i64 q.pause, .slice r1 r2 r3, .bool q.comp, .bool q.run, .string q.ind, .bool q.outs, .bool q.stop, .int .i64 q.ver])).length)).cell? ⟨w1.heap.size, 6, none⟩ = some (.bool q.outs) ∧ (setBlock w5.drew (w.heap.size + 1) (.map (ents (put (mapV ZP.val m) q.addr (.agg #[.slice s1 s2 s3, .int .i64 q.pause, .slice r1 r2 r3, .bool q.comp, .bool q.run, .string q.ind, .bool q.outs, .bool q.stop, .int .i64 q.ver]))) (put (mapV ZP.val m) q.addr (.agg #[.slice s1 s2 s3, .int .i64 q.pause, .slice r1 r2 r3, .bool q.comp, .bool q.run, .string q.ind, .bool q.outs, .bool q.stop, .int .i64 q.ver])).length)).cell? ⟨w1.heap.size, 7, none⟩ = some (.bool q.stop) ∧ (setBlock w5.drew (w.heap.size + 1) (.map (ents (put (mapV ZP.val m) q.addr (.agg #[.slice s1 s2 s3, .int .i64 q.pause, .slice r1 r2 r3, .bool q.comp, .bool q.run, .string q.ind, .bool q.outs, .bool q.stop, .int .i64 q.ver]))) (put (mapV ZP.val m) q.addr (.agg #[.slice s1 s2 s3, .int .i64 q.pause, .slice r1 r2 r3, .bool q.comp, .bool q.run, .string q.ind, .bool q.outs, .bool q.stop, .int .i64 q.ver])).length)).cell? ⟨w1.heap.size, 8, none⟩ = some (.int .i64 q.ver) ∧ (setBlock w5.drew (w.heap.size + 1) (.map (ents (put (mapV ZP.val m) q.addr (.agg #[.slice s1 s2 s3, .int .i64 q.pause, .slice r1 r2 r3, .bool q.comp, .bool q.run, .string q.ind, .bool q.outs, .bool q.stop, .int .i64 q.ver]))) (put (mapV ZP.val m) q.addr (.agg #[.slice s1 s2 s3, .int .i64 q.pause, .slice r1 r2 r3, .bool q.comp, .bool q.run, .string q.ind, .bool q.outs, .bool q.stop, .int .i64 q.ver])).length)).cell? ⟨w.heap.size, 5, none⟩ = some (.map (some (w.heap.size + 1))) ∧ (setBlock w5.drew (w.heap.size + 1) (.map (ents (put (mapV ZP.val m) q.addr (.agg #[.slice s1 s2 s3, .int .i64 q.pause, .slice r1 r2 r3, .bool q.comp, .bool q.run, .string q.ind, .bool q.outs, .bool q.stop, .int .i64 q.ver]))) (put (mapV ZP.val m) q.addr (.agg #[.slice s1 s2 s3, .int .i64 q.pause, .slice r1 r2 r3, .bool q.comp, .bool q.run, .string q.ind, .bool q.outs, .bool q.stop, .int .i64 q.ver])).length)).cell? ⟨g, k * 10, none⟩ = some (.string q.addr) := ⟨K6.cell e0 (by simp; omega), K6.cell e1 (by simp; omega), K6.cell e2 (by simp; omega), K6.cell e3 (by simp; omega), K6.cell e4 (by simp; omega), K6.cell e5 (by simp; omega), K6.cell e6 (by simp; omega), K6.cell e7 (by simp; omega), K6.cell e8 (by simp; omega), K6.cell e11 (by simp), K6.cell dt0 (by simp; omega)⟩
          replace KS := hide KS
          clear hcp1 hmp1 hmo1 hk5
          go_region_held3 (fun w' => w'.cell? ⟨w1.heap.size, 0, none⟩ = some (.slice s1 s2 s3) ∧ w'.cell? ⟨w1.heap.size, 1, none⟩ = some (.int .i64 q.pause) ∧ w'.cell? ⟨w1.heap.size, 2, none⟩ = some (.slice r1 r2 r3) ∧ w'.cell? ⟨w1.heap.size, 3, none⟩ = some (.bool q.comp) ∧ w'.cell? ⟨w1.heap.size, 4, none⟩ = some (.bool q.run) ∧ w'.cell? ⟨w1.heap.size, 5, none⟩ = some (.string q.ind) ∧ w'.cell? ⟨w1.heap.size, 6, none⟩ = some (.bool q.outs) ∧ w'.cell? ⟨w1.heap.size, 7, none⟩ = some (.bool q.stop) ∧ w'.cell? ⟨w1.heap.size, 8, none⟩ = some (.int .i64 q.ver) ∧ w'.cell? ⟨w.heap.size, 5, none⟩ = some (.map (some (w.heap.size + 1))) ∧ w'.cell? ⟨g, k * 10, none⟩ = some (.string q.addr)) (first | go_keep | (exact KS.out)) (fail)
          have OZ : OwnZ w5 (zOf q ⟨s1, s2, s3⟩ ⟨r1, r2, r3⟩) q := ⟨rfl, ho5, ho6⟩
          have PM : put (mapV ZP.val m) q.addr (.agg #[.slice s1 s2 s3, .int .i64 q.pause, .slice r1 r2 r3, .bool q.comp, .bool q.run, .string q.ind, .bool q.outs, .bool q.stop, .int .i64 q.ver]) = mapV ZP.val (putG m q.addr (zOf q ⟨s1, s2, s3⟩ ⟨r1, r2, r3⟩)) := put_mapV ZP.val m q.addr (zOf q ⟨s1, s2, s3⟩ ⟨r1, r2, r3⟩)
          have M6 := MapAt.put (w := w5.drew) hmp5 q.addr (.agg #[.slice s1 s2 s3, .int .i64 q.pause, .slice r1 r2 r3, .bool q.comp, .bool q.run, .string q.ind, .bool q.outs, .bool q.stop, .int .i64 q.ver])
          have R6 := hcp5.kept K6 (by simp)
          have O6 := (hmo5.put (k := q.addr) OZ).k5 (K5.kept K6 (No5.map hmp5 (No5.nil _)))
          have B6 := hbw5.trans (K6.toBelow (B := w.heap.size) hbw5.size (by simp))
          replace M6 := hide M6
          replace R6 := hide R6
          replace O6 := hide O6
          replace B6 := hide B6
          replace PM := hide PM
          clear e0 e1 e2 e3 e4 e5 e6 e7 e8 e11 dt0 K6 OZ hmo5 hcp5 hmp5 hbw5 ho5 ho6
          go_wp2_with fail
          go_roundw
          case rel =>
            refine ⟨k + 1, putG m q.addr (zOf q ⟨s1, s2, s3⟩ ⟨r1, r2, r3⟩), by omega, by go_num, R6.out, ?_, ?_, B6.out⟩
            · rw [← PM.out]; exact M6.out
            · rw [HG.out]; exact O6.out
          case measure => simp [intOf]; omega
        · have e : k = ps.length := by omega
          subst e
          have e2 : qs.take ps.length = qs := by rw [hq.1]; simp
          rw [e2] at hmo
          go_wp2_with fail
          go_meet
          case rel => exact ⟨_, m, hcp, .inr ⟨_, rfl, Nat.le_refl _, hmp⟩, hmo, by simp, hb⟩
  case rest =>
    clear R0 B0 S0 w0
    obtain ⟨vm, m, hcp, hmp, hmo, hmn, hb⟩ := hcut
    go_upto_if 55 with fail
    go_cut [10] from 54 to 79 (fun s10 wc2 => ∃ vq, RowAt wc2 w.heap.size 46 (cpL vm vq (.slice none 0 0)) ∧ MAt iV (w.heap.size + 1) wc2 vq (gSeq ss) ∧ (∀ b, vm = .map (some b) → vq ≠ .map (some b)) ∧ Kept wc wc2 [w.heap.size] ∧ (vq = .map none ↔ sa = none))
    case first =>
      rcases h1 with ⟨he, rfl⟩ | ⟨g, he, hrow⟩
      · injection he with he1 he2 he3
        subst he1 he2 he3
        go_wp2_with fail
        go_meet
        case rel => exact ⟨.map none, hcp, .inl ⟨rfl, rfl⟩, fun b _ => by simp, Kept.refl _ _, by simp⟩
      · injection he with he1 he2 he3
        subst he1 he2 he3
        simp only [Option.isSome_some]
        have hcl := hcp.lt
        have d5 : wc.cell? ⟨w.heap.size, 6, none⟩ = some (.map none) := by rw [hcp.cell]; rfl
        have f5 := hcp.frozen 6
        have R1 := (hcp.set 6 (.map (some wc.heap.size))).alloc (.map #[] 0)
        have M1 : MapAt ((wc.setCell ⟨w.heap.size, 6, none⟩ (.map (some wc.heap.size))).alloc (.map #[] 0)) wc.heap.size (mapV iV []) := by
          have := mapAt_new (wc.setCell ⟨w.heap.size, 6, none⟩ (.map (some wc.heap.size)))
          rw [show (wc.setCell ⟨w.heap.size, 6, none⟩ (.map (some wc.heap.size))).heap.size = wc.heap.size by simp [World.setCell]] at this
          exact this
        have B1 := ((Kept.refl wc [w.heap.size]).set (g := w.heap.size) (.inl (by simp)) 6 (.map (some wc.heap.size))).alloc (.map #[] 0)
        go_wp2_with fail
        go_loopw [10] (fun v wr => ∃ (k : Nat), k ≤ ss.length ∧ v = .int .i64 k ∧ RowAt wr w.heap.size 46 (cpL vm (.map (some wc.heap.size)) (.slice none 0 0)) ∧ MapAt wr wc.heap.size (mapV iV (gSeq (ss.take k))) ∧ Kept wc wr [w.heap.size]) (fun v _ => ss.length - (intOf v).toNat)
        case atStart => exact ⟨0, Nat.zero_le _, rfl, R1, M1, B1⟩
        case round =>
          clear R1 M1 B1 d5 f5 hmm hn22 hn23
          obtain ⟨k, hk, rfl, hcpr, hmpr, hkr⟩ := hrel
          by_cases hkl : k < ss.length
          · have hlti : (k : Int) < (ss.length : Int) := by omega
            have HG := hide (gSeq_take ss k hkl)
            have hgw := hrow.lt
            have hrw := (hrow.below hb hgw).kept hkr (by simp; omega)
            have hcb : ∀ j, j < 2 → wr.cell? ⟨g, k * 2 + j, none⟩ = ((ss[k]).cells)[j]? := by
              intro j hj
              rw [hrw.cell, flat_get SE.cells 2 SE.len ss k hkl j hj]
            have c0 : wr.cell? ⟨g, k * 2, none⟩ = some (.string ss[k].addr) := hcb 0 (by omega)
            have c1 : wr.cell? ⟨g, k * 2 + 1, none⟩ = some (.int .i64 ss[k].n) := hcb 1 (by omega)
            have e11 : wr.cell? ⟨w.heap.size, 6, none⟩ = some (.map (some wc.heap.size)) := by rw [hcpr.cell]; rfl
            generalize ss[k].addr = ad at *
            generalize ss[k].n = nn at *
            have hwc := hb.size
            have U := run_put (P := Tryd.prog) Tryd.underlying33 Tryd.underlying9 (w := wr.drew) (r := wc.heap.size) (l := mapV iV (gSeq (ss.take k))) hmpr ad (.int .i64 nn)
            have K6 := ((Kept.refl wr [wc.heap.size]).drew).setB (g := wc.heap.size) (.inl (by simp)) (.map (ents (put (mapV iV (gSeq (ss.take k))) ad (.int .i64 nn))) (put (mapV iV (gSeq (ss.take k))) ad (.int .i64 nn)).length)
            have KS : (setBlock wr.drew wc.heap.size (.map (ents (put (mapV iV (gSeq (ss.take k))) ad (.int .i64 nn))) (put (mapV iV (gSeq (ss.take k))) ad (.int .i64 nn)).length)).cell? ⟨w.heap.size, 6, none⟩ = some (.map (some wc.heap.size)) ∧ (setBlock wr.drew wc.heap.size (.map (ents (put (mapV iV (gSeq (ss.take k))) ad (.int .i64 nn))) (put (mapV iV (gSeq (ss.take k))) ad (.int .i64 nn)).length)).cell? ⟨g, k * 2, none⟩ = some (.string ad) ∧ (setBlock wr.drew wc.heap.size (.map (ents (put (mapV iV (gSeq (ss.take k))) ad (.int .i64 nn))) (put (mapV iV (gSeq (ss.take k))) ad (.int .i64 nn)).length)).cell? ⟨g, k * 2 + 1, none⟩ = some (.int .i64 nn) := ⟨K6.cell e11 (by simp; omega), K6.cell c0 (by simp; omega), K6.cell c1 (by simp; omega)⟩
            replace KS := hide KS
            have PM : put (mapV iV (gSeq (ss.take k))) ad (.int .i64 nn) = mapV iV (putG (gSeq (ss.take k)) ad nn) := put_mapV iV _ ad nn
            have M6 := MapAt.put (w := wr.drew) hmpr ad (.int .i64 nn)
            have R6 := hcpr.kept K6 (by simp; omega)
            have B6 := hkr.trans K6 (fun b hb => .inr (by simp at hb; omega))
            replace M6 := hide M6
            replace R6 := hide R6
            replace B6 := hide B6
            replace PM := hide PM
            replace K6 := hide K6
            clear hcb hrw
            go_upto_region 16 with fail
            go_region_held3 (fun w' => w'.cell? ⟨w.heap.size, 6, none⟩ = some (.map (some wc.heap.size)) ∧ w'.cell? ⟨g, k * 2, none⟩ = some (.string ad) ∧ w'.cell? ⟨g, k * 2 + 1, none⟩ = some (.int .i64 nn)) (first | go_keep | (exact KS.out)) (fail)
            clear U KS K6 e11 c0 c1
            go_wp2_with fail
            go_roundw
            case rel =>
              refine ⟨k + 1, by omega, by go_num, R6.out, ?_, B6.out⟩
              rw [HG.out, ← PM.out]; exact M6.out
            case measure => simp [intOf]; omega
          · have e : k = ss.length := by omega
            subst e
            rw [List.take_length] at hmpr
            have hne : ∀ b, vm = .map (some b) → (.map (some wc.heap.size) : Value) ≠ .map (some b) := by
              rintro b rfl he
              injection he with he
              injection he with he
              rcases hmp with ⟨h, _⟩ | ⟨b', h, _, h3⟩
              · cases h
              · injection h with h
                injection h with h
                have := h3.lt
                omega
            go_wp2_with fail
            go_meet
            case rel => exact ⟨_, hcpr, .inr ⟨_, rfl, hcp.lt, hmpr⟩, hne, hkr, by simp⟩
    case rest =>
      obtain ⟨vq, hcp2, hmq, hne, hk2, hqn⟩ := hcut
      have hb2 := hb.trans (hk2.toBelow (B := w.heap.size) hb.size (by simp))
      have hmp2 := hmp.kept hk2 (hmp.ne_row hcp)
      have hmo2 := hmo.k5 (K5.kept hk2 (No5.row hcp (by decide) (No5.nil _)))
      have hsl := hcp2.lt
      have hIn : SIn wc (.slice ta tn tc) ts := by
        rcases h2 with ⟨h, h'⟩ | ⟨g, h, h'⟩
        · exact .inl ⟨h, h'⟩
        · exact .inr ⟨_, _, h, (h'.below hb2 h'.lt).cells⟩
      have N1 := h0.nil_iff
      have N2 := h1.nil_iff
      clear hcp hmp hmo hk2 hb h2 h0 h1 hmm hn22 hn23
      go_wp2_with fail
      refine (cloneS_any _ ts wc hIn (by omega)).mono ?_
      rintro e w4 ⟨v', rfl, hta, htn, hb4⟩
      have hk4 := (Kept.refl wc []).below hb4
      have hcp4 := hcp2.kept hk4 (by simp)
      have hmp4 := hmp2.kept hk4 (by simp)
      have hmq4 := hmq.kept hk4 (by simp)
      have hmo4 := hmo2.k5 (K5.below hb4)
      have d9 : w4.cell? ⟨w.heap.size, 9, none⟩ = some (.slice none 0 0) := by rw [hcp4.cell]; rfl
      have f9 := hcp4.frozen 9
      have R5 := hcp4.set 9 v'
      have K5' := (Kept.refl w4 [w.heap.size]).set (g := w.heap.size) (.inl (by simp)) 9 v'
      have hb5 := (hb2.trans (hb4.mono (by omega))).trans (K5'.toBelow (B := w.heap.size) (Nat.le_of_lt hcp4.lt) (by simp))
      have hmp5 := hmp4.kept K5' (hmp4.ne_row hcp4)
      have hmq5 := hmq4.kept K5' (hmq4.ne_row hcp4)
      have hmo5 := hmo4.k5 (Qxb6604717aDoor.K5.kept K5' (No5.row hcp4 (by decide) (No5.nil _)))
      have hta5 : TAt wc.heap.size (w4.setCell ⟨w.heap.size, 9, none⟩ v') v' ts := hta.kept K5' (by
        intro b hbv hm
        simp at hm
        subst hm
        obtain ⟨_, ⟨rfl, _⟩ | ⟨g', cap, cur, rfl, h2, h3, _⟩⟩ := hta
        · cases hbv
        · have : g' = w.heap.size := by simpa [Value.ownBlock] using hbv
          omega)
      have RR : RetCP (w4.setCell ⟨w.heap.size, 9, none⟩ v') w.heap.size (.slice pa pn pc) (.slice sa sn sc) (.slice ta tn tc) (gParts qs) (gSeq ss) ts :=
        ⟨vm, vq, v', m, ⟨R5, Nat.le_refl _, hmp5.mono (by omega), hmo5, hmq5.mono (by omega), hne, hta5.mono (by omega)⟩, hmn.trans N1, hqn.trans N2, htn⟩
      obtain ⟨u1, u2, u3, rfl⟩ : ∃ a n c, v' = .slice a n c := by
        obtain ⟨_, ⟨rfl, _⟩ | ⟨g', cap, cur, rfl, _⟩⟩ := hta <;> exact ⟨_, _, _, rfl⟩
      go_wp2_with fail
      go_ret
      exact ⟨rfl, RR, hb5⟩
end Go.Proofs.Qxb6604717aDoor
