import Derived.Test.Qxb6604717aDoorClone
import Derived.Test.Qxb6604717aDoorFlat
import Derived.Deep.MidRow
import Derived.Deep.Cut
namespace Go.Proofs.Qxb6604717aDoor
open Go.ChangeShapes Go.WideShapes Go.ChangeAt Go.RowKit

theorem Tryd.info36 : (Tryd.prog.info? 36).map (fun i => (i.zero, i.size, i.bytes)) = some (some (.agg #[.string ByteArray.empty, .slice none 0 0, .int .i64 0, .slice none 0 0, .bool false, .bool false, .string ByteArray.empty, .bool false, .bool false, .int .i64 0]), 10, 112) := by kernel_rfl
theorem Tryd.info38 : (Tryd.prog.info? 38).map (fun i => (i.zero, i.size, i.bytes)) = some (some (.agg #[.string ByteArray.empty, .int .i64 0]), 2, 24) := by kernel_rfl

/-- A store of a whole struct: the world behind it under a name. -/
theorem wpList_store_any {P : Program} {ops : Array Oper} {rest : List Oper} {op : Oper} {a : Act} {w : World} {Q : Exit → Act → World → Prop} (hgd : op.guard = none) (ty : TypeId) (x y : Operand) (ho : op.op = .store ty x y)
    (b o : Nat) (cells : Array Value) (hx : a.eval x = .pointer (some ⟨b, o, none⟩)) (hy : a.eval y = .agg cells)
    (ht : w.there b o cells.size) (hi : (P.info? ty).map (·.size) = some cells.size) (h1 : cells.all (·.oneCell') = true)
    (h : ∀ w', Hid (w' = w.setCells b o cells.toList) → wpList P ops Q rest (a.put op.dst undef) w') : wpList P ops Q (op :: rest) a w :=
  wpList_store_mid hgd ty x y ho b o cells hx hy ht hi h1 (h _ rfl)

/-! ### Many cells at once -/
theorem RowAt.setCells {g : Nat} {e : TypeId} : ∀ (vs : List Value) (o : Nat) {w : World} {xs : List Value}, RowAt w g e xs → RowAt (w.setCells g o vs) g e (setMany xs o vs)
  | [], _, _, _, h => h
  | v :: vs, o, _, _, h => RowAt.setCells vs (o + 1) (h.set o v)
theorem Kept.setCells {w : World} {S : List Nat} {g : Nat} (hg : May w S g) : ∀ (vs : List Value) (o : Nat) {w1 : World}, Kept w w1 S → Kept w (w1.setCells g o vs) S
  | [], _, _, h => h
  | v :: vs, o, _, h => Kept.setCells hg vs (o + 1) (h.set hg o v)

/-! ### Byte slices -/
def byteCells (l : List UInt8) : List Value := l.map fun c => .int .u8 (c.toNat : Int)
theorem byteCells_length (l : List UInt8) : (byteCells l).length = l.length := by simp [byteCells]
theorem byteCells_sh (l : List UInt8) : ∀ v ∈ byteCells l, ∃ n : Int, v = .int .u8 n := by
  intro v hv
  obtain ⟨c, _, rfl⟩ := List.mem_map.1 hv
  exact ⟨_, rfl⟩
/-- A slice of bytes, wherever it lies. -/
def InB (w : World) (v : Value) (o : Option (List UInt8)) : Prop :=
  (o = none ∧ v = .slice none 0 0) ∨ ∃ a c l, o = some l ∧ v = .slice (some a) l.length c ∧ Cells w (some a) (byteCells l) ∧ l.length ≤ 1048576
/-- A slice of bytes that the call has made. -/
def OwnB (w : World) (v : Value) (o : Option (List UInt8)) : Prop :=
  (o = none ∧ v = .slice none 0 0) ∨ ∃ g l, o = some l ∧ v = .slice (some ⟨g, 0, none⟩) l.length l.length ∧ RowAt w g 5 (byteCells l) ∧ l.length ≤ 1048576
theorem OwnB.inB {w : World} {v : Value} {o : Option (List UInt8)} (h : OwnB w v o) : InB w v o := by
  rcases h with h | ⟨g, l, h1, h2, h3, h4⟩
  · exact .inl h
  · exact .inr ⟨_, _, l, h1, h2, h3.cells, h4⟩
theorem InB.old {w w' : World} {v : Value} {o : Option (List UInt8)} (h : InB w v o) (hb : Below w.heap.size w w') : InB w' v o := by
  rcases h with h | ⟨a, c, l, h1, h2, h3, h4⟩
  · exact .inl h
  · exact .inr ⟨a, c, l, h1, h2, h3.old hb, h4⟩
theorem InB.sl {w : World} {v : Value} {o : Option (List UInt8)} (h : InB w v o) : ∃ a n c, v = .slice a n c := by
  rcases h with ⟨_, rfl⟩ | ⟨a, c, l, _, rfl, _⟩ <;> exact ⟨_, _, _, rfl⟩
/-- None of these blocks is a row of bytes. -/
def No5 (w : World) (S : List Nat) : Prop := ∀ g ∈ S, ∀ xs, ¬ RowAt w g 5 xs
theorem No5.nil (w : World) : No5 w [] := fun _ h => absurd h List.not_mem_nil
theorem No5.row {w : World} {g : Nat} {e : TypeId} {xs : List Value} {S : List Nat} (h : RowAt w g e xs) (he : e ≠ 5) (hS : No5 w S) : No5 w (g :: S) := by
  intro g' hg' ys hy
  rcases List.mem_cons.1 hg' with rfl | hg'
  · exact row_ne_row h hy he rfl
  · exact hS g' hg' ys hy
theorem No5.map {w : World} {g : Nat} {l : AL} {S : List Nat} (h : MapAt w g l) (hS : No5 w S) : No5 w (g :: S) := by
  intro g' hg' ys hy
  rcases List.mem_cons.1 hg' with rfl | hg'
  · exact row_ne_map hy h rfl
  · exact hS g' hg' ys hy
theorem No5.iter {w : World} {g bm n : Nat} {seen : List Nat} {S : List Nat} (h : IterAt w g bm n seen) (hS : No5 w S) : No5 w (g :: S) := by
  intro g' hg' ys hy
  rcases List.mem_cons.1 hg' with rfl | hg'
  · exact row_ne_iter hy h rfl
  · exact hS g' hg' ys hy
theorem OwnB.kept {w w' : World} {v : Value} {o : Option (List UInt8)} {S : List Nat} (h : OwnB w v o) (k : Kept w w' S) (n5 : No5 w S) : OwnB w' v o := by
  rcases h with h | ⟨g, l, h1, h2, h3, h4⟩
  · exact .inl h
  · exact .inr ⟨g, l, h1, h2, h3.kept k (fun hm => n5 g hm _ h3), h4⟩

theorem cloneB_any (v : Value) (o : Option (List UInt8)) (w : World) (h : InB w v o) :
    Calls Tryd.prog 18 #[v] w fun e w' => ∃ v', e = .returned v' ∧ OwnB w' v' o ∧ Below w.heap.size w w' := by
  rcases h with ⟨rfl, rfl⟩ | ⟨a, c, l, rfl, rfl, h3, h4⟩
  · refine (cloneB_nil w).mono ?_
    rintro e w' ⟨rfl, hw⟩
    obtain rfl := hw.symm
    exact ⟨_, rfl, .inl ⟨rfl, rfl⟩, Below.refl _ _⟩
  · have C := cloneB_some (byteCells l) a c w h3 (byteCells_sh l) (by rw [byteCells_length]; exact h4)
    rw [byteCells_length] at C
    refine C.mono ?_
    rintro e w' ⟨rfl, hr, hb⟩
    exact ⟨_, rfl, .inr ⟨_, l, rfl, rfl, hr, h4⟩, hb⟩

/-! ### Parts -/
/-- What a part reads as. -/
structure PQ where
  addr : ByteArray
  out : Option (List UInt8)
  pause : Int
  state : Option (List UInt8)
  comp : Bool
  run : Bool
  ind : ByteArray
  outs : Bool
  stop : Bool
  ver : Int
def PQ.rp (q : PQ) (vo vs : Value) : RP := ⟨q.addr, vo, q.pause, vs, q.comp, q.run, q.ind, q.outs, q.stop, q.ver⟩
def Own (w : World) (p : RP) (q : PQ) : Prop := ∃ vo vs, p = q.rp vo vs ∧ OwnB w vo q.out ∧ OwnB w vs q.state
def Inn (w : World) (p : RP) (q : PQ) : Prop := ∃ vo vs, p = q.rp vo vs ∧ InB w vo q.out ∧ InB w vs q.state
theorem Own.inn {w : World} {p : RP} {q : PQ} (h : Own w p q) : Inn w p q := by
  obtain ⟨vo, vs, h1, h2, h3⟩ := h
  exact ⟨vo, vs, h1, h2.inB, h3.inB⟩
theorem Own.kept {w w' : World} {p : RP} {q : PQ} {S : List Nat} (h : Own w p q) (k : Kept w w' S) (n5 : No5 w S) : Own w' p q := by
  obtain ⟨vo, vs, h1, h2, h3⟩ := h
  exact ⟨vo, vs, h1, h2.kept k n5, h3.kept k n5⟩
theorem Inn.old {w w' : World} {p : RP} {q : PQ} (h : Inn w p q) (hb : Below w.heap.size w w') : Inn w' p q := by
  obtain ⟨vo, vs, h1, h2, h3⟩ := h
  exact ⟨vo, vs, h1, h2.old hb, h3.old hb⟩
def Inns (w : World) (ps : List RP) (qs : List PQ) : Prop := ps.length = qs.length ∧ ∀ k (h : k < ps.length) (h' : k < qs.length), Inn w ps[k] qs[k]
def Owns (w : World) (ps : List RP) (qs : List PQ) : Prop := ps.length = qs.length ∧ ∀ k (h : k < ps.length) (h' : k < qs.length), Own w ps[k] qs[k]
theorem Owns.kept {w w' : World} {ps : List RP} {qs : List PQ} {S : List Nat} (h : Owns w ps qs) (k : Kept w w' S) (n5 : No5 w S) : Owns w' ps qs :=
  ⟨h.1, fun i h1 h2 => (h.2 i h1 h2).kept k n5⟩

set_option maxHeartbeats 2000000 in
theorem cloneParts_some (ps : List RP) (qs : List PQ) (x : Addr) (c : Nat) (w : World) (hc : CellsF RP.cells 10 w (some x) ps) (hq : Inns w ps qs) (hl : ps.length ≤ 131072) :
    Calls Tryd.prog 7 #[.slice (some x) ps.length c] w fun e w' => e = .returned (.slice (some ⟨w.heap.size, 0, none⟩) ps.length ps.length) ∧ (∃ ps', RowAt w' w.heap.size 36 (ps'.flatMap RP.cells) ∧ Owns w' ps' qs) ∧ Below w.heap.size w w' := by
  have hnil := run_eql_nil (P := Tryd.prog) 22 36 Tryd.underlying22
  obtain ⟨i0, hi, hz0, hz1, hz2⟩ := info_parts Tryd.info36
  go_enter Tryd.func7, Tryd.ntmps7
  go_wp2_with (at_make; refine wpList_make_flat RP.cells 10 RP.len (by decide) RP.zero rfl (.tmp 9) (.tmp 9) 22 rfl 36 i0 _ Tryd.underlying22 hi hz0 hz1 rfl _ _ _ _ ps.length rfl rfl rfl rfl (by rw [hz2]; omega) (by unfold maxLen; omega) ?_)
  intro w1 hrow hb
  clear hi hz0 hz1 hz2 hnil
  go_wp2_with fail
  go_loopw [4] (fun v wr => ∃ (k : Nat) (done : List RP), k ≤ ps.length ∧ v = .int .i64 k ∧ done.length = k ∧ RowAt wr w.heap.size 36 ((done ++ List.replicate (ps.length - k) RP.zero).flatMap RP.cells) ∧ (∀ j (h : j < done.length) (h' : j < qs.length), Own wr done[j] qs[j]) ∧ Below w.heap.size w wr) (fun v _ => ps.length - (intOf v).toNat)
  case atStart => exact ⟨0, [], Nat.zero_le _, rfl, rfl, by simpa using hrow, fun j h => absurd h (by simp), hb⟩
  case round =>
    clear hrow hb
    obtain ⟨k, done, hk, rfl, hdl, hrow, hown, hb⟩ := hrel
    by_cases hkl : k < ps.length
    · have hlti : (k : Int) < (ps.length : Int) := by omega
      rcases hc with ha | ⟨ba, oa, hxa, hca⟩
      · subst ha; simp at hkl
      obtain rfl := Option.some.inj hxa
      obtain ⟨vo, vs, hpe, hvo, hvs⟩ := hq.2 k hkl (by rw [← hq.1]; exact hkl)
      generalize hqe : qs[k]'(by rw [← hq.1]; exact hkl) = q at *
      have HQ := hide hqe
      have hcb : ∀ j, j < 10 → wr.cell? ⟨ba, oa + k * 10 + j, none⟩ = ((q.rp vo vs).cells)[j]? := by
        intro j hj
        have h := hca k hkl j hj
        rw [hpe] at h
        have hj' : j < (q.rp vo vs).cells.length := by rw [RP.len]; exact hj
        have hlt : ba < w.heap.size := by
          rw [List.getElem?_eq_getElem hj'] at h
          exact World.block_lt_of_cell? w _ h
        rw [hb.cell (p := ⟨ba, oa + k * 10 + j, none⟩) hlt]; exact h
      have c0 : wr.cell? ⟨ba, oa + k * 10, none⟩ = some (.string q.addr) := hcb 0 (by omega)
      have c1 : wr.cell? ⟨ba, oa + k * 10 + 1, none⟩ = some vo := hcb 1 (by omega)
      have c2 : wr.cell? ⟨ba, oa + k * 10 + 2, none⟩ = some (.int .i64 q.pause) := hcb 2 (by omega)
      have c3 : wr.cell? ⟨ba, oa + k * 10 + 3, none⟩ = some vs := hcb 3 (by omega)
      have c4 : wr.cell? ⟨ba, oa + k * 10 + 4, none⟩ = some (.bool q.comp) := hcb 4 (by omega)
      have c5 : wr.cell? ⟨ba, oa + k * 10 + 5, none⟩ = some (.bool q.run) := hcb 5 (by omega)
      have c6 : wr.cell? ⟨ba, oa + k * 10 + 6, none⟩ = some (.string q.ind) := hcb 6 (by omega)
      have c7 : wr.cell? ⟨ba, oa + k * 10 + 7, none⟩ = some (.bool q.outs) := hcb 7 (by omega)
      have c8 : wr.cell? ⟨ba, oa + k * 10 + 8, none⟩ = some (.bool q.stop) := hcb 8 (by omega)
      have c9 : wr.cell? ⟨ba, oa + k * 10 + 9, none⟩ = some (.int .i64 q.ver) := hcb 9 (by omega)
      clear hcb hca hxa hqe hpe
      obtain ⟨oa1, on1, oc1, rfl⟩ := hvo.sl
      obtain ⟨oa2, on2, oc2, rfl⟩ := hvs.sl
      have hba : ba < wr.heap.size := World.block_lt_of_cell? wr _ c0
      have hgl := hrow.lt
      have hQ1 : RowAt (wr.alloc (.cells #[.string q.addr, .slice oa1 on1 oc1, .int .i64 q.pause, .slice oa2 on2 oc2, .bool q.comp, .bool q.run, .string q.ind, .bool q.outs, .bool q.stop, .int .i64 q.ver] 36)) wr.heap.size 36 [.string q.addr, .slice oa1 on1 oc1, .int .i64 q.pause, .slice oa2 on2 oc2, .bool q.comp, .bool q.run, .string q.ind, .bool q.outs, .bool q.stop, .int .i64 q.ver] := heap_alloc_new wr _
      have hR1 := hrow.alloc (.cells #[.string q.addr, .slice oa1 on1 oc1, .int .i64 q.pause, .slice oa2 on2 oc2, .bool q.comp, .bool q.run, .string q.ind, .bool q.outs, .bool q.stop, .int .i64 q.ver] 36)
      have hk1 := (Kept.refl wr [w.heap.size]).alloc (.cells #[.string q.addr, .slice oa1 on1 oc1, .int .i64 q.pause, .slice oa2 on2 oc2, .bool q.comp, .bool q.run, .string q.ind, .bool q.outs, .bool q.stop, .int .i64 q.ver] 36)
      have d1 : (wr.alloc (.cells #[.string q.addr, .slice oa1 on1 oc1, .int .i64 q.pause, .slice oa2 on2 oc2, .bool q.comp, .bool q.run, .string q.ind, .bool q.outs, .bool q.stop, .int .i64 q.ver] 36)).cell? ⟨ba, oa + k * 10 + 1, none⟩ = some (.slice oa1 on1 oc1) := by
        rw [World.cell?_of_block (w := wr) (Below.heap_alloc wr _ ba hba)]; exact c1
      have d3 : (wr.alloc (.cells #[.string q.addr, .slice oa1 on1 oc1, .int .i64 q.pause, .slice oa2 on2 oc2, .bool q.comp, .bool q.run, .string q.ind, .bool q.outs, .bool q.stop, .int .i64 q.ver] 36)).cell? ⟨ba, oa + k * 10 + 3, none⟩ = some (.slice oa2 on2 oc2) := by
        rw [World.cell?_of_block (w := wr) (Below.heap_alloc wr _ ba hba)]; exact c3
      have hI1 : InB (wr.alloc (.cells #[.string q.addr, .slice oa1 on1 oc1, .int .i64 q.pause, .slice oa2 on2 oc2, .bool q.comp, .bool q.run, .string q.ind, .bool q.outs, .bool q.stop, .int .i64 q.ver] 36)) (.slice oa1 on1 oc1) q.out := hvo.old (hb.alloc (by omega) _)
      have hI2 : InB (wr.alloc (.cells #[.string q.addr, .slice oa1 on1 oc1, .int .i64 q.pause, .slice oa2 on2 oc2, .bool q.comp, .bool q.run, .string q.ind, .bool q.outs, .bool q.stop, .int .i64 q.ver] 36)) (.slice oa2 on2 oc2) q.state := hvs.old (hb.alloc (by omega) _)
      have hbw1 : Below w.heap.size w (wr.alloc (.cells #[.string q.addr, .slice oa1 on1 oc1, .int .i64 q.pause, .slice oa2 on2 oc2, .bool q.comp, .bool q.run, .string q.ind, .bool q.outs, .bool q.stop, .int .i64 q.ver] 36)) := hb.alloc (by omega) _
      have hbB : ba < w.heap.size ∨ w.heap.size ≤ ba := by omega
      have hsz1 : (wr.alloc (.cells #[.string q.addr, .slice oa1 on1 oc1, .int .i64 q.pause, .slice oa2 on2 oc2, .bool q.comp, .bool q.run, .string q.ind, .bool q.outs, .bool q.stop, .int .i64 q.ver] 36)).heap.size = wr.heap.size + 1 := by simp
      go_wp2_with fail
      generalize wr.alloc (.cells #[.string q.addr, .slice oa1 on1 oc1, .int .i64 q.pause, .slice oa2 on2 oc2, .bool q.comp, .bool q.run, .string q.ind, .bool q.outs, .bool q.stop, .int .i64 q.ver] 36) = w1' at *
      clear c0 c1 c2 c3 c4 c5 c6 c7 c8 c9
      refine (cloneB_any _ _ w1' hI1).mono ?_
      rintro e w2 ⟨v1, rfl, ho1, hb2⟩
      have hQ2 := hQ1.below hb2 hQ1.lt
      have hR2 := hR1.below hb2 hR1.lt
      have hk2 := hk1.below hb2
      have f1 := hQ2.frozen 1
      have g1 : w2.cell? ⟨wr.heap.size, 1, none⟩ = some (.slice oa1 on1 oc1) := by rw [hQ2.cell]; rfl
      have hQ3 := hQ2.set 1 v1
      have hne : w.heap.size ≠ wr.heap.size := by omega
      have hR3 := hR2.setOther ⟨wr.heap.size, 1, none⟩ v1 hne
      have hk3 := hk2.set (g := wr.heap.size) (.inr (Nat.le_refl _)) 1 v1
      have ho3 : OwnB (w2.setCell ⟨wr.heap.size, 1, none⟩ v1) v1 q.out := ho1.kept ((Kept.refl w2 [wr.heap.size]).set (g := wr.heap.size) (.inl (by simp)) 1 v1) (No5.row hQ2 (by decide) (No5.nil _))
      have hbw2 : Below w.heap.size w w2 := hbw1.trans (hb2.mono (by omega))
      have hbw3 := hbw2.setCell (p := ⟨wr.heap.size, 1, none⟩) (by show _ ≤ wr.heap.size; omega) v1
      have hI3 := hvs.old hbw3
      have dq3 : w2.cell? ⟨ba, oa + k * 10 + 3, none⟩ = some (.slice oa2 on2 oc2) := by
        rw [hb2.cell (p := ⟨ba, oa + k * 10 + 3, none⟩) (by show ba < w1'.heap.size; omega)]; exact d3
      have hn1 : ¬ ba = wr.heap.size := by omega
      have hn2 : ¬ wr.heap.size = ba := by omega
      obtain ⟨s1, s2, s3, rfl⟩ := ho1.inB.sl
      go_wp2_with fail
      generalize w2.setCell ⟨wr.heap.size, 1, none⟩ (.slice s1 s2 s3) = w3 at *
      refine (cloneB_any _ _ w3 hI3).mono ?_
      rintro e w4 ⟨v2, rfl, ho2, hb4⟩
      have hQ4 := hQ3.below hb4 hQ3.lt
      have hR4 := hR3.below hb4 hR3.lt
      have hk4 := hk3.below hb4
      have ho4 := ho3.kept ((Kept.refl w3 []).below hb4) (No5.nil _)
      have f3 := hQ4.frozen 3
      have g3 : w4.cell? ⟨wr.heap.size, 3, none⟩ = some (.slice oa2 on2 oc2) := by rw [hQ4.cell]; rfl
      have hQ5 := hQ4.set 3 v2
      have hR5 := hR4.setOther ⟨wr.heap.size, 3, none⟩ v2 hne
      have hk5 := hk4.set (g := wr.heap.size) (.inr (Nat.le_refl _)) 3 v2
      have k45 := (Kept.refl w4 [wr.heap.size]).set (g := wr.heap.size) (.inl (by simp)) 3 v2
      have n45 := No5.row hQ4 (by decide) (No5.nil _)
      have ho5 := ho4.kept k45 n45
      have ho6 := ho2.kept k45 n45
      obtain ⟨r1, r2, r3, rfl⟩ := ho2.inB.sl
      go_upto_region 10 with fail
      clear hQ1 hQ2 hQ3 hQ4 hR1 hR2 hR3 hR4 hk1 hk2 hk3 hk4 ho1 ho2 ho3 ho4 hI1 hI2 hI3 hbw1 hbw2 hbw3 hb2 hb4 d1 d3 dq3 f1 g1 hvo hvs
      generalize hw5 : w4.setCell ⟨wr.heap.size, 3, none⟩ (.slice r1 r2 r3) = w5 at *
      have HW := hide hw5
      clear hw5
      have e0 : w5.cell? ⟨wr.heap.size, 0, none⟩ = some (.string q.addr) := by rw [hQ5.cell]; rfl
      have e1 : w5.cell? ⟨wr.heap.size, 1, none⟩ = some (.slice s1 s2 s3) := by rw [hQ5.cell]; rfl
      have e2 : w5.cell? ⟨wr.heap.size, 2, none⟩ = some (.int .i64 q.pause) := by rw [hQ5.cell]; rfl
      have e3 : w5.cell? ⟨wr.heap.size, 3, none⟩ = some (.slice r1 r2 r3) := by rw [hQ5.cell]; rfl
      have e4 : w5.cell? ⟨wr.heap.size, 4, none⟩ = some (.bool q.comp) := by rw [hQ5.cell]; rfl
      have e5 : w5.cell? ⟨wr.heap.size, 5, none⟩ = some (.bool q.run) := by rw [hQ5.cell]; rfl
      have e6 : w5.cell? ⟨wr.heap.size, 6, none⟩ = some (.string q.ind) := by rw [hQ5.cell]; rfl
      have e7 : w5.cell? ⟨wr.heap.size, 7, none⟩ = some (.bool q.outs) := by rw [hQ5.cell]; rfl
      have e8 : w5.cell? ⟨wr.heap.size, 8, none⟩ = some (.bool q.stop) := by rw [hQ5.cell]; rfl
      have e9 : w5.cell? ⟨wr.heap.size, 9, none⟩ = some (.int .i64 q.ver) := by rw [hQ5.cell]; rfl
      have hfl : ((done ++ List.replicate (ps.length - k) RP.zero).flatMap RP.cells).length = ps.length * 10 := by
        rw [flat_length _ _ RP.len]; simp; omega
      have hth : w5.there w.heap.size (k * 10) 10 := fun j hj => ⟨by rw [hR5.cell, List.getElem?_eq_getElem (by rw [hfl]; omega)]; rfl, hR5.frozen _⟩
      have hst : (Tryd.prog.info? 36).map (·.size) = some 10 := by kernel_rfl
      have hoc : (#[.string q.addr, .slice s1 s2 s3, .int .i64 q.pause, .slice r1 r2 r3, .bool q.comp, .bool q.run, .string q.ind, .bool q.outs, .bool q.stop, .int .i64 q.ver] : Array Value).all (·.oneCell') = true := by simp [Value.oneCell']
      have RR := RowAt.setCells (g := w.heap.size) (e := 36) [.string q.addr, .slice s1 s2 s3, .int .i64 q.pause, .slice r1 r2 r3, .bool q.comp, .bool q.run, .string q.ind, .bool q.outs, .bool q.stop, .int .i64 q.ver] (k * 10) hR5
      have KK := Kept.setCells (g := w.heap.size) (.inl (by simp)) [.string q.addr, .slice s1 s2 s3, .int .i64 q.pause, .slice r1 r2 r3, .bool q.comp, .bool q.run, .string q.ind, .bool q.outs, .bool q.stop, .int .i64 q.ver] (k * 10) hk5
      have K56 := Kept.setCells (g := w.heap.size) (.inl (by simp)) [.string q.addr, .slice s1 s2 s3, .int .i64 q.pause, .slice r1 r2 r3, .bool q.comp, .bool q.run, .string q.ind, .bool q.outs, .bool q.stop, .int .i64 q.ver] (k * 10) (Kept.refl w5 [w.heap.size])
      have n56 := No5.row hR5 (by decide) (No5.nil _)
      have O1 := ho5.kept K56 n56
      have O2 := ho6.kept K56 n56
      have n0 := No5.row hrow (by decide) (No5.nil _)
      have OD : ∀ j (h : j < done.length) (h' : j < qs.length), Own (w5.setCells w.heap.size (k * 10) [.string q.addr, .slice s1 s2 s3, .int .i64 q.pause, .slice r1 r2 r3, .bool q.comp, .bool q.run, .string q.ind, .bool q.outs, .bool q.stop, .int .i64 q.ver]) done[j] qs[j] := fun j h h' => (hown j h h').kept KK n0
      have BB := hb.trans (KK.toBelow (B := w.heap.size) (by omega) (by simp))
      replace BB := hide BB
      replace RR := hide RR
      replace O1 := hide O1
      replace O2 := hide O2
      replace OD := hide OD
      replace hth := hide hth
      replace hst := hide hst
      replace hoc := hide hoc
      clear KK hfl hne hba hgl hbB hn1 hn2 hsz1
      clear hR5 hQ5 hk5 ho5 ho6 hown hrow k45 n45 g3 f3 hb K56 n56 n0
      go_wp2_with (refine wpList_store_any rfl 36 (.tmp 38) (.tmp 37) rfl w.heap.size (k * 10) #[.string q.addr, .slice s1 s2 s3, .int .i64 q.pause, .slice r1 r2 r3, .bool q.comp, .bool q.run, .string q.ind, .bool q.outs, .bool q.stop, .int .i64 q.ver] (by rfl) (by rfl) (by exact hth.out) (by exact hst.out) (by exact hoc.out) ?_)
      intro w6 hw6
      have e6 := hw6.out
      replace BB : Hid _ := hide (e6 ▸ BB.out)
      replace RR : Hid _ := hide (e6 ▸ RR.out)
      replace O1 : Hid _ := hide (e6 ▸ O1.out)
      replace O2 : Hid _ := hide (e6 ▸ O2.out)
      replace OD : Hid _ := hide (e6 ▸ OD.out)
      clear e6 hw6
      go_wp2_with fail
      go_roundw
      case rel =>
        refine ⟨k + 1, done ++ [q.rp (.slice s1 s2 s3) (.slice r1 r2 r3)], by omega, by go_num, by simp [hdl], ?_, ?_, BB.out⟩
        · have e := flat_set RP.cells 10 RP.len (done ++ List.replicate (ps.length - k) RP.zero) k (by simp; omega) (q.rp (.slice s1 s2 s3) (.slice r1 r2 r3))
          have e2 : (done ++ List.replicate (ps.length - k) RP.zero).set k (q.rp (.slice s1 s2 s3) (.slice r1 r2 r3)) = done ++ [q.rp (.slice s1 s2 s3) (.slice r1 r2 r3)] ++ List.replicate (ps.length - (k + 1)) RP.zero := by
            rw [List.set_append_right _ _ (by omega), hdl, Nat.sub_self, show ps.length - k = (ps.length - (k + 1)) + 1 by omega, List.replicate_succ, List.set_cons_zero]
            simp
          rw [e2] at e
          rw [← e]
          exact RR.out
        · intro j h h'
          by_cases hj : j < done.length
          · rw [List.getElem_append_left hj]; exact OD.out j hj h'
          · have ej : j = k := by simp at h; omega
            subst ej
            rw [List.getElem_append_right (by omega)]
            have hq' := HQ.out
            simp only [hdl, Nat.sub_self, List.getElem_cons_zero]
            rw [hq']
            exact ⟨_, _, rfl, O1.out, O2.out⟩
      case measure => simp [intOf]; omega
    · have e : k = ps.length := by omega
      subst e
      rw [Nat.sub_self, List.replicate_zero, List.append_nil] at hrow
      go_wp2_with fail
      go_ret
      exact ⟨rfl, ⟨done, hrow, hdl.trans hq.1, fun j h h' => hown j h h'⟩, hb⟩

theorem cloneParts_nil (w : World) :
    Calls Tryd.prog 7 #[.slice none 0 0] w fun e w' => e = .returned (.slice none 0 0) ∧ w' = w := by
  have hnil := run_eql_nil (P := Tryd.prog) 22 36 Tryd.underlying22
  go_enter Tryd.func7, Tryd.ntmps7
  go_wp2
  go_ret
  exact ⟨rfl, rfl⟩
end Go.Proofs.Qxb6604717aDoor
