import Derived.Test.Qxb6604717aDoorFront
namespace Go.Proofs.Qxb6604717aDoor
open Go.ChangeShapes Go.WideShapes Go.ChangeAt Go.RowKit
open Go.ChangeMaps (setBlock)
set_option linter.unusedVariables false

/-- The arguments as they come in. -/
structure Args (w : World) (ps : List RP) (qs : List PQ) (ss : List SE) (ts : List ByteArray) (a0 a1 a2 : Option Addr) (c0 c1 c2 : Nat) : Prop where
  h0 : CellsF RP.cells 10 w a0 ps
  h1 : CellsF SE.cells 2 w a1 ss
  h2 : Cells w a2 (strs ts)
  n0 : a0 = none → ps = [] ∧ c0 = 0
  n1 : a1 = none → ss = [] ∧ c1 = 0
  n2 : a2 = none → ts = [] ∧ c2 = 0
  hq : (∀ p ∈ ps, Sm p) → Inns w ps qs
  hr : ∀ p ∈ ps, Raw p
  hs : ∀ s ∈ ss, s.addr.size ≤ 9223372036854775807
  ht : ∀ t ∈ ts, t.size ≤ 9223372036854775807
  l0 : ps.length ≤ 9223372036854775807
  l1 : ss.length ≤ 9223372036854775807
  l2 : ts.length ≤ 9223372036854775807
  hp : ∀ q ∈ qs, -9223372036854775808 ≤ q.pause ∧ q.pause ≤ 9223372036854775807
  hT : ∀ w', Below w.heap.size w w' → Tab w'


/-- The clones, as the calls have made them. -/
structure Pin (W : World) (vp vs vt : Value) (ps : List RP) (qs : List PQ) (ss : List SE) (ts : List ByteArray) : Prop where
  ap : ArgF RP.cells 36 W vp ps
  ow : Owns W ps qs
  as_ : ArgF SE.cells 38 W vs ss
  at_ : ArgS W vt ts
theorem ArgF.old {α : Type} {f : α → List Value} {e : TypeId} {w w' : World} {v : Value} {xs : List α} (h : ArgF f e w v xs) (hb : Below w.heap.size w w') : ArgF f e w' v xs := by
  rcases h with h | ⟨g, h1, h2⟩
  · exact .inl h
  · exact .inr ⟨g, h1, h2.below hb h2.lt⟩
theorem ArgS.old {w w' : World} {v : Value} {ts : List ByteArray} (h : ArgS w v ts) (hb : Below w.heap.size w w') : ArgS w' v ts := by
  rcases h with h | ⟨g, h1, h2⟩
  · exact .inl h
  · exact .inr ⟨g, h1, h2.below hb h2.lt⟩
theorem Pin.old {W W' : World} {vp vs vt : Value} {ps : List RP} {qs : List PQ} {ss : List SE} {ts : List ByteArray} (h : Pin W vp vs vt ps qs ss ts) (hb : Below W.heap.size W W') : Pin W' vp vs vt ps qs ss ts :=
  ⟨h.ap.old hb, h.ow.k5 (K5.below hb), h.as_.old hb, h.at_.old hb⟩
theorem ArgF.form {α : Type} {f : α → List Value} {e : TypeId} {w : World} {v : Value} {xs : List α} {N : Nat} (hN : ∀ x, (f x).length = N) (h : ArgF f e w v xs) : ∃ a c, v = .slice a xs.length c ∧ (v = .slice none 0 0 ↔ a = none) := by
  rcases h with ⟨h1, h2⟩ | ⟨g, h1, h2⟩
  · exact ⟨none, 0, by rw [h1, h2]; rfl, by simp [h1]⟩
  · exact ⟨_, _, h1, by simp [h1]⟩
theorem ArgS.form {w : World} {v : Value} {ts : List ByteArray} (h : ArgS w v ts) : ∃ a c, v = .slice a ts.length c ∧ (v = .slice none 0 0 ↔ a = none) := by
  rcases h with ⟨h1, h2⟩ | ⟨g, h1, h2⟩
  · exact ⟨none, 0, by rw [h1, h2]; rfl, by simp [h1]⟩
  · exact ⟨_, _, h1, by simp [h1]⟩
theorem ArgF.cellsF {α : Type} {f : α → List Value} {e : TypeId} {w : World} {a : Option Addr} {n c : Nat} {xs : List α} {N : Nat} (hN : ∀ x, (f x).length = N) (h : ArgF f e w (.slice a n c) xs) : CellsF f N w a xs := by
  rcases h with ⟨h1, h2⟩ | ⟨g, h1, h2⟩
  · exact .inl h2
  · injection h1 with h1
    subst h1
    exact h2.cellsF hN
/-- The ten cells of a part. -/
theorem parts_at {w : World} {a : Option Addr} {n c : Nat} {ps : List RP} {qs : List PQ} (h : ArgF RP.cells 36 w (.slice a n c) ps) (ho : Owns w ps qs) {k : Nat} (hk : k < ps.length) (hk' : k < qs.length) :
    ∃ b o1 n1 c1 o2 n2 c2, a = some ⟨b, 0, none⟩ ∧ b < w.heap.size ∧ OwnB w (.slice o1 n1 c1) qs[k].out ∧ OwnB w (.slice o2 n2 c2) qs[k].state ∧
      w.cell? ⟨b, k * 10, none⟩ = some (.string qs[k].addr) ∧ w.cell? ⟨b, k * 10 + 1, none⟩ = some (.slice o1 n1 c1) ∧ w.cell? ⟨b, k * 10 + 2, none⟩ = some (.int .i64 qs[k].pause) ∧ w.cell? ⟨b, k * 10 + 3, none⟩ = some (.slice o2 n2 c2) ∧ w.cell? ⟨b, k * 10 + 4, none⟩ = some (.bool qs[k].comp) ∧ w.cell? ⟨b, k * 10 + 5, none⟩ = some (.bool qs[k].run) ∧ w.cell? ⟨b, k * 10 + 6, none⟩ = some (.string qs[k].ind) ∧ w.cell? ⟨b, k * 10 + 7, none⟩ = some (.bool qs[k].outs) ∧ w.cell? ⟨b, k * 10 + 8, none⟩ = some (.bool qs[k].stop) ∧ w.cell? ⟨b, k * 10 + 9, none⟩ = some (.int .i64 qs[k].ver) := by
  rcases h with ⟨_, h2⟩ | ⟨g, h1, h2⟩
  · subst h2; simp at hk
  · injection h1 with h1
    obtain ⟨vo, vs, he, ho1, ho2⟩ := ho.2 k hk hk'
    obtain ⟨o1, n1, c1, rfl⟩ := ho1.inB.sl
    obtain ⟨o2, n2, c2, rfl⟩ := ho2.inB.sl
    have hc : ∀ j, j < 10 → w.cell? ⟨g, k * 10 + j, none⟩ = ((qs[k].rp (.slice o1 n1 c1) (.slice o2 n2 c2)).cells)[j]? := by
      intro j hj
      rw [h2.cell, flat_get RP.cells 10 RP.len ps k hk j hj, he]
    exact ⟨g, o1, n1, c1, o2, n2, c2, h1, h2.lt, ho1, ho2, hc 0 (by omega), hc 1 (by omega), hc 2 (by omega), hc 3 (by omega), hc 4 (by omega), hc 5 (by omega), hc 6 (by omega), hc 7 (by omega), hc 8 (by omega), hc 9 (by omega)⟩
theorem lkn_at {W : World} {bs : Nat} {l : List (ByteArray × Nat)} {a : ByteArray} {n : Nat} (h : MapAt W bs (mapV nV l)) (hl : lookG l a = some n) : (Instr.lookup 33 (.map (some bs)) (.string a) false).run Tryd.prog W = .ok (.int .i64 n) W := by
  rw [run_look Tryd.underlying33 Tryd.underlying9 Tryd.zeroValue3 h a false]
  simp only [got, look_mapV, hl]
  rfl


/-! ### The checkpoint behind the first call -/
theorem lookG_map {α β : Type} (f : ByteArray → α → β) (l : List (ByteArray × α)) (a : ByteArray) : lookG (l.map fun p => (p.1, f p.1 p.2)) a = (lookG l a).map (f a) := by
  induction l with
  | nil => rfl
  | cons p l ih =>
    show (if p.1 = a then some (f p.1 p.2) else lookG (l.map fun p => (p.1, f p.1 p.2)) a) = (if p.1 = a then some p.2 else lookG l a).map (f a)
    by_cases e : p.1 = a
    · rw [if_pos e, if_pos e, e]; rfl
    · rw [if_neg e, if_neg e, ih]
theorem lookG_cM (l : List (ByteArray × Int)) (ks : List ByteArray) (m : List (ByteArray × ZP)) (a : ByteArray) : lookG (cM l ks m) a = (lookG m a).map fun z => if has ks a then doubtZ l a z else z :=
  lookG_map (fun a z => if has ks a then doubtZ l a z else z) m a
theorem CP.old {w w' : World} {cp : Nat} {vm vq vt : Value} {m : List (ByteArray × ZP)} {g : List (ByteArray × PQ)} {l : List (ByteArray × Int)} {ts : List ByteArray} {B : Nat} (h : CP w cp vm vq vt m g l ts B) (hb : Below w.heap.size w w') : CP w' cp vm vq vt m g l ts B := by
  have k := (Kept.refl w []).below hb
  exact ⟨h.row.kept k (by simp), h.low, h.parts.kept k (by simp), h.own.k5 (K5.below hb), h.seq.kept k (by simp), h.ne, h.taken.kept k (by simp)⟩
structure Aft (W : World) (c : Nat) (vm vq vt : Value) (qs : List PQ) (ss : List SE) (ts : List ByteArray) (vis : List (ByteArray × ZP)) (m0 : List (ByteArray × ZP)) (l' : List (ByteArray × Int)) : Prop where
  cp : CP W c vm vq vt (cM (gSeq ss) (keys vis) m0) (cG (gSeq ss) (keys vis) (gParts qs)) l' (ts ++ vis.map pidZ) c
  own0 : MOwn W m0 (gParts qs)
  nv : (keys vis).Nodup
  mv : ∀ p, p ∈ vis ↔ p ∈ m0 ∧ p.2.run = true
  sl : SeqIs (gSeq ss) vis l'
theorem Aft.old {W W' : World} {c : Nat} {vm vq vt : Value} {qs : List PQ} {ss : List SE} {ts : List ByteArray} {vis : List (ByteArray × ZP)} {m0 : List (ByteArray × ZP)} {l' : List (ByteArray × Int)} (h : Aft W c vm vq vt qs ss ts vis m0 l') (hb : Below W.heap.size W W') : Aft W' c vm vq vt qs ss ts vis m0 l' :=
  ⟨h.cp.old hb, h.own0.k5 (K5.below hb), h.nv, h.mv, h.sl⟩
section
variable {W : World} {c : Nat} {vm vq vt : Value} {qs : List PQ} {ss : List SE} {ts : List ByteArray} {vis : List (ByteArray × ZP)} {m0 : List (ByteArray × ZP)} {l' : List (ByteArray × Int)}
theorem Aft.vk (h : Aft W c vm vq vt qs ss ts vis m0 l') (a : ByteArray) : a ∈ keys vis ↔ ∃ q, lookG (gParts qs) a = some q ∧ q.run = true := vis_keys h.own0 (gParts_nodup qs) h.mv a
theorem Aft.act (h : Aft W c vm vq vt qs ss ts vis m0 l') : actP (fun _ => true) qs qs.length = vis.length := act_all qs vis h.nv h.vk
theorem Aft.m0len (h : Aft W c vm vq vt qs ss ts vis m0 l') : m0.length = (lastAll qs).length := by
  have := congrArg List.length h.own0.keys
  simp only [keys, List.length_map] at this
  rw [this, last_len]
theorem Aft.mlen (h : Aft W c vm vq vt qs ss ts vis m0 l') : (cM (gSeq ss) (keys vis) m0).length = (lastAll qs).length := by rw [cM_length, h.m0len]
/-- The part at an address that is given: what it was, and what it is. -/
theorem Aft.at_ (h : Aft W c vm vq vt qs ss ts vis m0 l') {j : Nat} (hj : j < qs.length) {a : ByteArray} (hl : lookG (lastAll qs) a = some j) :
    ∃ z, OwnZ W z qs[j] ∧ lookG (cM (gSeq ss) (keys vis) m0) a = some (if qs[j].run = true then doubtZ (gSeq ss) a z else z) ∧ (a ∈ keys vis ↔ qs[j].run = true) := by
  have hg : lookG (gParts qs) a = some qs[j] := by rw [parts_all, hl]; simp [hj]
  obtain ⟨z, h1, h2⟩ := h.own0.look hg
  have hk : a ∈ keys vis ↔ qs[j].run = true := by
    rw [h.vk, hg]
    constructor
    · rintro ⟨q, e, hr⟩
      rw [Option.some.inj e]; exact hr
    · intro hr; exact ⟨_, rfl, hr⟩
  refine ⟨z, h2, ?_, hk⟩
  rw [lookG_cM, h1]
  by_cases hr : qs[j].run = true
  · rw [if_pos hr, Option.map_some, if_pos (has_iff.2 (hk.2 hr))]
  · rw [if_neg hr, Option.map_some, if_neg (fun e => hr (hk.1 (has_iff.1 e)))]
theorem Aft.still (h : Aft W c vm vq vt qs ss ts vis m0 l') {k : Nat} (hk : k < qs.length) : ∃ z, lookG (cM (gSeq ss) (keys vis) m0) qs[k].addr = some z ∧ z.run = false := by
  obtain ⟨j, hj⟩ := Option.isSome_iff_exists.1 (last_some qs qs.length (Nat.le_refl _) k hk hk)
  obtain ⟨hlt, _⟩ := last_at qs _ qs.length (Nat.le_refl _) j hj
  obtain ⟨z, h1, h2, _⟩ := h.at_ hlt hj
  refine ⟨_, h2, ?_⟩
  by_cases hr : qs[j].run = true
  · rw [if_pos hr]; rfl
  · rw [if_neg hr, h1.run]; simpa using hr
theorem Aft.bm (h : Aft W c vm vq vt qs ss ts vis m0 l') {k : Nat} (hk : k < qs.length) : ∃ bm, vm = .map (some bm) ∧ MapAt W bm (mapV ZP.val (cM (gSeq ss) (keys vis) m0)) := by
  obtain ⟨z, hz, _⟩ := h.still hk
  rcases h.cp.parts with ⟨_, h2⟩ | ⟨b, h1, h2, h3⟩
  · rw [h2] at hz; cases hz
  · exact ⟨b, h1, h3⟩
theorem wrap64_in (n : Int) : -9223372036854775808 ≤ wrap64 n ∧ wrap64 n ≤ 9223372036854775807 := by
  unfold wrap64
  constructor <;> omega
end
theorem small_parts {w : World} {m : List (ByteArray × ZP)} {qs : List PQ} (h : MOwn w m (gParts qs)) (ha : ∀ q ∈ qs, q.addr.size ≤ 1048576) (hp : ∀ q ∈ qs, -9223372036854775808 ≤ q.pause ∧ q.pause ≤ 9223372036854775807) (p : ByteArray × ZP) (hm : p ∈ m) : p.1.size ≤ 1048576 ∧ -9223372036854775808 ≤ p.2.pause ∧ p.2.pause ≤ 9223372036854775807 := by
  have hnm : (keys m).Nodup := by rw [h.keys]; exact gParts_nodup qs
  obtain ⟨q, h1, h2⟩ := h.back (lookG_of_mem hnm (k := p.1) (v := p.2) hm)
  obtain ⟨h3, h4⟩ := gParts_mem qs (mem_of_lookG h1)
  rw [h2.pause]
  exact ⟨by have := ha q h3; rw [h4] at this; exact this, hp q h3⟩
theorem MOwn.len {w : World} {m : List (ByteArray × ZP)} {g : List (ByteArray × PQ)} (h : MOwn w m g) : m.length = g.length := by
  have := congrArg List.length h.keys
  simpa [Qxb6604717aDoor.keys] using this
/-- The first call. -/
theorem eleven_built (c : Nat) (vm vq vt : Value) (m : List (ByteArray × ZP)) (qs : List PQ) (ss : List SE) (ts : List ByteArray) (w : World) (h : CP w c vm vq vt m (gParts qs) (gSeq ss) ts c)
    (hT : ∀ w', Below c w w' → Tab w') (ha : ∀ q ∈ qs, q.addr.size ≤ 1048576) (hp : ∀ q ∈ qs, -9223372036854775808 ≤ q.pause ∧ q.pause ≤ 9223372036854775807) (l0 : qs.length ≤ 131072) (l2 : ts.length ≤ 131072) :
    Calls Tryd.prog 11 #[.pointer (some ⟨c, 0, none⟩)] w fun e w' => e = .returned (.tuple #[]) ∧ ∃ vis vq' vt' l', Aft w' c vm vq' vt' qs ss ts vis m l' ∧ (vq' = .map none ↔ vq = .map none ∧ vis = []) ∧ (vt' = .slice none 0 0 ↔ vt = .slice none 0 0 ∧ vis = []) ∧ Below c w w' := by
  have hnd : (keys m).Nodup := by rw [h.own.keys]; exact gParts_nodup qs
  have hlen : m.length ≤ 131072 := by rw [h.own.len]; exact Nat.le_trans (gParts_len qs) l0
  refine (eleven_any c vm vq vt m (gParts qs) (gSeq ss) ts c w h hT hnd (small_parts h.own ha hp) (by omega)).mono ?_
  rintro e w' ⟨rfl, vis, vq', vt', l', h1, h2, h3, h4, h5, h6, h7, h8, h9⟩
  exact ⟨rfl, vis, vq', vt', l', ⟨h1, h.own.k5 h3, h5, h6, h7⟩, h8, h9, h2⟩
/-- The second call. -/
theorem eleven_again (c : Nat) (vm vq vt : Value) (m : List (ByteArray × ZP)) (qs : List PQ) (ss : List SE) (ts : List ByteArray) (vis : List (ByteArray × ZP)) (l' : List (ByteArray × Int)) (w : World) (h : Aft w c vm vq vt qs ss ts vis m l')
    (hT : ∀ w', Below c w w' → Tab w') (ha : ∀ q ∈ qs, q.addr.size ≤ 1048576) (hp : ∀ q ∈ qs, -9223372036854775808 ≤ q.pause ∧ q.pause ≤ 9223372036854775807) (l0 : qs.length ≤ 131072) (l2 : ts.length ≤ 131072) :
    Calls Tryd.prog 11 #[.pointer (some ⟨c, 0, none⟩)] w fun e w' => e = .returned (.tuple #[]) ∧ Below w.heap.size w w' := by
  have hnd : (keys (cM (gSeq ss) (keys vis) m)).Nodup := by rw [cM_keys, h.own0.keys]; exact gParts_nodup qs
  have hlen : m.length ≤ 131072 := by rw [h.own0.len]; exact Nat.le_trans (gParts_len qs) l0
  have hvl : vis.length ≤ 131072 := by rw [← h.act]; exact Nat.le_trans (actP_le _ _ _) l0
  have hsz : ∀ p ∈ cM (gSeq ss) (keys vis) m, p.1.size ≤ 1048576 ∧ -9223372036854775808 ≤ p.2.pause ∧ p.2.pause ≤ 9223372036854775807 := by
    intro p hp'
    obtain ⟨p0, h0, rfl⟩ := List.mem_map.1 hp'
    have h1 := small_parts h.own0 ha hp p0 h0
    refine ⟨h1.1, ?_⟩
    show -9223372036854775808 ≤ (if has (keys vis) p0.1 then doubtZ (gSeq ss) p0.1 p0.2 else p0.2).pause ∧ (if has (keys vis) p0.1 then doubtZ (gSeq ss) p0.1 p0.2 else p0.2).pause ≤ 9223372036854775807
    split
    · exact wrap64_in _
    · exact h1.2
  have hno : ∀ p ∈ cM (gSeq ss) (keys vis) m, p.2.run = false := by
    intro p hp'
    obtain ⟨p0, h0, rfl⟩ := List.mem_map.1 hp'
    show (if has (keys vis) p0.1 then doubtZ (gSeq ss) p0.1 p0.2 else p0.2).run = false
    split
    · rfl
    · rename_i hh
      cases hr : p0.2.run with
      | false => rfl
      | true => exact absurd (has_iff.2 (List.mem_map.2 ⟨p0, (h.mv p0).2 ⟨h0, hr⟩, rfl⟩)) hh
  refine (eleven_any c vm vq vt _ _ l' _ c w h.cp hT hnd hsz (by rw [cM_length]; simp; omega)).mono ?_
  rintro e w' ⟨rfl, vis2, vq', vt', l2, h1, h2, h3, h4, h5, h6, h7, h8, h9⟩
  have : vis2 = [] := by
    cases vis2 with
    | nil => rfl
    | cons p v =>
      obtain ⟨hm, hr⟩ := (h6 p).1 (by simp)
      rw [hno p hm] at hr; cases hr
  exact ⟨rfl, h4 this⟩

/-- 'len(m)', whatever the map. -/
theorem run_len_any {α : Type} {f : α → Value} {T K E : TypeId} (hT : Tryd.prog.underlying T = some (.map K E)) {B : Nat} {w : World} {ob : Option Nat} {m : List (ByteArray × α)} (h : MAt f B w (.map ob) m) (ty : TypeId) : (Builtin.len_ #[T] ty #[.map ob]).run Tryd.prog w = .ok (.int .i64 m.length) w := by
  rcases h with ⟨h1, h2⟩ | ⟨b, h1, _, h3⟩
  · injection h1 with h1; subst h1 h2
    exact run_len_nil hT w ty
  · injection h1 with h1; subst h1
    rw [run_len hT h3 ty, mapV_length]
theorem look_seq {B : Nat} {w : World} {ob : Option Nat} {l : List (ByteArray × Int)} (h : MAt iV B w (.map ob) l) (a : ByteArray) : (Instr.lookup 33 (.map ob) (.string a) true).run Tryd.prog w = .ok (.tuple #[.int .i64 ((lookG l a).getD 0), .bool (lookG l a).isSome]) w := by
  rcases h with ⟨h1, h2⟩ | ⟨b, h1, _, h3⟩
  · injection h1 with h1; subst h1 h2
    rw [run_look_nil Tryd.underlying33 Tryd.underlying9 Tryd.zeroValue3 w a true]
    rfl
  · injection h1 with h1; subst h1
    rw [run_look Tryd.underlying33 Tryd.underlying9 Tryd.zeroValue3 h3 a true]
    simp only [got, look_mapV]
    cases lookG l a <;> rfl
theorem look_part {w : World} {b : Nat} {m : List (ByteArray × ZP)} {a : ByteArray} {z : ZP} (h : MapAt w b (mapV ZP.val m)) (hl : lookG m a = some z) (c : Bool) : (Instr.lookup 44 (.map (some b)) (.string a) c).run Tryd.prog w = .ok (if c then .tuple #[.agg z.arr, .bool true] else .agg z.arr) w := by
  rw [run_look Tryd.underlying44 Tryd.underlying9 Tryd.zeroValue42 h a c]
  simp only [got, look_mapV, hl]
  cases c <;> rfl
end Go.Proofs.Qxb6604717aDoor
