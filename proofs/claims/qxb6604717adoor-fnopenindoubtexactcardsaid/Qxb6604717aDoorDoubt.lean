import Derived.Test.Qxb6604717aDoorPlain
import Derived.Deep.RegionWith
namespace Go.Proofs.Qxb6604717aDoor
open Go.ChangeShapes Go.WideShapes Go.ChangeAt Go.RowKit
open Go.ChangeMaps (setBlock)
set_option linter.unusedVariables false
set_option linter.unusedSimpArgs false

theorem keep_below {wx w2 : World} (hb : Below wx.heap.size wx w2) {b o : Nat} {v : Value} (h : wx.cell? ⟨b, o, none⟩ = some v) : w2.cell? ⟨b, o, none⟩ = some v := by
  rw [hb.cell (p := ⟨b, o, none⟩) (World.block_lt_of_cell? wx _ h)]; exact h

/-- What openInDoubt leaves. -/
def RetD (w w' : World) (cp : Nat) (vm vq vt : Value) (m : List (ByteArray × ZP)) (g : List (ByteArray × PQ)) (l : List (ByteArray × Int)) (ts : List ByteArray) (B : Nat) : Prop :=
  ∃ vis vq' vt' l', CP w' cp vm vq' vt' (cM l (keys vis) m) (cG l (keys vis) g) l' (ts ++ vis.map pidZ) B ∧ Below B w w' ∧ K5 w w' ∧ (vis = [] → Below w.heap.size w w') ∧ (keys vis).Nodup ∧ (∀ p, p ∈ vis ↔ p ∈ m ∧ p.2.run = true) ∧ SeqIs l vis l' ∧ (vq' = .map none ↔ vq = .map none ∧ vis = []) ∧ (vt' = .slice none 0 0 ↔ vt = .slice none 0 0 ∧ vis = [])

/-- The memory while openInDoubt runs. -/
structure MemD (w wr : World) (cp r bm B : Nat) (m : List (ByteArray × ZP)) (g : List (ByteArray × PQ)) (seen : List Nat) (mc : List (ByteArray × ZP)) (vq' vt' : Value) (l' : List (ByteArray × Int)) (tx : List ByteArray) : Prop where
  row : RowAt wr cp 46 (cpL (.map (some bm)) vq' vt')
  it : IterAt wr r bm (mapV ZP.val mc).length seen
  mp : MapAt wr bm (mapV ZP.val mc)
  own : MOwn wr m g
  sq : MAt iV B wr vq' l'
  ne : vq' ≠ .map (some bm)
  tk : TAt B wr vt' tx
  bel : Below B w wr
  k5 : K5 w wr
  lcp : B ≤ cp
  lbm : B ≤ bm
  lr : B ≤ r
theorem MAt.ne_iter {α : Type} {f : α → Value} {B : Nat} {w : World} {v : Value} {m : List (ByteArray × α)} {r bm n : Nat} {seen : List Nat} (h : MAt f B w v m) (r' : IterAt w r bm n seen) : ∀ b, v = .map (some b) → b ∉ [r] := by
  rintro b rfl hm
  rcases h with ⟨h, _⟩ | ⟨b', h1, h2, h3⟩
  · cases h
  · injection h1 with h1
    injection h1 with h1
    subst h1
    simp at hm
    subst hm
    exact map_ne_iter h3 r' rfl
theorem MAt.ne_map {α : Type} {f : α → Value} {B : Nat} {w : World} {v : Value} {m : List (ByteArray × α)} {r : Nat} (hne : v ≠ .map (some r)) : ∀ b, v = .map (some b) → b ∉ [r] := by
  rintro b rfl hm
  simp at hm
  subst hm
  exact hne rfl
theorem TAt.row {B : Nat} {w : World} {v : Value} {ts : List ByteArray} (h : TAt B w v ts) {g : Nat} (hg : v.ownBlock = some g) : ∃ xs, RowAt w g 9 xs := by
  obtain ⟨_, ⟨rfl, _⟩ | ⟨g', cap, cur, rfl, _, h3, _⟩⟩ := h
  · cases hg
  · have : g' = g := by simpa [Value.ownBlock] using hg
    subst this
    exact ⟨cur.toList, by simpa [RowAt] using h3⟩
theorem TAt.ne_iter {B : Nat} {w : World} {v : Value} {ts : List ByteArray} {r bm n : Nat} {seen : List Nat} (h : TAt B w v ts) (r' : IterAt w r bm n seen) : ∀ g, v.ownBlock = some g → g ∉ [r] := by
  intro g hg hm
  simp at hm; subst hm
  obtain ⟨xs, hx⟩ := h.row hg
  exact row_ne_iter hx r' rfl
theorem TAt.ne_row {B : Nat} {w : World} {v : Value} {ts : List ByteArray} {r : Nat} {e : TypeId} {ys : List Value} (h : TAt B w v ts) (r' : RowAt w r e ys) (he : e ≠ 9) : ∀ g, v.ownBlock = some g → g ∉ [r] := by
  intro g hg hm
  simp at hm; subst hm
  obtain ⟨xs, hx⟩ := h.row hg
  exact row_ne_row r' hx he rfl
theorem TAt.ne_map {B : Nat} {w : World} {v : Value} {ts : List ByteArray} {r : Nat} {l : AL} (h : TAt B w v ts) (r' : MapAt w r l) : ∀ g, v.ownBlock = some g → g ∉ [r] := by
  intro g hg hm
  simp at hm; subst hm
  obtain ⟨xs, hx⟩ := h.row hg
  exact row_ne_map hx r' rfl

section
variable {w wr w' : World} {cp r bm B : Nat} {m : List (ByteArray × ZP)} {g : List (ByteArray × PQ)} {seen : List Nat} {mc : List (ByteArray × ZP)} {vq' vt' : Value} {l' : List (ByteArray × Int)} {tx : List ByteArray}
theorem MemD.hB (h : MemD w wr cp r bm B m g seen mc vq' vt' l' tx) : B ≤ wr.heap.size := Nat.le_trans h.lcp (Nat.le_of_lt h.row.lt)
theorem MemD.below (h : MemD w wr cp r bm B m g seen mc vq' vt' l' tx) (hb : Below wr.heap.size wr w') : MemD w w' cp r bm B m g seen mc vq' vt' l' tx := by
  have k := (Kept.refl wr []).below hb
  exact ⟨h.row.kept k (by simp), h.it.kept k (by simp), h.mp.kept k (by simp), h.own.k5 (K5.below hb), h.sq.kept k (by simp), h.ne, h.tk.kept k (by simp), h.bel.trans (hb.mono h.hB), h.k5.trans (K5.below hb), h.lcp, h.lbm, h.lr⟩
theorem MemD.next {seen' : List Nat} (h : MemD w wr cp r bm B m g seen mc vq' vt' l' tx) (k : Kept wr w' [r]) (hi : IterAt w' r bm (mapV ZP.val mc).length seen') : MemD w w' cp r bm B m g seen' mc vq' vt' l' tx := by
  have n5 := No5.iter h.it (No5.nil _)
  exact ⟨h.row.kept k (by simpa using row_ne_iter h.row h.it), hi, h.mp.kept k (by simpa using map_ne_iter h.mp h.it), h.own.k5 (K5.kept k n5), h.sq.kept k (h.sq.ne_iter h.it), h.ne, h.tk.kept k (h.tk.ne_iter h.it), h.bel.trans (k.toBelow h.hB (by simpa using h.lr)), h.k5.trans (K5.kept k n5), h.lcp, h.lbm, h.lr⟩
/-- 'cp.Seq = make(..)'. -/
theorem MemD.newSeq (h : MemD w wr cp r bm B m g seen mc (.map none) vt' l' tx) : MemD w ((wr.setCell ⟨cp, 6, none⟩ (.map (some wr.heap.size))).alloc (.map #[] 0)) cp r bm B m g seen mc (.map (some wr.heap.size)) vt' l' tx ∧ Kept wr ((wr.setCell ⟨cp, 6, none⟩ (.map (some wr.heap.size))).alloc (.map #[] 0)) [cp] := by
  have k := ((Kept.refl wr [cp]).set (g := cp) (.inl (by simp)) 6 (.map (some wr.heap.size))).alloc (.map #[] 0)
  have n5 := No5.row h.row (by decide) (No5.nil _)
  have hl : l' = [] := by
    rcases h.sq with ⟨_, h⟩ | ⟨b, h, _⟩
    · exact h
    · cases h
  subst hl
  have M1 : MapAt ((wr.setCell ⟨cp, 6, none⟩ (.map (some wr.heap.size))).alloc (.map #[] 0)) wr.heap.size (mapV iV []) := by
    have := mapAt_new (wr.setCell ⟨cp, 6, none⟩ (.map (some wr.heap.size)))
    rw [show (wr.setCell ⟨cp, 6, none⟩ (.map (some wr.heap.size))).heap.size = wr.heap.size by simp [World.setCell]] at this
    exact this
  refine ⟨⟨(h.row.set 6 (.map (some wr.heap.size))).alloc _, h.it.kept k (by simpa using (row_ne_iter h.row h.it).symm), h.mp.kept k (by simpa using (row_ne_map h.row h.mp).symm), h.own.k5 (K5.kept k n5), .inr ⟨_, rfl, h.hB, M1⟩, ?_, h.tk.kept k (h.tk.ne_row h.row (by decide)), h.bel.trans (k.toBelow h.hB (by simpa using h.lcp)), h.k5.trans (K5.kept k n5), h.lcp, h.lbm, h.lr⟩, k⟩
  intro e
  injection e with e
  injection e with e
  have := h.mp.lt
  omega
/-- 'cp.Seq[addr] = n'. -/
theorem MemD.putSeq {bs : Nat} (h : MemD w wr cp r bm B m g seen mc (.map (some bs)) vt' l' tx) (a : ByteArray) (n : Int) :
    MapAt wr bs (mapV iV l') ∧ MemD w (setBlock wr bs (.map (ents (put (mapV iV l') a (.int .i64 n))) (put (mapV iV l') a (.int .i64 n)).length)) cp r bm B m g seen mc (.map (some bs)) vt' (putG l' a n) tx ∧ Kept wr (setBlock wr bs (.map (ents (put (mapV iV l') a (.int .i64 n))) (put (mapV iV l') a (.int .i64 n)).length)) [bs] := by
  obtain ⟨hM, hBs⟩ : MapAt wr bs (mapV iV l') ∧ B ≤ bs := by
    rcases h.sq with ⟨h, _⟩ | ⟨b, h1, h2, h3⟩
    · cases h
    · injection h1 with h1; injection h1 with h1; subst h1; exact ⟨h3, h2⟩
  have k := (Kept.refl wr [bs]).setB (g := bs) (.inl (by simp)) (.map (ents (put (mapV iV l') a (.int .i64 n))) (put (mapV iV l') a (.int .i64 n)).length)
  have n5 := No5.map hM (No5.nil _)
  have M6 := hM.put a (.int .i64 n)
  have PM : put (mapV iV l') a (.int .i64 n) = mapV iV (putG l' a n) := put_mapV iV l' a n
  have hne : bm ≠ bs := fun e => h.ne (by rw [e])
  refine ⟨hM, ⟨h.row.kept k (by simpa using row_ne_map h.row hM), h.it.kept k (by simpa using (map_ne_iter hM h.it).symm), h.mp.kept k (by simpa using hne), h.own.k5 (K5.kept k n5), .inr ⟨bs, rfl, hBs, by rw [← PM]; exact M6⟩, h.ne, h.tk.kept k (h.tk.ne_map hM), h.bel.trans (k.toBelow h.hB (by simpa using hBs)), h.k5.trans (K5.kept k n5), h.lcp, h.lbm, h.lr⟩, k⟩
/-- 'cp.Parts[addr] = z': the key is there. -/
theorem MemD.putPart (h : MemD w wr cp r bm B m g seen mc vq' vt' l' tx) (a : ByteArray) (z : ZP) (hin : (lookG mc a).isSome = true) :
    MemD w (setBlock wr bm (.map (ents (put (mapV ZP.val mc) a z.val)) (put (mapV ZP.val mc) a z.val).length)) cp r bm B m g seen (putG mc a z) vq' vt' l' tx ∧ Kept wr (setBlock wr bm (.map (ents (put (mapV ZP.val mc) a z.val)) (put (mapV ZP.val mc) a z.val).length)) [bm] := by
  have k := (Kept.refl wr [bm]).setB (g := bm) (.inl (by simp)) (.map (ents (put (mapV ZP.val mc) a z.val)) (put (mapV ZP.val mc) a z.val).length)
  have n5 := No5.map h.mp (No5.nil _)
  have M6 := h.mp.put a z.val
  have PM : put (mapV ZP.val mc) a z.val = mapV ZP.val (putG mc a z) := put_mapV ZP.val mc a z
  have hlen : (mapV ZP.val (putG mc a z)).length = (mapV ZP.val mc).length := by rw [mapV_length, mapV_length, length_putG, if_pos hin]
  refine ⟨⟨h.row.kept k (by simpa using row_ne_map h.row h.mp), by rw [hlen]; exact h.it.kept k (by simpa using (map_ne_iter h.mp h.it).symm), by rw [← PM]; exact M6, h.own.k5 (K5.kept k n5), h.sq.kept k (MAt.ne_map (f := iV) (B := B) (w := wr) (m := l') h.ne), h.ne, h.tk.kept k (h.tk.ne_map h.mp), h.bel.trans (k.toBelow h.hB (by simpa using h.lbm)), h.k5.trans (K5.kept k n5), h.lcp, h.lbm, h.lr⟩, k⟩
/-- A variable of the function's own is written. -/
theorem MemD.far {gd : Nat} {xs : List Value} (h : MemD w wr cp r bm B m g seen mc vq' vt' l' tx) (k : Kept wr w' [gd]) (hr : RowAt wr gd 42 xs) (hg : B ≤ gd) : MemD w w' cp r bm B m g seen mc vq' vt' l' tx := by
  have n5 := No5.row hr (by decide) (No5.nil _)
  exact ⟨h.row.kept k (by simpa using row_ne_row h.row hr (by decide)), h.it.kept k (by simpa using (row_ne_iter hr h.it).symm), h.mp.kept k (by simpa using (row_ne_map hr h.mp).symm), h.own.k5 (K5.kept k n5), h.sq.kept k (h.sq.ne_row hr), h.ne, h.tk.kept k (h.tk.ne_row hr (by decide)), h.bel.trans (k.toBelow h.hB (by simpa using hg)), h.k5.trans (K5.kept k n5), h.lcp, h.lbm, h.lr⟩
/-- 'cp.Taken = append(cp.Taken, id)'. -/
theorem MemD.append {w1 : World} {gt cap : Nat} {id : ByteArray} (h : MemD w wr cp r bm B m g seen mc vq' vt' l' tx) (hown : w1.ownsRow B 9 1 (.slice (some ⟨gt, 0, none⟩) (tx.length + 1) cap) (tx.length + 1) (strs tx ++ [.string id])) (hgrow : wr.grownBy w1 vt'.ownBlock) :
    MemD w (w1.setCell ⟨cp, 9, none⟩ (.slice (some ⟨gt, 0, none⟩) (tx.length + 1) cap)) cp r bm B m g seen mc vq' (.slice (some ⟨gt, 0, none⟩) (tx.length + 1) cap) l' (tx ++ [id]) ∧ RowAt w1 cp 46 (cpL (.map (some bm)) vq' vt') := by
  have hS : ∃ S, Kept wr w1 S ∧ ∀ g ∈ S, vt'.ownBlock = some g := by
    cases hv : vt'.ownBlock with
    | none => exact ⟨[], (Kept.refl wr []).grown (row := vt'.ownBlock) hgrow (by rw [hv]; simp), by simp⟩
    | some t => exact ⟨[t], (Kept.refl wr [t]).grown (row := vt'.ownBlock) hgrow (by rw [hv]; intro g hg; injection hg with hg; exact .inl (by simp [hg])), by simp⟩
  obtain ⟨S, k, hSv⟩ := hS
  have ncp : cp ∉ S := fun hm => (h.tk.ne_row h.row (by decide) _ (hSv _ hm)) (by simp)
  have nr : r ∉ S := fun hm => (h.tk.ne_iter h.it _ (hSv _ hm)) (by simp)
  have nbm : bm ∉ S := fun hm => (h.tk.ne_map h.mp _ (hSv _ hm)) (by simp)
  have nq : ∀ b, vq' = .map (some b) → b ∉ S := by
    rintro b rfl hm
    rcases h.sq with ⟨h', _⟩ | ⟨b', h1, h2, h3⟩
    · cases h'
    · injection h1 with h1; injection h1 with h1; subst h1
      exact (h.tk.ne_map h3 _ (hSv _ hm)) (by simp)
  have n5 : No5 wr S := by
    intro g' hg' ys hy
    obtain ⟨xs, hx⟩ := h.tk.row (hSv _ hg')
    exact row_ne_row hx hy (by decide) rfl
  have lS : ∀ g ∈ S, B ≤ g := by
    intro g' hg'
    have hv := hSv _ hg'
    obtain ⟨_, ⟨rfl, _⟩ | ⟨g2, cap2, cur, rfl, h2, _⟩⟩ := h.tk
    · cases hv
    · have : g2 = g' := by simpa [Value.ownBlock] using hv
      omega
  have R1 := h.row.kept k ncp
  have k2 := (Kept.refl w1 [cp]).set (g := cp) (.inl (by simp)) 9 (.slice (some ⟨gt, 0, none⟩) (tx.length + 1) cap)
  have n52 := No5.row R1 (by decide) (No5.nil _)
  have it1 := h.it.kept k nr
  have mp1 := h.mp.kept k nbm
  have sq1 := h.sq.kept k nq
  have tk1 : TAt B w1 (.slice (some ⟨gt, 0, none⟩) (tx.length + 1) cap) (tx ++ [id]) := by
    unfold TAt
    have e1 : (tx ++ [id]).length = tx.length + 1 := by simp
    have e2 : strs (tx ++ [id]) = strs tx ++ [.string id] := by simp [strs]
    rw [e1, e2]; exact hown
  have hB1 : B ≤ w1.heap.size := Nat.le_trans h.hB k.size
  refine ⟨⟨R1.set 9 _, it1.kept k2 (by simpa using (row_ne_iter R1 it1).symm), mp1.kept k2 (by simpa using (row_ne_map R1 mp1).symm), (h.own.k5 (K5.kept k n5)).k5 (K5.kept k2 n52), sq1.kept k2 (sq1.ne_row R1), h.ne, tk1.kept k2 (tk1.ne_row R1 (by decide)), (h.bel.trans (k.toBelow h.hB lS)).trans (k2.toBelow hB1 (by simpa using h.lcp)), (h.k5.trans (K5.kept k n5)).trans (K5.kept k2 n52), h.lcp, h.lbm, h.lr⟩, R1⟩
end

/-- At the head of a round. -/
structure LoopD (w wr : World) (cp r bm : Nat) (vq vt : Value) (m : List (ByteArray × ZP)) (g : List (ByteArray × PQ)) (l : List (ByteArray × Int)) (ts : List ByteArray) (B : Nat) (seen : List Nat) (vis : List (ByteArray × ZP)) (vq' vt' : Value) (l' : List (ByteArray × Int)) : Prop where
  mem : MemD w wr cp r bm B m g seen (cM l (keys vis) m) vq' vt' l' (ts ++ vis.map pidZ)
  b0 : vis = [] → Below w.heap.size w wr
  vs : Vis m seen vis
  sl : SeqIs l vis l'
  qn : vq' = .map none ↔ vq = .map none ∧ vis = []
  tn : vt' = .slice none 0 0 ↔ vt = .slice none 0 0 ∧ vis = []
  len : leftN m.length seen + vis.length ≤ m.length

theorem LoopD.step {w wr w' : World} {cp r bm : Nat} {vq vt : Value} {m : List (ByteArray × ZP)} {g : List (ByteArray × PQ)} {l : List (ByteArray × Int)} {ts : List ByteArray} {B : Nat} {seen : List Nat} {vis : List (ByteArray × ZP)} {vq' vt' vn : Value} {l' ln : List (ByteArray × Int)} {i bs : Nat} {a : ByteArray} {z zd : ZP}
    (L : LoopD w wr cp r bm vq vt m g l ts B seen vis vq' vt' l') (hnd : (keys m).Nodup) (hmi : m[i]? = some (a, z)) (hns : i ∉ seen) (hr : z.run = true)
    (A : MemD w w' cp r bm B m g (seen ++ [i]) (putG (cM l (keys vis) m) a zd) (.map (some bs)) vn ln (ts ++ vis.map pidZ ++ [pid a z.pause])) (hv : vn ≠ .slice none 0 0) (hz : zd = doubtZ l a z) (hs : SeqIs l (vis ++ [(a, z)]) ln) :
    LoopD w w' cp r bm vq vt m g l ts B (seen ++ [i]) (vis ++ [(a, z)]) (.map (some bs)) vn ln := by
  subst hz
  rw [cM_put l (keys vis) a z m hnd (List.mem_of_getElem? hmi)] at A
  have hk : keys vis ++ [a] = keys (vis ++ [(a, z)]) := by simp [keys]
  have ht : ts ++ vis.map pidZ ++ [pid a z.pause] = ts ++ (vis ++ [(a, z)]).map pidZ := by simp [pidZ]
  rw [hk, ht] at A
  have hil : i < m.length := (List.getElem?_eq_some_iff.1 hmi).1
  have hlt := leftN_lt hil hns
  refine ⟨A, by simp, L.vs.step hnd hmi hns hr, hs, by simp, by simp [hv], ?_⟩
  have := L.len
  simp only [List.length_append, List.length_cons, List.length_nil]
  omega

theorem at_fresh {m : List (ByteArray × ZP)} {seen : List Nat} {vis : List (ByteArray × ZP)} (h : Vis m seen vis) (hn : (keys m).Nodup) (l : List (ByteArray × Int)) {i : Nat} {p : ByteArray × Value} (hp : (mapV ZP.val (cM l (keys vis) m))[i]? = some p) (hi : i ∉ seen) : ∃ a z, m[i]? = some (a, z) ∧ p = (a, z.val) := by
  unfold mapV at hp
  rw [List.getElem?_map, cM_get] at hp
  cases hm : m[i]? with
  | none => rw [hm] at hp; simp at hp
  | some q =>
    rw [hm] at hp
    have hf := h.fresh hn hm hi
    have : has (keys vis) q.1 = false := by
      cases hh : has (keys vis) q.1 with
      | false => rfl
      | true => exact absurd (has_iff.1 hh) hf
    simp [this] at hp
    exact ⟨q.1, q.2, rfl, hp.symm⟩

theorem run_equalIn_mapnil {P : Program} (d : Nat) (t k e : TypeId) (h : P.underlying t = some (.map k e)) (w : World) (a : Option Nat) : (Op.equalIn (d + 1) t (.map a) (.map none)).run P w = .ok a.isNone w := by
  cases a <;> simp [Op.equalIn, run_underlying h]
theorem run_equal_mapnil {P : Program} (t k e : TypeId) (h : P.underlying t = some (.map k e)) (w : World) (a : Option Nat) : (Op.equal t (.map a) (.map none)).run P w = .ok a.isNone w := run_equalIn_mapnil 9999 t k e h w a
theorem run_eql_mapnil {P : Program} (t k e : TypeId) (h : P.underlying t = some (.map k e)) : ∀ (w : World) (a : Option Nat), (binOp .eql t (.map a) (.map none)).run P w = .ok (.bool a.isNone) w := by
  intro w a
  simp [binOp, run_equal_mapnil t k e h w a]

theorem run_range_nil {P : Program} {T K E : TypeId} (hT : P.underlying T = some (.map K E)) (w : World) :
    (Instr.range T (.map none)).run P w = .ok (.pointer (some ⟨w.heap.size, 0, none⟩)) (w.alloc (.mapIter none 0 #[] 0)) := by
  simp [Instr.range, run_underlying hT]
theorem run_next_nil {P : Program} (ty : TypeId) (w : World) (r : Nat) (h : w.heap[r]? = some (.mapIter none 0 #[] 0)) : (Instr.next (.pointer (some ⟨r, 0, none⟩)) false ty).run P w = .ok (.tuple #[.bool false]) w := by
  simp [Instr.next, getObj, Sem.run, h]

set_option maxHeartbeats 4000000 in
theorem doubt_nil (cp : Nat) (vq vt : Value) (g : List (ByteArray × PQ)) (l : List (ByteArray × Int)) (ts : List ByteArray) (B : Nat) (w : World) (h : CP w cp (.map none) vq vt [] g l ts B) :
    Calls Tryd.prog 19 #[.pointer (some ⟨cp, 0, none⟩)] w fun e w' => e = .returned (.tuple #[]) ∧ RetD w w' cp (.map none) vq vt [] g l ts B := by
  have hr := run_range_nil (P := Tryd.prog) Tryd.underlying44 w
  have hn := run_next_nil (P := Tryd.prog) 0 (w.alloc (.mapIter none 0 #[] 0)) w.heap.size (heap_alloc_new w _)
  have c5 : w.cell? ⟨cp, 5, none⟩ = some (.map none) := by rw [h.row.cell]; rfl
  have hg : g = [] := by
    cases g with
    | nil => rfl
    | cons a g => exact h.own.elim
  subst hg
  have R : RetD w (w.alloc (.mapIter none 0 #[] 0)) cp (.map none) vq vt [] [] l ts B := by
    have hk := (Kept.refl w []).alloc (.mapIter none 0 #[] 0)
    have hb : Below w.heap.size w (w.alloc (.mapIter none 0 #[] 0)) := (Below.refl _ w).alloc (Nat.le_refl _) _
    refine ⟨[], vq, vt, l, ⟨h.row.kept hk (by simp), h.low, .inl ⟨rfl, rfl⟩, trivial, h.seq.kept hk (by simp), h.ne, ?_⟩, hb.mono (Nat.le_trans h.low (Nat.le_of_lt h.row.lt)), K5.below hb, fun _ => hb, List.nodup_nil, by simp, SeqIs.nil l, by simp, by simp⟩
    simpa using h.taken.kept hk (by simp)
  go_enter Tryd.func19, Tryd.ntmps19
  go_wp2_with fail
  go_loopw [2] (fun v wr => wr = w.alloc (.mapIter none 0 #[] 0)) (fun _ _ => 0)
  case atStart => rfl
  case round =>
    subst hrel
    go_wp2_with fail
    refine bodyPost_end (results_none rfl _ _ _) rfl ?_
    exact ⟨rfl, R⟩

abbrev zero42 : List Value := [.slice none 0 0, .int .i64 0, .slice none 0 0, .bool false, .bool false, .string ⟨#[]⟩, .bool false, .bool false, .int .i64 0]
theorem zrow {X w' : World} {H : Nat} (hH : X.heap.size = H) (hb : Below (X.alloc (.cells zero42.toArray 42)).heap.size (X.alloc (.cells zero42.toArray 42)) w') : RowAt w' H 42 zero42 := by
  subst hH
  exact RowAt.below (show RowAt (X.alloc (.cells zero42.toArray 42)) X.heap.size 42 zero42 from heap_alloc_new X _) hb (by simp)
theorem zfacts {w : World} {g : Nat} (h : RowAt w g 42 zero42) : w.cell? ⟨g, 0, none⟩ = some (.slice none 0 0) ∧ w.frozen? ⟨g, 0, none⟩ = false ∧ w.cell? ⟨g, 1, none⟩ = some (.int .i64 0) ∧ w.frozen? ⟨g, 1, none⟩ = false ∧ w.cell? ⟨g, 2, none⟩ = some (.slice none 0 0) ∧ w.frozen? ⟨g, 2, none⟩ = false ∧ w.cell? ⟨g, 3, none⟩ = some (.bool false) ∧ w.frozen? ⟨g, 3, none⟩ = false ∧ w.cell? ⟨g, 4, none⟩ = some (.bool false) ∧ w.frozen? ⟨g, 4, none⟩ = false ∧ w.cell? ⟨g, 5, none⟩ = some (.string ⟨#[]⟩) ∧ w.frozen? ⟨g, 5, none⟩ = false ∧ w.cell? ⟨g, 6, none⟩ = some (.bool false) ∧ w.frozen? ⟨g, 6, none⟩ = false ∧ w.cell? ⟨g, 7, none⟩ = some (.bool false) ∧ w.frozen? ⟨g, 7, none⟩ = false ∧ w.cell? ⟨g, 8, none⟩ = some (.int .i64 0) ∧ w.frozen? ⟨g, 8, none⟩ = false := ⟨by rw [h.cell]; rfl, h.frozen _, by rw [h.cell]; rfl, h.frozen _, by rw [h.cell]; rfl, h.frozen _, by rw [h.cell]; rfl, h.frozen _, by rw [h.cell]; rfl, h.frozen _, by rw [h.cell]; rfl, h.frozen _, by rw [h.cell]; rfl, h.frozen _, by rw [h.cell]; rfl, h.frozen _, by rw [h.cell]; rfl, h.frozen _⟩
theorem lk_at {W : World} {bs : Nat} {l : List (ByteArray × Int)} {a : ByteArray} {n : Int} (h : MapAt W bs (mapV iV l)) (hl : lookG l a = some n) : (Instr.lookup 33 (.map (some bs)) (.string a) false).run Tryd.prog W = .ok (.int .i64 n) W := by
  rw [run_look Tryd.underlying33 Tryd.underlying9 Tryd.zeroValue3 h a false]
  simp only [got, look_mapV, hl]
  rfl
theorem map_below {W w' : World} {bs : Nat} {l : AL} (h : MapAt W bs l) (hb : Below W.heap.size W w') : MapAt w' bs l := h.kept ((Kept.refl W []).below hb) (by simp)
theorem map_alloc {W : World} {bs : Nat} {l : AL} (h : MapAt W bs l) (o : Obj) : MapAt (W.alloc o) bs l := h.kept ((Kept.refl W []).alloc o) (by simp)

theorem keep_alloc {w : World} {b o : Nat} {v : Value} {ob : Obj} (h : w.cell? ⟨b, o, none⟩ = some v) : (w.alloc ob).cell? ⟨b, o, none⟩ = some v := by
  rw [World.cell?_of_block (w := w) (Below.heap_alloc w _ b (World.block_lt_of_cell? w _ h))]; exact h
theorem keep_set {w : World} {b o c j : Nat} {v u : Value} (hne : ¬ b = c) (h : w.cell? ⟨b, o, none⟩ = some v) : (w.setCell ⟨c, j, none⟩ u).cell? ⟨b, o, none⟩ = some v := by
  rw [World.cell?_of_block (w := w) (Below.heap_setCell _ _ _ _ hne)]; exact h
theorem row_new (w : World) (e : TypeId) (xs : List Value) : RowAt (w.alloc (.cells xs.toArray e)) w.heap.size e xs := heap_alloc_new w _
theorem kept9 (w : World) (g : Nat) (v0 v1 v2 v3 v4 v5 v6 v7 v8 : Value) : Kept w (((((((((w.setCell ⟨g, 0, none⟩ v0).setCell ⟨g, 1, none⟩ v1).setCell ⟨g, 2, none⟩ v2).setCell ⟨g, 3, none⟩ v3).setCell ⟨g, 4, none⟩ v4).setCell ⟨g, 5, none⟩ v5).setCell ⟨g, 6, none⟩ v6).setCell ⟨g, 7, none⟩ v7).setCell ⟨g, 8, none⟩ v8) [g] := ((((((((((Kept.refl w [g]).set (g := g) (.inl (by simp)) 0 v0).set (g := g) (.inl (by simp)) 1 v1).set (g := g) (.inl (by simp)) 2 v2).set (g := g) (.inl (by simp)) 3 v3).set (g := g) (.inl (by simp)) 4 v4).set (g := g) (.inl (by simp)) 5 v5).set (g := g) (.inl (by simp)) 6 v6).set (g := g) (.inl (by simp)) 7 v7).set (g := g) (.inl (by simp)) 8 v8)
theorem row9 {w : World} {g : Nat} (h : RowAt w g 42 zero42) (v0 v1 v2 v3 v4 v5 v6 v7 v8 : Value) : RowAt (((((((((w.setCell ⟨g, 0, none⟩ v0).setCell ⟨g, 1, none⟩ v1).setCell ⟨g, 2, none⟩ v2).setCell ⟨g, 3, none⟩ v3).setCell ⟨g, 4, none⟩ v4).setCell ⟨g, 5, none⟩ v5).setCell ⟨g, 6, none⟩ v6).setCell ⟨g, 7, none⟩ v7).setCell ⟨g, 8, none⟩ v8) g 42 [v0, v1, v2, v3, v4, v5, v6, v7, v8] := (((((((((h.set 0 v0).set 1 v1).set 2 v2).set 3 v3).set 4 v4).set 5 v5).set 6 v6).set 7 v7).set 8 v8)
theorem keep9 {w : World} {g b o : Nat} {v0 v1 v2 v3 v4 v5 v6 v7 v8 v : Value} (hne : ¬ b = g) (h : w.cell? ⟨b, o, none⟩ = some v) : (((((((((w.setCell ⟨g, 0, none⟩ v0).setCell ⟨g, 1, none⟩ v1).setCell ⟨g, 2, none⟩ v2).setCell ⟨g, 3, none⟩ v3).setCell ⟨g, 4, none⟩ v4).setCell ⟨g, 5, none⟩ v5).setCell ⟨g, 6, none⟩ v6).setCell ⟨g, 7, none⟩ v7).setCell ⟨g, 8, none⟩ v8).cell? ⟨b, o, none⟩ = some v := (kept9 w g v0 v1 v2 v3 v4 v5 v6 v7 v8).cell h (by simpa using hne)

set_option maxHeartbeats 8000000 in
set_option maxRecDepth 100000 in
theorem doubt_some (cp bm : Nat) (vq vt : Value) (m : List (ByteArray × ZP)) (g : List (ByteArray × PQ)) (l : List (ByteArray × Int)) (ts : List ByteArray) (B : Nat) (w : World) (h : CP w cp (.map (some bm)) vq vt m g l ts B)
    (hT : ∀ w', Below B w w' → Tab w') (hnd : (keys m).Nodup) (hsz : ∀ p ∈ m, p.1.size ≤ 1048576 ∧ -9223372036854775808 ≤ p.2.pause ∧ p.2.pause ≤ 9223372036854775807) (hl : ts.length + m.length ≤ 1048576) :
    Calls Tryd.prog 19 #[.pointer (some ⟨cp, 0, none⟩)] w fun e w' => e = .returned (.tuple #[]) ∧ RetD w w' cp (.map (some bm)) vq vt m g l ts B := by
  have hmp : MapAt w bm (mapV ZP.val m) ∧ B ≤ bm := by
    rcases h.parts with ⟨h1, _⟩ | ⟨b, h1, h2, h3⟩
    · cases h1
    · injection h1 with h1; injection h1 with h1; subst h1; exact ⟨h3, h2⟩
  obtain ⟨hmp, hBm⟩ := hmp
  have hr := run_range_at (P := Tryd.prog) Tryd.underlying44 hmp
  have c5 : w.cell? ⟨cp, 5, none⟩ = some (.map (some bm)) := by rw [h.row.cell]; rfl
  have L0 : LoopD w (w.alloc (.mapIter (some bm) (mapV ZP.val m).length #[] (mapV ZP.val m).length)) cp w.heap.size bm vq vt m g l ts B [] [] vq vt l := by
    have hk := (Kept.refl w []).alloc (.mapIter (some bm) (mapV ZP.val m).length #[] (mapV ZP.val m).length)
    have hb : Below w.heap.size w (w.alloc (.mapIter (some bm) (mapV ZP.val m).length #[] (mapV ZP.val m).length)) := (Below.refl _ w).alloc (Nat.le_refl _) _
    have e : cM l (keys ([] : List (ByteArray × ZP))) m = m := cM_nil l m
    have hB : B ≤ w.heap.size := Nat.le_trans h.low (Nat.le_of_lt h.row.lt)
    refine ⟨⟨h.row.kept hk (by simp), by rw [e]; exact iter_new w _ _, by rw [e]; exact hmp.kept hk (by simp), h.own.k5 (K5.below hb), h.seq.kept hk (by simp), h.ne bm rfl, ?_, hb.mono hB, K5.below hb, h.low, hBm, hB⟩, fun _ => hb, Vis.nil m, SeqIs.nil l, by simp, by simp, ?_⟩
    · simpa using h.taken.kept hk (by simp)
    · unfold leftN
      have := List.length_filter_le (fun i => !([] : List Nat).contains i) (List.range m.length)
      rw [List.length_range] at this
      simpa using this
  replace L0 := hide L0
  go_enter Tryd.func19, Tryd.ntmps19
  go_wp2_with fail
  go_loopw [2] (fun v wr => ∃ seen vis vq' vt' l', LoopD w wr cp w.heap.size bm vq vt m g l ts B seen vis vq' vt' l') (fun _ wr => leftN m.length (seenOf wr w.heap.size))
  case atStart => exact ⟨_, _, _, _, _, L0.out⟩
  case round =>
    clear L0
    obtain ⟨seen, vis, vq', vt', l', L⟩ := hrel
    have hms := seenOf_at L.mem.it
    go_wp2_with (refine wpList_next_at rfl (.tmp 9) rfl w.heap.size bm seen (mapV ZP.val (cM l (keys vis) m)) (by rfl) L.mem.it L.mem.mp ?done ?more)
    case done =>
      intro hs
      have R : RetD w wr cp (.map (some bm)) vq vt m g l ts B := by
        refine ⟨vis, vq', vt', l', ⟨L.mem.row, h.low, .inr ⟨bm, rfl, hBm, L.mem.mp⟩, L.mem.own.c l _, L.mem.sq, ?_, L.mem.tk⟩, L.mem.bel, L.mem.k5, L.b0, L.vs.nodup, L.vs.done (fun i hi => hs i (by rw [mapV_length, cM_length]; exact hi)), L.sl, L.qn, L.tn⟩
        rintro b hb
        injection hb with hb; injection hb with hb; subst hb
        exact L.mem.ne
      replace R := hide R
      clear L hs
      go_wp2_with fail
      refine bodyPost_end (results_none rfl _ _ _) rfl ?_
      exact ⟨rfl, R.out⟩
    case more =>
      intro i a pv w1 hp hns hit1 hk1 hent
      obtain ⟨a', z, hmi, hpe⟩ := at_fresh L.vs hnd l hp hns
      injection hpe with hpe1 hpe2
      subst hpe1 hpe2
      have hsz' := hsz (a, z) (List.mem_of_getElem? hmi)
      have hil : i < m.length := (List.getElem?_eq_some_iff.1 hmi).1
      have hlt := leftN_lt hil hns
      have M1 := L.mem.next hk1 hit1
      have hb01 : vis = [] → Below w.heap.size w w1 := fun e => (L.b0 e).trans (hk1.toBelow (L.b0 e).size (by simp))
      obtain ⟨⟨oa1, on1, oc1⟩, pa, ⟨oa2, on2, oc2⟩, co, ru, ind, outs, st, ver⟩ := z
      have hent' : (Instr.entry (.pointer (some ⟨w.heap.size, 0, none⟩))).run Tryd.prog w1 = .ok (.tuple #[.string a, .agg #[.slice oa1 on1 oc1, .int .i64 pa, .slice oa2 on2 oc2, .bool co, .bool ru, .string ind, .bool outs, .bool st, .int .i64 ver]]) w1 := hent
      have hP2 : RowAt (w1.alloc (.cells #[.slice oa1 on1 oc1, .int .i64 pa, .slice oa2 on2 oc2, .bool co, .bool ru, .string ind, .bool outs, .bool st, .int .i64 ver] 42)) w1.heap.size 42 [.slice oa1 on1 oc1, .int .i64 pa, .slice oa2 on2 oc2, .bool co, .bool ru, .string ind, .bool outs, .bool st, .int .i64 ver] := heap_alloc_new w1 _
      have hB2 : Below w1.heap.size w1 (w1.alloc (.cells #[.slice oa1 on1 oc1, .int .i64 pa, .slice oa2 on2 oc2, .bool co, .bool ru, .string ind, .bool outs, .bool st, .int .i64 ver] 42)) := (Below.refl _ w1).alloc (Nat.le_refl _) _
      have M2 := M1.below hB2
      have hb02 : vis = [] → Below w.heap.size w (w1.alloc (.cells #[.slice oa1 on1 oc1, .int .i64 pa, .slice oa2 on2 oc2, .bool co, .bool ru, .string ind, .bool outs, .bool st, .int .i64 ver] 42)) := fun e => (hb01 e).trans (hB2.mono (hb01 e).size)
      have hw1r : w.heap.size < w1.heap.size := hit1.lt
      have C21 : Calls Tryd.prog 21 #[.agg #[.slice oa1 on1 oc1, .int .i64 pa, .slice oa2 on2 oc2, .bool co, .bool ru, .string ind, .bool outs, .bool st, .int .i64 ver]] (w1.alloc (.cells #[.slice oa1 on1 oc1, .int .i64 pa, .slice oa2 on2 oc2, .bool co, .bool ru, .string ind, .bool outs, .bool st, .int .i64 ver] 42)) fun e w' => e = .returned (.bool ru) ∧ Below (w1.alloc (.cells #[.slice oa1 on1 oc1, .int .i64 pa, .slice oa2 on2 oc2, .bool co, .bool ru, .string ind, .bool outs, .bool st, .int .i64 ver] 42)).heap.size (w1.alloc (.cells #[.slice oa1 on1 oc1, .int .i64 pa, .slice oa2 on2 oc2, .bool co, .bool ru, .string ind, .bool outs, .bool st, .int .i64 ver] 42)) w' := acting_any ⟨⟨oa1, on1, oc1⟩, pa, ⟨oa2, on2, oc2⟩, co, ru, ind, outs, st, ver⟩ _
      have HL := hide L
      replace M2 := hide M2
      replace hb02 := hide hb02
      replace hP2 := hide hP2
      clear hent hp hit1 hk1 hb01 M1 L h hB2 c5 hr hmp
      go_wp2_with fail
      refine C21.mono ?_
      rintro e w3 ⟨rfl, hb3⟩
      replace M2 := hide (M2.out.below hb3)
      replace hb02 := hide (fun e => (hb02.out e).trans (hb3.mono (hb02.out e).size))
      have hP3 := hP2.out.below hb3 hP2.out.lt
      clear hP2 C21 hent' hb3
      cases hru : ru with
      | false =>
        subst hru
        have L3 : LoopD w w3 cp w.heap.size bm vq vt m g l ts B (seen ++ [i]) vis vq' vt' l' :=
          ⟨M2.out, hb02.out, HL.out.vs.skip hmi rfl, HL.out.sl, HL.out.qn, HL.out.tn, by have := HL.out.len; omega⟩
        have hms3 := seenOf_at L3.mem.it
        replace L3 := hide L3
        clear M2 hb02 HL hP3 hT
        go_wp2_with fail
        go_roundw
        case rel => exact ⟨_, _, _, _, _, L3.out⟩
        case measure => rw [hms3, hms]; exact hlt
      | true =>
        subst hru
        have hvl : vis.length + 1 ≤ m.length := by have := HL.out.len; omega
        obtain ⟨ob, hvq⟩ : ∃ ob, vq' = .map ob := by
          rcases M2.out.sq with ⟨h, _⟩ | ⟨b, h, _⟩ <;> exact ⟨_, h⟩
        subst hvq
        have c6 : w3.cell? ⟨cp, 6, none⟩ = some (.map ob) := by rw [M2.out.row.cell]; rfl
        have f6 := M2.out.row.frozen 6
        have hmm := @run_makeMap Tryd.prog
        have heq := run_eql_mapnil (P := Tryd.prog) 33 9 3 Tryd.underlying33
        have hncp := row_ne_row M2.out.row hP3 (by decide)
        have hcl := M2.out.row.lt
        go_upto_if 22 with fail
        go_cut [4] from 10 to 68 (fun s4 wc => ∃ bs, MemD w wc cp w.heap.size bm B m g (seen ++ [i]) (cM l (keys vis) m) (.map (some bs)) vt' l' (ts ++ vis.map pidZ) ∧ RowAt wc w1.heap.size 42 [.slice oa1 on1 oc1, .int .i64 pa, .slice oa2 on2 oc2, .bool co, .bool true, .string ind, .bool outs, .bool st, .int .i64 ver])
        case first =>
          cases ob with
          | none =>
            have N := M2.out.newSeq
            have hPN := hP3.kept N.2 (by simpa using hncp.symm)
            replace N := hide N
            replace hPN := hide hPN
            clear M2 hP3 HL hb02
            go_wp2_with fail
            go_meet
            case rel => exact ⟨_, N.out.1, hPN.out⟩
          | some bs =>
            clear HL hb02
            go_wp2_with fail
            go_meet
            case rel => exact ⟨_, M2.out, hP3⟩
        case rest =>
          clear M2 hP3 c6 f6 hmm heq
          obtain ⟨bs, M3, hP⟩ := hcut
          clear hcl hncp
          have hsl := HL.out.sl.step (a, ⟨⟨oa1, on1, oc1⟩, pa, ⟨oa2, on2, oc2⟩, co, true, ind, outs, st, ver⟩) (HL.out.vs.fresh hnd hmi hns)
          have c6 : wc.cell? ⟨cp, 6, none⟩ = some (.map (some bs)) := by rw [M3.row.cell]; rfl
          obtain ⟨hMs, M4, K4⟩ := M3.putSeq a (inc l' a)
          have hlk : (Instr.lookup 33 (.map (some bs)) (.string a) false).run Tryd.prog wc = .ok (.int .i64 ((lookG l' a).getD 0)) wc := by
            rw [run_look Tryd.underlying33 Tryd.underlying9 Tryd.zeroValue3 hMs a false]
            simp only [got, look_mapV]
            cases lookG l' a <;> rfl
          have hup := run_put (P := Tryd.prog) Tryd.underlying33 Tryd.underlying9 hMs a (.int .i64 (inc l' a))
          have hP4 := hP.kept K4 (by simpa using row_ne_map hP hMs)
          have hi : inc l' a = wrap64 ((lookG l' a).getD 0 + 1) := rfl
          rw [hi] at hup M4 hP4 hsl
          generalize (lookG l' a).getD 0 = nn at *
          replace M4 := hide M4
          replace hP4 := hide hP4
          replace hsl := hide hsl
          clear M3 hP hi K4 hMs
          have hnew : (lookG (putG l' a (wrap64 (nn + 1))) a) = some (wrap64 (nn + 1)) := by rw [lookG_putG]; simp
          replace hnew := hide hnew
          go_upto_region 7 with fail
          generalize hw5 : setBlock wc bs (Obj.map (ents (put (mapV iV l') a (Value.int IntKind.i64 (wrap64 (nn + 1))))) (List.length (put (mapV iV l') a (Value.int IntKind.i64 (wrap64 (nn + 1)))))) = w5 at *
          clear hw5 hup hlk c6
          have c6 : w5.cell? ⟨cp, 6, none⟩ = some (.map (some bs)) := by rw [M4.out.row.cell]; rfl
          have p1 : w5.cell? ⟨w1.heap.size, 1, none⟩ = some (.int .i64 pa) := by rw [hP4.out.cell]; rfl
          have p2 : w5.cell? ⟨w1.heap.size, 2, none⟩ = some (.slice oa2 on2 oc2) := by rw [hP4.out.cell]; rfl
          have hcl := M4.out.row.lt
          have hpl := hP4.out.lt
          have hMs : MapAt w5.drew bs (mapV iV (putG l' a (wrap64 (nn + 1)))) := by
            rcases M4.out.sq with ⟨h, _⟩ | ⟨b, h1, h2, h3⟩
            · cases h
            · injection h1 with h1; injection h1 with h1; subst h1; exact h3
          have hMa : MapAt (w5.alloc (.cells zero42.toArray 42)).drew bs (mapV iV (putG l' a (wrap64 (nn + 1)))) := map_alloc hMs (.cells zero42.toArray 42)
          have hlk0 := lk_at hMs hnew.out
          have hlk1 := lk_at hMa hnew.out
          have hMs' := hide hMs
          have hMa' := hide hMa
          clear hMs hMa
          have hq1 : ¬ cp = w5.heap.size := by omega
          have hq2 : ¬ w1.heap.size = w5.heap.size := by omega
          have hT0 := hide hT
          have hTT := hide (fun w' (hb : Below w5.heap.size w5 w') => hT w' (M4.out.bel.trans (hb.mono M4.out.hB)))
          obtain ⟨sz1, sz2, sz3⟩ := hsz'
          have H22 : ∀ W, Calls Tryd.prog 22 #[.int .i64 (wrap64 (nn + 1)), .slice oa2 on2 oc2, .bool false, .string (pid a pa)] W fun e w' => e = .returned (.agg #[.slice none 0 0, .int .i64 (wrap64 (nn + 1)), .slice oa2 on2 oc2, .bool false, .bool false, .string (pid a pa), .bool false, .bool false, .int .i64 0]) ∧ Below W.heap.size W w' := fun W => paused_any (wrap64 (nn + 1)) ⟨oa2, on2, oc2⟩ false (pid a pa) W
          replace H22 := hide H22
          clear hT hsz hil
          go_cut [4] from 10 to 68 (fun s4 wc => ∃ gd, s4 = .pointer (some ⟨gd, 0, none⟩) ∧ RowAt wc gd 42 [.slice none 0 0, .int .i64 (wrap64 (nn + 1)), .slice oa2 on2 oc2, .bool false, .bool false, .string (pid a pa), .bool false, .bool false, .int .i64 0] ∧ Below w5.heap.size w5 wc ∧ w5.heap.size ≤ gd)
          case first =>
            clear HL M4 hb02 hP4 hsl hmi hns hnd hms
            go_region_held3 (fun w' => w'.cell? ⟨cp, 6, none⟩ = some (.map (some bs)) ∧ w'.cell? ⟨w1.heap.size, 1, none⟩ = some (.int .i64 pa) ∧ w'.cell? ⟨w1.heap.size, 2, none⟩ = some (.slice oa2 on2 oc2))
              (first | (with_reducible exact ⟨keep9 hq1 hS7.out.1, keep9 hq2 hS7.out.2.1, keep9 hq2 hS7.out.2.2⟩) | (with_reducible exact ⟨keep9 hq3 hS7.out.1, keep9 hq4 hS7.out.2.1, keep9 hq4 hS7.out.2.2⟩) | (with_reducible exact ⟨keep_alloc hS7.out.1, keep_alloc hS7.out.2.1, keep_alloc hS7.out.2.2⟩) | (with_reducible exact hS7.out) | (go_split_ands; refine ⟨keep_below hbA ‹_›, keep_below hbA ‹_›, keep_below hbA ‹_›⟩) | (go_keep; done) | fail)
              (first | (go_at_call 23; refine (pauseID_any a pa _ (by exact hTT.out _ (by first | exact (Below.refl _ _).drew | exact ((Below.refl _ _).alloc (Nat.le_refl _) _).drew | exact (Below.refl _ _).drew.alloc (Nat.le_refl _) _)) sz2 sz3 sz1).mono ?_; rintro e w' ⟨rfl, hbA⟩; (first | (have hMw := map_below hMs'.out hbA) | (have hMw := map_below hMa'.out hbA)); have hlk2 := lk_at hMw hnew.out; have hlk3 := lk_at (map_alloc hMw (.cells zero42.toArray 42)) hnew.out; have hMw' := hide hMw; clear hMw; have hsA := hbA.size; have hsB : w5.heap.size ≤ w'.heap.size := (by first | exact hsA | exact Nat.le_trans (by simp) hsA); have hb56 : Below w5.heap.size w5 w' := (by first | exact ((Below.refl _ w5).drew).trans hbA | exact (((Below.refl _ w5).alloc (Nat.le_refl _) _).drew).trans (hbA.mono (by simp))); have hq3 : ¬ cp = w'.heap.size := (by omega); have hq4 : ¬ w1.heap.size = w'.heap.size := (by omega); try (have hzA := zrow (X := w5.drew) (H := w5.heap.size) rfl hbA; replace hzA := hide hzA)) | (go_at_call 22; refine (H22.out _).mono ?_; rintro e w' ⟨rfl, hbE⟩; have hS7 : w'.cell? ⟨cp, 6, none⟩ = some (.map (some bs)) ∧ w'.cell? ⟨w1.heap.size, 1, none⟩ = some (.int .i64 pa) ∧ w'.cell? ⟨w1.heap.size, 2, none⟩ = some (.slice oa2 on2 oc2) := (by go_split_ands; exact ⟨keep_below hbE ‹_›, keep_below hbE ‹_›, keep_below hbE ‹_›⟩); replace hS7 := hide hS7; have hsE := hbE.size; have hsF : w5.heap.size ≤ w'.heap.size := (by first | exact Nat.le_trans hsB hsE | exact Nat.le_trans hsB (Nat.le_trans (by simp) hsE)); have hb57 : Below w5.heap.size w5 w' := (by first | exact hb56.trans (hbE.mono hsB) | exact (hb56.alloc hsB _).trans (hbE.mono (Nat.le_trans hsB (by simp)))); have hq5 : ¬ cp = w'.heap.size := (by omega); have hq6 : ¬ w1.heap.size = w'.heap.size := (by omega); first | (have hzE := hzA.out.below hbE hzA.out.lt; obtain ⟨za0, zb0, za1, zb1, za2, zb2, za3, zb3, za4, zb4, za5, zb5, za6, zb6, za7, zb7, za8, zb8⟩ := zfacts hzE; replace hzE := hide hzE) | (have hzE := zrow rfl hbE; obtain ⟨za0, zb0, za1, zb1, za2, zb2, za3, zb3, za4, zb4, za5, zb5, za6, zb6, za7, zb7, za8, zb8⟩ := zfacts hzE; replace hzE := hide hzE) | skip))
            all_goals (go_wp2_with fail; go_meet)
            all_goals (first
              | (with_reducible exact ⟨_, rfl, row_new _ _ _, hb57.alloc hsF _, hsF⟩)
              | (with_reducible exact ⟨_, rfl, row9 hzE.out _ _ _ _ _ _ _ _ _, hb57.trans ((kept9 _ _ _ _ _ _ _ _ _ _ _).toBelow hsF (fun g hg => Nat.le_of_eq (List.mem_singleton.1 hg).symm)), Nat.le_refl _⟩)
              | (with_reducible exact ⟨_, rfl, row9 hzE.out _ _ _ _ _ _ _ _ _, hb57.trans ((kept9 _ _ _ _ _ _ _ _ _ _ _).toBelow hsF (fun g hg => Nat.le_trans hsB (Nat.le_of_eq (List.mem_singleton.1 hg).symm))), hsB⟩)
              | trace_state)
          case rest =>
            obtain ⟨gd, rfl, hD, hbD, hgd⟩ := hcut
            have M5 := hide (M4.out.below hbD)
            have M5w := hide M4.out.hB
            have hT6 := hT0
            have hP5 := hP4.out.below hbD hP4.out.lt
            have hTT' := hide (fun w' (hb : Below wc.heap.size wc w') => hTT.out w' (hbD.trans (hb.mono hbD.size)))
            clear hTT hTT' M4 hP4 c6 p1 p2 hcl hlk0 hlk1 hMs' hMa' hq1 hq2 H22
            have p8 : wc.cell? ⟨w1.heap.size, 8, none⟩ = some (.int .i64 ver) := by rw [hP5.cell]; rfl
            have d8 : wc.cell? ⟨gd, 8, none⟩ = some (.int .i64 0) := by rw [hD.cell]; rfl
            have fd8 := hD.frozen 8
            have hD' := hD.set 8 (.int .i64 ver)
            have hgp : gd ≠ w1.heap.size := by omega
            have KD := (Kept.refl wc [gd]).set (g := gd) (.inl (by simp)) 8 (.int .i64 ver)
            have hBg : B ≤ gd := Nat.le_trans M5w.out hgd
            have M6 := hide (M5.out.far KD hD hBg)
            have hP6 := hP5.kept KD (by simpa using hgp.symm)
            have hTT6 := hide (fun w' (hb : Below (wc.setCell ⟨gd, 8, none⟩ (.int .i64 ver)).heap.size (wc.setCell ⟨gd, 8, none⟩ (.int .i64 ver)) w') => hT6.out w' ((M5.out.far KD hD hBg).bel.trans (hb.mono (M5.out.far KD hD hBg).hB)))
            clear hD hbD
            go_upto_region 9 with fail
            generalize wc.setCell ⟨gd, 8, none⟩ (.int .i64 ver) = w6 at *
            clear p8 d8 fd8 hP5 KD M5
            have e0 : w6.cell? ⟨gd, 0, none⟩ = some (.slice none 0 0) := by rw [hD'.cell]; rfl
            have e1 : w6.cell? ⟨gd, 1, none⟩ = some (.int .i64 (wrap64 (nn + 1))) := by rw [hD'.cell]; rfl
            have e2 : w6.cell? ⟨gd, 2, none⟩ = some (.slice oa2 on2 oc2) := by rw [hD'.cell]; rfl
            have e3 : w6.cell? ⟨gd, 3, none⟩ = some (.bool false) := by rw [hD'.cell]; rfl
            have e4 : w6.cell? ⟨gd, 4, none⟩ = some (.bool false) := by rw [hD'.cell]; rfl
            have e5 : w6.cell? ⟨gd, 5, none⟩ = some (.string (pid a pa)) := by rw [hD'.cell]; rfl
            have e6 : w6.cell? ⟨gd, 6, none⟩ = some (.bool false) := by rw [hD'.cell]; rfl
            have e7 : w6.cell? ⟨gd, 7, none⟩ = some (.bool false) := by rw [hD'.cell]; rfl
            have e8 : w6.cell? ⟨gd, 8, none⟩ = some (.int .i64 ver) := by rw [hD'.cell]; rfl
            have e9 : w6.cell? ⟨cp, 5, none⟩ = some (.map (some bm)) := by rw [M6.out.row.cell]; rfl
            have ngm := row_ne_map hD' M6.out.mp
            have ncm := row_ne_map M6.out.row M6.out.mp
            have npm := row_ne_map hP6 M6.out.mp
            have hin : (lookG (cM l (keys vis) m) a).isSome = true := by
              cases hq : lookG (cM l (keys vis) m) a with
              | some _ => rfl
              | none =>
                exfalso
                rw [lookG_none, cM_keys] at hq
                exact hq (List.mem_map.2 ⟨_, List.mem_of_getElem? hmi, rfl⟩)
            have M7 : MemD w (setBlock w6.drew bm (.map (ents (put (mapV ZP.val (cM l (keys vis) m)) a (.agg #[.slice none 0 0, .int .i64 (wrap64 (nn + 1)), .slice oa2 on2 oc2, .bool false, .bool false, .string (pid a pa), .bool false, .bool false, .int .i64 ver]))) (put (mapV ZP.val (cM l (keys vis) m)) a (.agg #[.slice none 0 0, .int .i64 (wrap64 (nn + 1)), .slice oa2 on2 oc2, .bool false, .bool false, .string (pid a pa), .bool false, .bool false, .int .i64 ver])).length)) cp w.heap.size bm B m g (seen ++ [i]) (putG (cM l (keys vis) m) a ⟨⟨none, 0, 0⟩, wrap64 (nn + 1), ⟨oa2, on2, oc2⟩, false, false, pid a pa, false, false, ver⟩) (.map (some bs)) vt' (putG l' a (wrap64 (nn + 1))) (ts ++ vis.map pidZ) ∧ Kept w6.drew (setBlock w6.drew bm (.map (ents (put (mapV ZP.val (cM l (keys vis) m)) a (.agg #[.slice none 0 0, .int .i64 (wrap64 (nn + 1)), .slice oa2 on2 oc2, .bool false, .bool false, .string (pid a pa), .bool false, .bool false, .int .i64 ver]))) (put (mapV ZP.val (cM l (keys vis) m)) a (.agg #[.slice none 0 0, .int .i64 (wrap64 (nn + 1)), .slice oa2 on2 oc2, .bool false, .bool false, .string (pid a pa), .bool false, .bool false, .int .i64 ver])).length)) [bm] := (M6.out.below ((Below.refl _ w6).drew)).putPart a ⟨⟨none, 0, 0⟩, wrap64 (nn + 1), ⟨oa2, on2, oc2⟩, false, false, pid a pa, false, false, ver⟩ hin
            have U := run_put (P := Tryd.prog) Tryd.underlying44 Tryd.underlying9 (w := w6.drew) (r := bm) (l := mapV ZP.val (cM l (keys vis) m)) M6.out.mp a (.agg #[.slice none 0 0, .int .i64 (wrap64 (nn + 1)), .slice oa2 on2 oc2, .bool false, .bool false, .string (pid a pa), .bool false, .bool false, .int .i64 ver])
            have KS : (setBlock w6.drew bm (.map (ents (put (mapV ZP.val (cM l (keys vis) m)) a (.agg #[.slice none 0 0, .int .i64 (wrap64 (nn + 1)), .slice oa2 on2 oc2, .bool false, .bool false, .string (pid a pa), .bool false, .bool false, .int .i64 ver]))) (put (mapV ZP.val (cM l (keys vis) m)) a (.agg #[.slice none 0 0, .int .i64 (wrap64 (nn + 1)), .slice oa2 on2 oc2, .bool false, .bool false, .string (pid a pa), .bool false, .bool false, .int .i64 ver])).length)).cell? ⟨gd, 0, none⟩ = some (.slice none 0 0) ∧ (setBlock w6.drew bm (.map (ents (put (mapV ZP.val (cM l (keys vis) m)) a (.agg #[.slice none 0 0, .int .i64 (wrap64 (nn + 1)), .slice oa2 on2 oc2, .bool false, .bool false, .string (pid a pa), .bool false, .bool false, .int .i64 ver]))) (put (mapV ZP.val (cM l (keys vis) m)) a (.agg #[.slice none 0 0, .int .i64 (wrap64 (nn + 1)), .slice oa2 on2 oc2, .bool false, .bool false, .string (pid a pa), .bool false, .bool false, .int .i64 ver])).length)).cell? ⟨gd, 1, none⟩ = some (.int .i64 (wrap64 (nn + 1))) ∧ (setBlock w6.drew bm (.map (ents (put (mapV ZP.val (cM l (keys vis) m)) a (.agg #[.slice none 0 0, .int .i64 (wrap64 (nn + 1)), .slice oa2 on2 oc2, .bool false, .bool false, .string (pid a pa), .bool false, .bool false, .int .i64 ver]))) (put (mapV ZP.val (cM l (keys vis) m)) a (.agg #[.slice none 0 0, .int .i64 (wrap64 (nn + 1)), .slice oa2 on2 oc2, .bool false, .bool false, .string (pid a pa), .bool false, .bool false, .int .i64 ver])).length)).cell? ⟨gd, 2, none⟩ = some (.slice oa2 on2 oc2) ∧ (setBlock w6.drew bm (.map (ents (put (mapV ZP.val (cM l (keys vis) m)) a (.agg #[.slice none 0 0, .int .i64 (wrap64 (nn + 1)), .slice oa2 on2 oc2, .bool false, .bool false, .string (pid a pa), .bool false, .bool false, .int .i64 ver]))) (put (mapV ZP.val (cM l (keys vis) m)) a (.agg #[.slice none 0 0, .int .i64 (wrap64 (nn + 1)), .slice oa2 on2 oc2, .bool false, .bool false, .string (pid a pa), .bool false, .bool false, .int .i64 ver])).length)).cell? ⟨gd, 3, none⟩ = some (.bool false) ∧ (setBlock w6.drew bm (.map (ents (put (mapV ZP.val (cM l (keys vis) m)) a (.agg #[.slice none 0 0, .int .i64 (wrap64 (nn + 1)), .slice oa2 on2 oc2, .bool false, .bool false, .string (pid a pa), .bool false, .bool false, .int .i64 ver]))) (put (mapV ZP.val (cM l (keys vis) m)) a (.agg #[.slice none 0 0, .int .i64 (wrap64 (nn + 1)), .slice oa2 on2 oc2, .bool false, .bool false, .string (pid a pa), .bool false, .bool false, .int .i64 ver])).length)).cell? ⟨gd, 4, none⟩ = some (.bool false) ∧ (setBlock w6.drew bm (.map (ents (put (mapV ZP.val (cM l (keys vis) m)) a (.agg #[.slice none 0 0, .int .i64 (wrap64 (nn + 1)), .slice oa2 on2 oc2, .bool false, .bool false, .string (pid a pa), .bool false, .bool false, .int .i64 ver]))) (put (mapV ZP.val (cM l (keys vis) m)) a (.agg #[.slice none 0 0, .int .i64 (wrap64 (nn + 1)), .slice oa2 on2 oc2, .bool false, .bool false, .string (pid a pa), .bool false, .bool false, .int .i64 ver])).length)).cell? ⟨gd, 5, none⟩ = some (.string (pid a pa)) ∧ (setBlock w6.drew bm (.map (ents (put (mapV ZP.val (cM l (keys vis) m)) a (.agg #[.slice none 0 0, .int .i64 (wrap64 (nn + 1)), .slice oa2 on2 oc2, .bool false, .bool false, .string (pid a pa), .bool false, .bool false, .int .i64 ver]))) (put (mapV ZP.val (cM l (keys vis) m)) a (.agg #[.slice none 0 0, .int .i64 (wrap64 (nn + 1)), .slice oa2 on2 oc2, .bool false, .bool false, .string (pid a pa), .bool false, .bool false, .int .i64 ver])).length)).cell? ⟨gd, 6, none⟩ = some (.bool false) ∧ (setBlock w6.drew bm (.map (ents (put (mapV ZP.val (cM l (keys vis) m)) a (.agg #[.slice none 0 0, .int .i64 (wrap64 (nn + 1)), .slice oa2 on2 oc2, .bool false, .bool false, .string (pid a pa), .bool false, .bool false, .int .i64 ver]))) (put (mapV ZP.val (cM l (keys vis) m)) a (.agg #[.slice none 0 0, .int .i64 (wrap64 (nn + 1)), .slice oa2 on2 oc2, .bool false, .bool false, .string (pid a pa), .bool false, .bool false, .int .i64 ver])).length)).cell? ⟨gd, 7, none⟩ = some (.bool false) ∧ (setBlock w6.drew bm (.map (ents (put (mapV ZP.val (cM l (keys vis) m)) a (.agg #[.slice none 0 0, .int .i64 (wrap64 (nn + 1)), .slice oa2 on2 oc2, .bool false, .bool false, .string (pid a pa), .bool false, .bool false, .int .i64 ver]))) (put (mapV ZP.val (cM l (keys vis) m)) a (.agg #[.slice none 0 0, .int .i64 (wrap64 (nn + 1)), .slice oa2 on2 oc2, .bool false, .bool false, .string (pid a pa), .bool false, .bool false, .int .i64 ver])).length)).cell? ⟨gd, 8, none⟩ = some (.int .i64 ver) ∧ (setBlock w6.drew bm (.map (ents (put (mapV ZP.val (cM l (keys vis) m)) a (.agg #[.slice none 0 0, .int .i64 (wrap64 (nn + 1)), .slice oa2 on2 oc2, .bool false, .bool false, .string (pid a pa), .bool false, .bool false, .int .i64 ver]))) (put (mapV ZP.val (cM l (keys vis) m)) a (.agg #[.slice none 0 0, .int .i64 (wrap64 (nn + 1)), .slice oa2 on2 oc2, .bool false, .bool false, .string (pid a pa), .bool false, .bool false, .int .i64 ver])).length)).cell? ⟨cp, 5, none⟩ = some (.map (some bm)) := ⟨M7.2.cell e0 (by simpa using ngm), M7.2.cell e1 (by simpa using ngm), M7.2.cell e2 (by simpa using ngm), M7.2.cell e3 (by simpa using ngm), M7.2.cell e4 (by simpa using ngm), M7.2.cell e5 (by simpa using ngm), M7.2.cell e6 (by simpa using ngm), M7.2.cell e7 (by simpa using ngm), M7.2.cell e8 (by simpa using ngm), M7.2.cell e9 (by simpa using ncm)⟩
            have hP7 := RowAt.kept (w := w6.drew) hP6 M7.2 (by simpa using npm)
            replace KS := hide KS
            replace M7 := hide M7
            replace hP7 := hide hP7
            clear M6 hP6 hD'
            go_region_held3 (fun w' => w'.cell? ⟨gd, 0, none⟩ = some (.slice none 0 0) ∧ w'.cell? ⟨gd, 1, none⟩ = some (.int .i64 (wrap64 (nn + 1))) ∧ w'.cell? ⟨gd, 2, none⟩ = some (.slice oa2 on2 oc2) ∧ w'.cell? ⟨gd, 3, none⟩ = some (.bool false) ∧ w'.cell? ⟨gd, 4, none⟩ = some (.bool false) ∧ w'.cell? ⟨gd, 5, none⟩ = some (.string (pid a pa)) ∧ w'.cell? ⟨gd, 6, none⟩ = some (.bool false) ∧ w'.cell? ⟨gd, 7, none⟩ = some (.bool false) ∧ w'.cell? ⟨gd, 8, none⟩ = some (.int .i64 ver) ∧ w'.cell? ⟨cp, 5, none⟩ = some (.map (some bm))) (first | (with_reducible exact KS.out) | go_keep | fail) (fail)
            have HT7 := hide (fun w' (hb : Below (setBlock w6.drew bm (.map (ents (put (mapV ZP.val (cM l (keys vis) m)) a (.agg #[.slice none 0 0, .int .i64 (wrap64 (nn + 1)), .slice oa2 on2 oc2, .bool false, .bool false, .string (pid a pa), .bool false, .bool false, .int .i64 ver]))) (put (mapV ZP.val (cM l (keys vis) m)) a (.agg #[.slice none 0 0, .int .i64 (wrap64 (nn + 1)), .slice oa2 on2 oc2, .bool false, .bool false, .string (pid a pa), .bool false, .bool false, .int .i64 ver])).length)).heap.size (setBlock w6.drew bm (.map (ents (put (mapV ZP.val (cM l (keys vis) m)) a (.agg #[.slice none 0 0, .int .i64 (wrap64 (nn + 1)), .slice oa2 on2 oc2, .bool false, .bool false, .string (pid a pa), .bool false, .bool false, .int .i64 ver]))) (put (mapV ZP.val (cM l (keys vis) m)) a (.agg #[.slice none 0 0, .int .i64 (wrap64 (nn + 1)), .slice oa2 on2 oc2, .bool false, .bool false, .string (pid a pa), .bool false, .bool false, .int .i64 ver])).length)) w') => hT6.out w' (M7.out.1.bel.trans (hb.mono M7.out.1.hB)))
            clear KS U e0 e1 e2 e3 e4 e5 e6 e7 e8 e9 ngm ncm npm hin hTT6 hgp
            go_upto_region 10 with fail
            generalize setBlock w6.drew bm (.map (ents (put (mapV ZP.val (cM l (keys vis) m)) a (.agg #[.slice none 0 0, .int .i64 (wrap64 (nn + 1)), .slice oa2 on2 oc2, .bool false, .bool false, .string (pid a pa), .bool false, .bool false, .int .i64 ver]))) (put (mapV ZP.val (cM l (keys vis) m)) a (.agg #[.slice none 0 0, .int .i64 (wrap64 (nn + 1)), .slice oa2 on2 oc2, .bool false, .bool false, .string (pid a pa), .bool false, .bool false, .int .i64 ver])).length) = w7 at *
            have hPr := hP7.out
            have c9 : w7.cell? ⟨cp, 9, none⟩ = some vt' := by rw [M7.out.1.row.cell]; rfl
            have p1 : w7.cell? ⟨w1.heap.size, 1, none⟩ = some (.int .i64 pa) := by rw [hPr.cell]; rfl
            obtain ⟨ta, tn, tc, hvt⟩ : ∃ a n c, vt' = .slice a n c := by
              obtain ⟨_, ⟨h, _⟩ | ⟨g', cap, cur, h, _⟩⟩ := M7.out.1.tk <;> exact ⟨_, _, _, h⟩
            subst hvt
            obtain ⟨i0, hi9, hz0, hz1, hz2⟩ := info_parts Tryd.info9
            have hlen : (ts ++ vis.map pidZ).length ≤ 1048576 := by simp; omega
            have hcl := M7.out.1.row.lt
            have hpc : ¬ w1.heap.size = cp := row_ne_row hPr M7.out.1.row (by decide)
            have hL : (ts ++ vis.map pidZ).length = ts.length + vis.length := by simp
            replace hL := hide hL
            have c9d : w7.drew.cell? ⟨cp, 9, none⟩ = some (.slice ta tn tc) := c9
            have hB7 := M7.out.1.hB
            clear c9 hms
            have hms := seenOf_at HL.out.mem.it
            have p1d : w7.drew.cell? ⟨w1.heap.size, 1, none⟩ = some (.int .i64 pa) := p1
            refine wp_region_noPanic ?_
            refine wp_region_held_drew (S := fun w' => w'.cell? ⟨w1.heap.size, 1, none⟩ = some (.int .i64 pa)) (by kernel_rfl) p1d (fun hHeld => ?_)
            refine wpAnyH_take (i := 0) (oi := _) (v := ?vzz1) rfl (by kernel_rfl) (by kernel_rfl) (by kernel_rfl) (fun _ _ _ h => h) (Or.inl ⟨by rfl, ?hyz1⟩) (by assumption) ?restz1
            case hyz1 => (intro wz hSw; (try dsimp only at hSw); simp only [List.getElem_toArray, List.getElem_cons_zero, List.getElem_cons_succ]; go_simp; try with_reducible rfl)
            (try simp only [Act.put, List.getElem_toArray, List.getElem_cons_zero, List.getElem_cons_succ, List.setIfInBounds_toArray, List.set_cons_zero, List.set_cons_succ])
            refine wpAnyH_take (i := 1) (oi := _) (v := ?vzz2) rfl (by kernel_rfl) (by kernel_rfl) (by kernel_rfl) (fun _ _ _ h => h) (Or.inl ⟨by rfl, ?hyz2⟩) (by assumption) ?restz2
            case hyz2 => (intro wz hSw; (try dsimp only at hSw); simp only [List.getElem_toArray, List.getElem_cons_zero, List.getElem_cons_succ]; go_simp; try with_reducible rfl)
            (try simp only [Act.put, List.getElem_toArray, List.getElem_cons_zero, List.getElem_cons_succ, List.setIfInBounds_toArray, List.set_cons_zero, List.set_cons_succ])
            refine wpAnyH_take (i := 2) (oi := _) (v := ?vzz3) rfl (by kernel_rfl) (by kernel_rfl) (by kernel_rfl) (fun _ _ _ h => h) (Or.inl ⟨by rfl, ?hyz3⟩) (by assumption) ?restz3
            case hyz3 => (intro wz hSw; (try dsimp only at hSw); simp only [List.getElem_toArray, List.getElem_cons_zero, List.getElem_cons_succ]; go_simp; try with_reducible rfl)
            (try simp only [Act.put, List.getElem_toArray, List.getElem_cons_zero, List.getElem_cons_succ, List.setIfInBounds_toArray, List.set_cons_zero, List.set_cons_succ])
            refine wpAnyH_take (i := 3) (oi := _) (v := ?vzz4) rfl (by kernel_rfl) (by kernel_rfl) (by kernel_rfl) (fun _ _ _ h => h) (Or.inl ⟨by rfl, ?hyz4⟩) (by assumption) ?restz4
            case hyz4 => (intro wz hSw; (try dsimp only at hSw); simp only [List.getElem_toArray, List.getElem_cons_zero, List.getElem_cons_succ]; go_simp; try with_reducible rfl)
            (try simp only [Act.put, List.getElem_toArray, List.getElem_cons_zero, List.getElem_cons_succ, List.setIfInBounds_toArray, List.set_cons_zero, List.set_cons_succ])
            refine wpAnyH_take (i := 5) (oi := _) (v := ?vzz5) rfl (by kernel_rfl) (by kernel_rfl) (by kernel_rfl) (fun _ _ _ h => h) (Or.inl ⟨by rfl, ?hyz5⟩) (by assumption) ?restz5
            case hyz5 => (intro wz hSw; (try dsimp only at hSw); simp only [List.getElem_toArray, List.getElem_cons_zero, List.getElem_cons_succ]; go_simp; try with_reducible rfl)
            (try simp only [Act.put, List.getElem_toArray, List.getElem_cons_zero, List.getElem_cons_succ, List.setIfInBounds_toArray, List.set_cons_zero, List.set_cons_succ])
            refine wpAnyH_take (i := 6) (oi := _) (v := ?vzz6) rfl (by kernel_rfl) (by kernel_rfl) (by kernel_rfl) (fun _ _ _ h => h) (Or.inl ⟨by rfl, ?hyz6⟩) (by assumption) ?restz6
            case hyz6 => (intro wz hSw; (try dsimp only at hSw); simp only [List.getElem_toArray, List.getElem_cons_zero, List.getElem_cons_succ]; go_simp; try with_reducible rfl)
            (try simp only [Act.put, List.getElem_toArray, List.getElem_cons_zero, List.getElem_cons_succ, List.setIfInBounds_toArray, List.set_cons_zero, List.set_cons_succ])
            refine wpAnyH_take (i := 7) (oi := _) (v := ?vzz7) rfl (by kernel_rfl) (by kernel_rfl) (by kernel_rfl) (fun _ _ _ h => h) (Or.inl ⟨by rfl, ?hyz7⟩) (by assumption) ?restz7
            case hyz7 => (intro wz hSw; (try dsimp only at hSw); simp only [List.getElem_toArray, List.getElem_cons_zero, List.getElem_cons_succ]; go_simp; try with_reducible rfl)
            (try simp only [Act.put, List.getElem_toArray, List.getElem_cons_zero, List.getElem_cons_succ, List.setIfInBounds_toArray, List.set_cons_zero, List.set_cons_succ])
            refine wpAnyH_ready (rs := [4, 8]) (by kernel_rfl) (by simp) ?_
            refine AllReadyH.cons (o := _) rfl (fun K hK => ?_) ?_
            · skip
              (try simp only [List.getElem_toArray, List.getElem_cons_zero, List.getElem_cons_succ]); go_simp
              refine hK.out _ _ (p1d) (fun hHeld => ?_)
              clear hK K
              (try simp only [Act.put, List.getElem_toArray, List.getElem_cons_zero, List.getElem_cons_succ, List.setIfInBounds_toArray, List.set_cons_zero, List.set_cons_succ])
              refine wpAnyH_ready (rs := [8]) (by kernel_rfl) (by simp) ?_
              refine AllReadyH.cons (o := _) rfl (fun K hK => ?_) ?_
              · skip
                (try simp only [List.getElem_toArray, List.getElem_cons_zero, List.getElem_cons_succ]); go_simp
                refine (pauseID_any a pa _ (by exact HT7.out _ (Below.refl _ _).drew) sz2 sz3 sz1).mono ?_
                rintro e w' ⟨rfl, hbA⟩
                have M8 := hide (M7.out.1.below (((Below.refl _ w7).drew).trans hbA))
                have hP8 := hPr.below (((Below.refl _ w7).drew).trans hbA) hPr.lt
                have hpA : w'.cell? ⟨w1.heap.size, 1, none⟩ = some (.int .i64 pa) := by rw [hP8.cell]; rfl
                have c9A : w'.cell? ⟨cp, 9, none⟩ = some (.slice ta tn tc) := by rw [M8.out.row.cell]; rfl
                have c9B := keep_alloc (ob := .cells #[.string (pid a pa)] 9) c9A
                have M9 := hide (M8.out.below ((Below.refl _ w').alloc (Nat.le_refl _) (.cells #[.string (pid a pa)] 9)))
                have hP9 := hide (hP8.alloc (.cells #[.string (pid a pa)] 9))
                go_wp2_with fail
                refine hK.out _ _ (hpA) (fun hHeld => ?_)
                clear hK K
                (try simp only [Act.put, List.getElem_toArray, List.getElem_cons_zero, List.getElem_cons_succ, List.setIfInBounds_toArray, List.set_cons_zero, List.set_cons_succ])
                refine wpAnyH_ready (rs := [9]) (by kernel_rfl) (by simp) ?_
                refine AllReadyH.cons (o := _) rfl (fun K hK => ?_) ?_
                · skip
                  (try simp only [List.getElem_toArray, List.getElem_cons_zero, List.getElem_cons_succ]); go_simp
                  refine hK.out _ _ (keep_alloc hpA) (fun hHeld => ?_)
                  clear hK K
                  (try simp only [Act.put, List.getElem_toArray, List.getElem_cons_zero, List.getElem_cons_succ, List.setIfInBounds_toArray, List.set_cons_zero, List.set_cons_succ])
                  refine wpAnyH_ready (rs := [10]) (by kernel_rfl) (by simp) ?_
                  refine AllReadyH.cons (o := _) rfl (fun K hK => ?_) ?_
                  · skip
                    refine step_append_lies _ (by rfl) _ _ _ (by rfl) B 9 i0 _ 1 16 Tryd.underlying24 hi9 hz0 hz1 hz2 rfl (by omega) _ _ _ (by rfl) M9.out.tk ⟨_, 0, none⟩ 1 1 [.string (pid a pa)] (by rfl) rfl (World.news_of_block (heap_alloc_new _ _)) (by simp [Value.oneCell']) (by omega) (by unfold maxLen; omega) (by omega) (by exact M9.out.hB) _ rfl ?_
                    intro g1 cap w9 hown1 hgrow hat hlt9
                    have A := M9.out.append hown1 hgrow
                    rw [hL.out] at A
                    have c9C : w9.cell? ⟨cp, 9, none⟩ = some (.slice ta tn tc) := by rw [A.2.cell]; rfl
                    have f9C := A.2.frozen 9
                    have hpE : w9.cell? ⟨w1.heap.size, 1, none⟩ = some (.int .i64 pa) := by (rw [hgrow.cell_far ⟨w1.heap.size, 1, none⟩ hP9.out.lt (fun e => absurd (List.mem_singleton.2 rfl) (M9.out.tk.ne_row hP9.out (by decide) _ e.symm))]; rw [hP9.out.cell]; rfl)
                    replace A := hide A
                    rw [hL.out]
                    refine hK.out _ _ (hpE) (fun hHeld => ?_)
                    clear hK K
                    (try simp only [Act.put, List.getElem_toArray, List.getElem_cons_zero, List.getElem_cons_succ, List.setIfInBounds_toArray, List.set_cons_zero, List.set_cons_succ])
                    refine wpAnyH_take (i := 11) (oi := _) (v := ?vzz8) rfl (by kernel_rfl) (by kernel_rfl) (by kernel_rfl) (fun _ _ _ h => h) (Or.inl ⟨by rfl, ?hyz8⟩) (by assumption) ?restz8
                    case hyz8 => (intro wz hSw; (try dsimp only at hSw); simp only [List.getElem_toArray, List.getElem_cons_zero, List.getElem_cons_succ]; go_simp; try with_reducible rfl)
                    (try simp only [Act.put, List.getElem_toArray, List.getElem_cons_zero, List.getElem_cons_succ, List.setIfInBounds_toArray, List.set_cons_zero, List.set_cons_succ])
                    refine wpAnyH_take (i := 12) (oi := _) (v := ?vzz9) rfl (by kernel_rfl) (by kernel_rfl) (by kernel_rfl) (fun _ _ _ h => h) (Or.inl ⟨by rfl, ?hyz9⟩) (by assumption) ?restz9
                    case hyz9 => (intro wz hSw; (try dsimp only at hSw); simp only [List.getElem_toArray, List.getElem_cons_zero, List.getElem_cons_succ]; go_simp; try with_reducible rfl)
                    (try simp only [Act.put, List.getElem_toArray, List.getElem_cons_zero, List.getElem_cons_succ, List.setIfInBounds_toArray, List.set_cons_zero, List.set_cons_succ])
                    refine wpAnyH_ready (rs := [13]) (by kernel_rfl) (by simp) ?_
                    refine AllReadyH.cons (o := _) rfl (fun K hK => ?_) ?_
                    · skip
                      (try simp only [List.getElem_toArray, List.getElem_cons_zero, List.getElem_cons_succ]); go_simp
                      refine hK.out _ _ (keep_set hpc hpE) (fun hHeld => ?_)
                      clear hK K
                      (try simp only [Act.put, List.getElem_toArray, List.getElem_cons_zero, List.getElem_cons_succ, List.setIfInBounds_toArray, List.set_cons_zero, List.set_cons_succ])
                      refine wpAnyH_done (by kernel_rfl) ?_ _
                      refine NoPanic.normal ?_
                      have LN := hide (HL.out.step hnd hmi hns rfl A.out.1 (by simp) (by unfold doubtZ; rw [← hsl.out.2]) hsl.out.1)
                      have hmsN := seenOf_at LN.out.mem.it
                      clear A HL M7 M8 M9 hP9 hP7 HT7 hsl hT0 hT6 hnew M5w hb02
                      go_wp2_with fail
                      go_roundw
                      case rel => exact ⟨_, _, _, _, _, LN.out⟩
                      case measure => rw [hmsN, hms]; exact hlt
                    · exact AllReadyH.nil
                  · exact AllReadyH.nil
                · exact AllReadyH.nil
              · exact AllReadyH.nil
            refine AllReadyH.cons (o := _) rfl (fun K hK => ?_) ?_
            · skip
              (try simp only [List.getElem_toArray, List.getElem_cons_zero, List.getElem_cons_succ]); go_simp
              refine (pauseID_any a pa _ (by exact HT7.out _ (Below.refl _ _).drew) sz2 sz3 sz1).mono ?_
              rintro e w' ⟨rfl, hbA⟩
              have M8 := hide (M7.out.1.below (((Below.refl _ w7).drew).trans hbA))
              have hP8 := hPr.below (((Below.refl _ w7).drew).trans hbA) hPr.lt
              have hpA : w'.cell? ⟨w1.heap.size, 1, none⟩ = some (.int .i64 pa) := by rw [hP8.cell]; rfl
              have c9A : w'.cell? ⟨cp, 9, none⟩ = some (.slice ta tn tc) := by rw [M8.out.row.cell]; rfl
              have c9B := keep_alloc (ob := .cells #[.string (pid a pa)] 9) c9A
              have M9 := hide (M8.out.below ((Below.refl _ w').alloc (Nat.le_refl _) (.cells #[.string (pid a pa)] 9)))
              have hP9 := hide (hP8.alloc (.cells #[.string (pid a pa)] 9))
              go_wp2_with fail
              refine hK.out _ _ (hpA) (fun hHeld => ?_)
              clear hK K
              (try simp only [Act.put, List.getElem_toArray, List.getElem_cons_zero, List.getElem_cons_succ, List.setIfInBounds_toArray, List.set_cons_zero, List.set_cons_succ])
              refine wpAnyH_ready (rs := [4, 9]) (by kernel_rfl) (by simp) ?_
              refine AllReadyH.cons (o := _) rfl (fun K hK => ?_) ?_
              · skip
                (try simp only [List.getElem_toArray, List.getElem_cons_zero, List.getElem_cons_succ]); go_simp
                refine hK.out _ _ (hpA) (fun hHeld => ?_)
                clear hK K
                (try simp only [Act.put, List.getElem_toArray, List.getElem_cons_zero, List.getElem_cons_succ, List.setIfInBounds_toArray, List.set_cons_zero, List.set_cons_succ])
                refine wpAnyH_ready (rs := [9]) (by kernel_rfl) (by simp) ?_
                refine AllReadyH.cons (o := _) rfl (fun K hK => ?_) ?_
                · skip
                  (try simp only [List.getElem_toArray, List.getElem_cons_zero, List.getElem_cons_succ]); go_simp
                  refine hK.out _ _ (keep_alloc hpA) (fun hHeld => ?_)
                  clear hK K
                  (try simp only [Act.put, List.getElem_toArray, List.getElem_cons_zero, List.getElem_cons_succ, List.setIfInBounds_toArray, List.set_cons_zero, List.set_cons_succ])
                  refine wpAnyH_ready (rs := [10]) (by kernel_rfl) (by simp) ?_
                  refine AllReadyH.cons (o := _) rfl (fun K hK => ?_) ?_
                  · skip
                    refine step_append_lies _ (by rfl) _ _ _ (by rfl) B 9 i0 _ 1 16 Tryd.underlying24 hi9 hz0 hz1 hz2 rfl (by omega) _ _ _ (by rfl) M9.out.tk ⟨_, 0, none⟩ 1 1 [.string (pid a pa)] (by rfl) rfl (World.news_of_block (heap_alloc_new _ _)) (by simp [Value.oneCell']) (by omega) (by unfold maxLen; omega) (by omega) (by exact M9.out.hB) _ rfl ?_
                    intro g1 cap w9 hown1 hgrow hat hlt9
                    have A := M9.out.append hown1 hgrow
                    rw [hL.out] at A
                    have c9C : w9.cell? ⟨cp, 9, none⟩ = some (.slice ta tn tc) := by rw [A.2.cell]; rfl
                    have f9C := A.2.frozen 9
                    have hpE : w9.cell? ⟨w1.heap.size, 1, none⟩ = some (.int .i64 pa) := by (rw [hgrow.cell_far ⟨w1.heap.size, 1, none⟩ hP9.out.lt (fun e => absurd (List.mem_singleton.2 rfl) (M9.out.tk.ne_row hP9.out (by decide) _ e.symm))]; rw [hP9.out.cell]; rfl)
                    replace A := hide A
                    rw [hL.out]
                    refine hK.out _ _ (hpE) (fun hHeld => ?_)
                    clear hK K
                    (try simp only [Act.put, List.getElem_toArray, List.getElem_cons_zero, List.getElem_cons_succ, List.setIfInBounds_toArray, List.set_cons_zero, List.set_cons_succ])
                    refine wpAnyH_take (i := 11) (oi := _) (v := ?vzz10) rfl (by kernel_rfl) (by kernel_rfl) (by kernel_rfl) (fun _ _ _ h => h) (Or.inl ⟨by rfl, ?hyz10⟩) (by assumption) ?restz10
                    case hyz10 => (intro wz hSw; (try dsimp only at hSw); simp only [List.getElem_toArray, List.getElem_cons_zero, List.getElem_cons_succ]; go_simp; try with_reducible rfl)
                    (try simp only [Act.put, List.getElem_toArray, List.getElem_cons_zero, List.getElem_cons_succ, List.setIfInBounds_toArray, List.set_cons_zero, List.set_cons_succ])
                    refine wpAnyH_take (i := 12) (oi := _) (v := ?vzz11) rfl (by kernel_rfl) (by kernel_rfl) (by kernel_rfl) (fun _ _ _ h => h) (Or.inl ⟨by rfl, ?hyz11⟩) (by assumption) ?restz11
                    case hyz11 => (intro wz hSw; (try dsimp only at hSw); simp only [List.getElem_toArray, List.getElem_cons_zero, List.getElem_cons_succ]; go_simp; try with_reducible rfl)
                    (try simp only [Act.put, List.getElem_toArray, List.getElem_cons_zero, List.getElem_cons_succ, List.setIfInBounds_toArray, List.set_cons_zero, List.set_cons_succ])
                    refine wpAnyH_ready (rs := [13]) (by kernel_rfl) (by simp) ?_
                    refine AllReadyH.cons (o := _) rfl (fun K hK => ?_) ?_
                    · skip
                      (try simp only [List.getElem_toArray, List.getElem_cons_zero, List.getElem_cons_succ]); go_simp
                      refine hK.out _ _ (keep_set hpc hpE) (fun hHeld => ?_)
                      clear hK K
                      (try simp only [Act.put, List.getElem_toArray, List.getElem_cons_zero, List.getElem_cons_succ, List.setIfInBounds_toArray, List.set_cons_zero, List.set_cons_succ])
                      refine wpAnyH_done (by kernel_rfl) ?_ _
                      refine NoPanic.normal ?_
                      have LN := hide (HL.out.step hnd hmi hns rfl A.out.1 (by simp) (by unfold doubtZ; rw [← hsl.out.2]) hsl.out.1)
                      have hmsN := seenOf_at LN.out.mem.it
                      clear A HL M7 M8 M9 hP9 hP7 HT7 hsl hT0 hT6 hnew M5w hb02
                      go_wp2_with fail
                      go_roundw
                      case rel => exact ⟨_, _, _, _, _, LN.out⟩
                      case measure => rw [hmsN, hms]; exact hlt
                    · exact AllReadyH.nil
                  · exact AllReadyH.nil
                · exact AllReadyH.nil
              refine AllReadyH.cons (o := _) rfl (fun K hK => ?_) ?_
              · skip
                (try simp only [List.getElem_toArray, List.getElem_cons_zero, List.getElem_cons_succ]); go_simp
                refine hK.out _ _ (keep_alloc hpA) (fun hHeld => ?_)
                clear hK K
                (try simp only [Act.put, List.getElem_toArray, List.getElem_cons_zero, List.getElem_cons_succ, List.setIfInBounds_toArray, List.set_cons_zero, List.set_cons_succ])
                refine wpAnyH_ready (rs := [4]) (by kernel_rfl) (by simp) ?_
                refine AllReadyH.cons (o := _) rfl (fun K hK => ?_) ?_
                · skip
                  (try simp only [List.getElem_toArray, List.getElem_cons_zero, List.getElem_cons_succ]); go_simp
                  refine hK.out _ _ (keep_alloc hpA) (fun hHeld => ?_)
                  clear hK K
                  (try simp only [Act.put, List.getElem_toArray, List.getElem_cons_zero, List.getElem_cons_succ, List.setIfInBounds_toArray, List.set_cons_zero, List.set_cons_succ])
                  refine wpAnyH_ready (rs := [10]) (by kernel_rfl) (by simp) ?_
                  refine AllReadyH.cons (o := _) rfl (fun K hK => ?_) ?_
                  · skip
                    refine step_append_lies _ (by rfl) _ _ _ (by rfl) B 9 i0 _ 1 16 Tryd.underlying24 hi9 hz0 hz1 hz2 rfl (by omega) _ _ _ (by rfl) M9.out.tk ⟨_, 0, none⟩ 1 1 [.string (pid a pa)] (by rfl) rfl (World.news_of_block (heap_alloc_new _ _)) (by simp [Value.oneCell']) (by omega) (by unfold maxLen; omega) (by omega) (by exact M9.out.hB) _ rfl ?_
                    intro g1 cap w9 hown1 hgrow hat hlt9
                    have A := M9.out.append hown1 hgrow
                    rw [hL.out] at A
                    have c9C : w9.cell? ⟨cp, 9, none⟩ = some (.slice ta tn tc) := by rw [A.2.cell]; rfl
                    have f9C := A.2.frozen 9
                    have hpE : w9.cell? ⟨w1.heap.size, 1, none⟩ = some (.int .i64 pa) := by (rw [hgrow.cell_far ⟨w1.heap.size, 1, none⟩ hP9.out.lt (fun e => absurd (List.mem_singleton.2 rfl) (M9.out.tk.ne_row hP9.out (by decide) _ e.symm))]; rw [hP9.out.cell]; rfl)
                    replace A := hide A
                    rw [hL.out]
                    refine hK.out _ _ (hpE) (fun hHeld => ?_)
                    clear hK K
                    (try simp only [Act.put, List.getElem_toArray, List.getElem_cons_zero, List.getElem_cons_succ, List.setIfInBounds_toArray, List.set_cons_zero, List.set_cons_succ])
                    refine wpAnyH_take (i := 11) (oi := _) (v := ?vzz12) rfl (by kernel_rfl) (by kernel_rfl) (by kernel_rfl) (fun _ _ _ h => h) (Or.inl ⟨by rfl, ?hyz12⟩) (by assumption) ?restz12
                    case hyz12 => (intro wz hSw; (try dsimp only at hSw); simp only [List.getElem_toArray, List.getElem_cons_zero, List.getElem_cons_succ]; go_simp; try with_reducible rfl)
                    (try simp only [Act.put, List.getElem_toArray, List.getElem_cons_zero, List.getElem_cons_succ, List.setIfInBounds_toArray, List.set_cons_zero, List.set_cons_succ])
                    refine wpAnyH_take (i := 12) (oi := _) (v := ?vzz13) rfl (by kernel_rfl) (by kernel_rfl) (by kernel_rfl) (fun _ _ _ h => h) (Or.inl ⟨by rfl, ?hyz13⟩) (by assumption) ?restz13
                    case hyz13 => (intro wz hSw; (try dsimp only at hSw); simp only [List.getElem_toArray, List.getElem_cons_zero, List.getElem_cons_succ]; go_simp; try with_reducible rfl)
                    (try simp only [Act.put, List.getElem_toArray, List.getElem_cons_zero, List.getElem_cons_succ, List.setIfInBounds_toArray, List.set_cons_zero, List.set_cons_succ])
                    refine wpAnyH_ready (rs := [13]) (by kernel_rfl) (by simp) ?_
                    refine AllReadyH.cons (o := _) rfl (fun K hK => ?_) ?_
                    · skip
                      (try simp only [List.getElem_toArray, List.getElem_cons_zero, List.getElem_cons_succ]); go_simp
                      refine hK.out _ _ (keep_set hpc hpE) (fun hHeld => ?_)
                      clear hK K
                      (try simp only [Act.put, List.getElem_toArray, List.getElem_cons_zero, List.getElem_cons_succ, List.setIfInBounds_toArray, List.set_cons_zero, List.set_cons_succ])
                      refine wpAnyH_done (by kernel_rfl) ?_ _
                      refine NoPanic.normal ?_
                      have LN := hide (HL.out.step hnd hmi hns rfl A.out.1 (by simp) (by unfold doubtZ; rw [← hsl.out.2]) hsl.out.1)
                      have hmsN := seenOf_at LN.out.mem.it
                      clear A HL M7 M8 M9 hP9 hP7 HT7 hsl hT0 hT6 hnew M5w hb02
                      go_wp2_with fail
                      go_roundw
                      case rel => exact ⟨_, _, _, _, _, LN.out⟩
                      case measure => rw [hmsN, hms]; exact hlt
                    · exact AllReadyH.nil
                  · exact AllReadyH.nil
                · exact AllReadyH.nil
              · exact AllReadyH.nil
            · exact AllReadyH.nil
end Go.Proofs.Qxb6604717aDoor
