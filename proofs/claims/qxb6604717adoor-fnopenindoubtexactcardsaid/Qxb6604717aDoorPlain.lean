import Derived.Test.Qxb6604717aDoorBuild
namespace Go.Proofs.Qxb6604717aDoor
open Go.ChangeShapes Go.WideShapes Go.ChangeAt Go.RowKit
open Go.ChangeMaps (setBlock)
open Classical
set_option linter.unusedVariables false

/-! ### What openInDoubt does, plainly -/
def inc (l : List (ByteArray × Int)) (a : ByteArray) : Int := wrap64 ((lookG l a).getD 0 + 1)
def doubtZ (l : List (ByteArray × Int)) (a : ByteArray) (z : ZP) : ZP := ⟨⟨none, 0, 0⟩, inc l a, z.vs, false, false, pid a z.pause, false, false, z.ver⟩
def doubtQ (l : List (ByteArray × Int)) (a : ByteArray) (q : PQ) : PQ := ⟨q.addr, none, inc l a, q.state, false, false, pid a q.pause, false, false, q.ver⟩
def has : List ByteArray → ByteArray → Bool
  | [], _ => false
  | k :: ks, a => decide (k = a) || has ks a
theorem has_iff {ks : List ByteArray} {a : ByteArray} : has ks a = true ↔ a ∈ ks := by
  induction ks with
  | nil => simp [has]
  | cons k ks ih => rw [has, Bool.or_eq_true, ih, decide_eq_true_iff, List.mem_cons, eq_comm]
theorem has_append (ks : List ByteArray) (a x : ByteArray) : has (ks ++ [a]) x = (has ks x || decide (a = x)) := by
  induction ks with
  | nil => simp [has]
  | cons k ks ih => simp [has, ih, Bool.or_assoc]
def cM (l : List (ByteArray × Int)) (ks : List ByteArray) (m : List (ByteArray × ZP)) : List (ByteArray × ZP) := m.map fun p => (p.1, if has ks p.1 then doubtZ l p.1 p.2 else p.2)
def cG (l : List (ByteArray × Int)) (ks : List ByteArray) (g : List (ByteArray × PQ)) : List (ByteArray × PQ) := g.map fun p => (p.1, if has ks p.1 then doubtQ l p.1 p.2 else p.2)
def pidZ (p : ByteArray × ZP) : ByteArray := pid p.1 p.2.pause

theorem cM_nil (l : List (ByteArray × Int)) (m : List (ByteArray × ZP)) : cM l [] m = m := by simp [cM, has]
theorem cM_length (l : List (ByteArray × Int)) (ks : List ByteArray) (m : List (ByteArray × ZP)) : (cM l ks m).length = m.length := by simp [cM]
theorem cM_keys (l : List (ByteArray × Int)) (ks : List ByteArray) (m : List (ByteArray × ZP)) : keys (cM l ks m) = keys m := by simp [cM, keys]
theorem cG_keys (l : List (ByteArray × Int)) (ks : List ByteArray) (m : List (ByteArray × PQ)) : keys (cG l ks m) = keys m := by simp [cG, keys]
theorem cM_get (l : List (ByteArray × Int)) (ks : List ByteArray) (m : List (ByteArray × ZP)) (i : Nat) : (cM l ks m)[i]? = (m[i]?).map fun p => (p.1, if has ks p.1 then doubtZ l p.1 p.2 else p.2) := by simp [cM]
theorem cM_other (l : List (ByteArray × Int)) (ks : List ByteArray) (a : ByteArray) (m : List (ByteArray × ZP)) (h : a ∉ keys m) : cM l (ks ++ [a]) m = cM l ks m := by
  unfold cM
  apply List.map_congr_left
  intro p hp
  have : ¬ a = p.1 := fun e => h (by rw [e]; exact List.mem_map.2 ⟨p, hp, rfl⟩)
  simp [has_append, this]
theorem cM_put (l : List (ByteArray × Int)) (ks : List ByteArray) (a : ByteArray) (z : ZP) : ∀ (m : List (ByteArray × ZP)), (keys m).Nodup → (a, z) ∈ m → putG (cM l ks m) a (doubtZ l a z) = cM l (ks ++ [a]) m
  | [], _, h => by simp at h
  | p :: m, hn, h => by
    have hn' : p.1 ∉ keys m ∧ (keys m).Nodup := by simpa [keys] using hn
    show putG ((p.1, if has ks p.1 then doubtZ l p.1 p.2 else p.2) :: cM l ks m) a (doubtZ l a z) = (p.1, if has (ks ++ [a]) p.1 then doubtZ l p.1 p.2 else p.2) :: cM l (ks ++ [a]) m
    unfold putG
    by_cases e : p.1 = a
    · rw [if_pos e]
      have hp : p = (a, z) := by
        rcases List.mem_cons.1 h with h | h
        · exact h.symm
        · exact absurd (List.mem_map.2 ⟨_, h, rfl⟩) (by rw [← e]; exact hn'.1)
      subst hp
      rw [cM_other l ks a m hn'.1]
      simp [has_append]
    · rw [if_neg e]
      have hm : (a, z) ∈ m := by
        rcases List.mem_cons.1 h with h | h
        · exact absurd (by rw [← h]) e
        · exact h
      rw [cM_put l ks a z m hn'.2 hm]
      simp [has_append, show ¬ a = p.1 from fun c => e c.symm]
theorem OwnZ.doubt {w : World} {z : ZP} {q : PQ} (l : List (ByteArray × Int)) (a : ByteArray) (h : OwnZ w z q) : OwnZ w (doubtZ l a z) (doubtQ l a q) := by
  obtain ⟨h1, h2, h3⟩ := h
  refine ⟨?_, .inl ⟨rfl, rfl⟩, h3⟩
  have hp : z.pause = q.pause := by rw [h1]; rfl
  have hv : z.ver = q.ver := by rw [h1]; rfl
  simp [doubtZ, zOf, doubtQ, hp, hv]
theorem MOwn.c {w : World} (l : List (ByteArray × Int)) (ks : List ByteArray) : ∀ {m : List (ByteArray × ZP)} {g : List (ByteArray × PQ)}, MOwn w m g → MOwn w (cM l ks m) (cG l ks g)
  | [], [], _ => trivial
  | a :: m, b :: g, h => by
    refine ⟨h.1, ?_, h.2.2.c l ks⟩
    show OwnZ w (if has ks a.1 then doubtZ l a.1 a.2 else a.2) (if has ks b.1 then doubtQ l b.1 b.2 else b.2)
    rw [← h.1]
    split
    · exact h.2.1.doubt l a.1
    · exact h.2.1
  | [], _ :: _, h => h.elim
  | _ :: _, [], h => h.elim

theorem nodup_at {α : Type} {m : List (ByteArray × α)} (h : (keys m).Nodup) {i j : Nat} {p q : ByteArray × α} (hi : m[i]? = some p) (hj : m[j]? = some q) (e : p.1 = q.1) : i = j := by
  rw [List.nodup_iff_pairwise_ne, List.pairwise_iff_getElem] at h
  obtain ⟨h1, rfl⟩ := List.getElem?_eq_some_iff.1 hi
  obtain ⟨h2, rfl⟩ := List.getElem?_eq_some_iff.1 hj
  rcases Nat.lt_trichotomy i j with hl | hl | hl
  · exact absurd (by simpa [keys] using e) (h i j (by simpa [keys] using h1) (by simpa [keys] using h2) hl)
  · exact hl
  · exact absurd (by simpa [keys] using e.symm) (h j i (by simpa [keys] using h2) (by simpa [keys] using h1) hl)

/-- What has been done when the indices seen have been handed out. -/
structure Vis (m : List (ByteArray × ZP)) (seen : List Nat) (vis : List (ByteArray × ZP)) : Prop where
  from_ : ∀ p ∈ vis, p.2.run = true ∧ ∃ i ∈ seen, m[i]? = some p
  all : ∀ i ∈ seen, ∀ p, m[i]? = some p → p.2.run = true → p ∈ vis
  nodup : (keys vis).Nodup
theorem Vis.nil (m : List (ByteArray × ZP)) : Vis m [] [] := ⟨fun _ h => absurd h List.not_mem_nil, fun _ h => absurd h List.not_mem_nil, List.nodup_nil⟩
theorem Vis.fresh {m : List (ByteArray × ZP)} {seen : List Nat} {vis : List (ByteArray × ZP)} (h : Vis m seen vis) (hn : (keys m).Nodup) {i : Nat} {p : ByteArray × ZP} (hp : m[i]? = some p) (hi : i ∉ seen) : p.1 ∉ keys vis := by
  intro hm
  obtain ⟨q, hq, e⟩ := List.mem_map.1 hm
  obtain ⟨_, j, hj, hjq⟩ := h.from_ q hq
  exact hi ((nodup_at hn hp hjq e.symm) ▸ hj)
theorem Vis.skip {m : List (ByteArray × ZP)} {seen : List Nat} {vis : List (ByteArray × ZP)} (h : Vis m seen vis) {i : Nat} {p : ByteArray × ZP} (hp : m[i]? = some p) (hr : p.2.run = false) : Vis m (seen ++ [i]) vis := by
  refine ⟨fun q hq => ?_, fun j hj q hq hrq => ?_, h.nodup⟩
  · obtain ⟨h1, j, h2, h3⟩ := h.from_ q hq
    exact ⟨h1, j, List.mem_append_left _ h2, h3⟩
  · rcases List.mem_append.1 hj with hj | hj
    · exact h.all j hj q hq hrq
    · simp at hj; subst hj
      rw [hp] at hq
      obtain rfl := Option.some.inj hq
      rw [hr] at hrq; cases hrq
theorem Vis.step {m : List (ByteArray × ZP)} {seen : List Nat} {vis : List (ByteArray × ZP)} (h : Vis m seen vis) (hn : (keys m).Nodup) {i : Nat} {p : ByteArray × ZP} (hp : m[i]? = some p) (hi : i ∉ seen) (hr : p.2.run = true) : Vis m (seen ++ [i]) (vis ++ [p]) := by
  have hf := h.fresh hn hp hi
  refine ⟨fun q hq => ?_, fun j hj q hq hrq => ?_, ?_⟩
  · rcases List.mem_append.1 hq with hq | hq
    · obtain ⟨h1, j, h2, h3⟩ := h.from_ q hq
      exact ⟨h1, j, List.mem_append_left _ h2, h3⟩
    · simp at hq; subst hq
      exact ⟨hr, i, by simp, hp⟩
  · rcases List.mem_append.1 hj with hj | hj
    · exact List.mem_append_left _ (h.all j hj q hq hrq)
    · simp at hj; subst hj
      rw [hp] at hq
      obtain rfl := Option.some.inj hq
      simp
  · have : keys (vis ++ [p]) = keys vis ++ [p.1] := by simp [keys]
    rw [this, List.nodup_append]
    refine ⟨h.nodup, by simp, ?_⟩
    intro a ha b hb
    simp at hb; subst hb
    rintro rfl
    exact hf ha
theorem Vis.done {m : List (ByteArray × ZP)} {seen : List Nat} {vis : List (ByteArray × ZP)} (h : Vis m seen vis) (hs : ∀ i, i < m.length → i ∈ seen) (p : ByteArray × ZP) : p ∈ vis ↔ p ∈ m ∧ p.2.run = true := by
  constructor
  · intro hp
    obtain ⟨h1, i, _, h3⟩ := h.from_ p hp
    exact ⟨List.mem_of_getElem? h3, h1⟩
  · rintro ⟨hp, hr⟩
    obtain ⟨i, hi⟩ := List.getElem?_of_mem hp
    exact h.all i (hs i (List.getElem?_eq_some_iff.1 hi).1) p hi hr

/-- The counts behind it. -/
structure SeqIs (l : List (ByteArray × Int)) (vis : List (ByteArray × ZP)) (l' : List (ByteArray × Int)) : Prop where
  look : ∀ a, lookG l' a = if a ∈ keys vis then some (inc l a) else lookG l a
  len : l'.length = l.length + (vis.filter fun p => (lookG l p.1).isNone).length
theorem SeqIs.nil (l : List (ByteArray × Int)) : SeqIs l [] l := ⟨fun a => by simp [keys], by simp⟩
theorem SeqIs.step {l l' : List (ByteArray × Int)} {vis : List (ByteArray × ZP)} (h : SeqIs l vis l') (p : ByteArray × ZP) (hf : p.1 ∉ keys vis) : SeqIs l (vis ++ [p]) (putG l' p.1 (inc l' p.1)) ∧ inc l' p.1 = inc l p.1 := by
  have e : lookG l' p.1 = lookG l p.1 := by rw [h.look, if_neg hf]
  have ei : inc l' p.1 = inc l p.1 := by unfold inc; rw [e]
  refine ⟨⟨fun a => ?_, ?_⟩, ei⟩
  · rw [lookG_putG, ei, h.look]
    have hk : keys (vis ++ [p]) = keys vis ++ [p.1] := by simp [keys]
    rw [hk]
    by_cases h1 : p.1 = a
    · subst h1; simp
    · have h2 : ¬ a = p.1 := fun c => h1 c.symm
      simp [h1, h2]
  · rw [length_putG, e, h.len, List.filter_append]
    cases hl : lookG l p.1 with
    | none => simp [hl]; omega
    | some x => simp [hl]

/-! ### The measure of the range -/
def seenOf (w : World) (r : Nat) : List Nat := match w.heap[r]? with | some (.mapIter _ _ s _) => s.toList | _ => []
theorem seenOf_at {w : World} {r bm n : Nat} {seen : List Nat} (h : IterAt w r bm n seen) : seenOf w r = seen := by
  unfold seenOf; unfold IterAt at h; rw [h]
def leftN (n : Nat) (seen : List Nat) : Nat := ((List.range n).filter fun i => !seen.contains i).length
theorem filter_lt {α : Type} (p q : α → Bool) (hpq : ∀ x, q x = true → p x = true) (x : α) (hx : p x = true) (hx' : q x = false) : ∀ (l : List α), x ∈ l → (l.filter q).length < (l.filter p).length
  | [], h => by simp at h
  | y :: l, h => by
    have mono : ∀ (l : List α), (l.filter q).length ≤ (l.filter p).length := fun l => by
      induction l with
      | nil => simp
      | cons z l ih =>
        simp only [List.filter_cons]
        by_cases hq : q z = true
        · simp [hq, hpq z hq]; exact ih
        · by_cases hp : p z = true
          · simp [hq, hp]; omega
          · simp [hq, hp]; exact ih
    simp only [List.filter_cons]
    rcases List.mem_cons.1 h with rfl | h
    · simp [hx, hx']; have := mono l; omega
    · have ih := filter_lt p q hpq x hx hx' l h
      by_cases hq : q y = true
      · simp [hq, hpq y hq]; exact ih
      · by_cases hp : p y = true
        · simp [hq, hp]; omega
        · simp [hq, hp]; exact ih
theorem leftN_lt {n i : Nat} {seen : List Nat} (h : i < n) (hi : i ∉ seen) : leftN n (seen ++ [i]) < leftN n seen := by
  unfold leftN
  refine filter_lt _ _ (fun x hx => ?_) i (by simpa using hi) (by simp) _ (by simpa using h)
  simp at hx ⊢
  exact hx.1
end Go.Proofs.Qxb6604717aDoor
