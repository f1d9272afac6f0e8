import Derived.Test.Qxb6604717aDoorPlain
namespace Go.Proofs.Qxb6604717aDoor
open Go.ChangeShapes Go.WideShapes Go.ChangeAt Go.RowKit
open Classical
set_option linter.unusedVariables false
set_option linter.unusedSimpArgs false

/-! ### The last index at each address -/
abbrev nV (n : Nat) : Value := .int .i64 (n : Int)
abbrev bV (b : Bool) : Value := .bool b
def lastG (qs : List PQ) : Nat → List (ByteArray × Nat)
  | 0 => []
  | k + 1 => match qs[k]? with
    | some q => putG (lastG qs k) q.addr k
    | none => lastG qs k
theorem lastG_succ (qs : List PQ) (k : Nat) (h : k < qs.length) : lastG qs (k + 1) = putG (lastG qs k) qs[k].addr k := by
  show (match qs[k]? with | some q => putG (lastG qs k) q.addr k | none => lastG qs k) = _
  rw [List.getElem?_eq_getElem h]
theorem lookG_isSome {α : Type} {l : List (ByteArray × α)} {a : ByteArray} : (lookG l a).isSome = true ↔ a ∈ keys l := by
  cases h : lookG l a with
  | none => simp; exact lookG_none.1 h
  | some v => simp; exact Classical.byContradiction fun hn => by rw [lookG_none.2 hn] at h; cases h
theorem last_keys (qs : List PQ) : ∀ k, k ≤ qs.length → keys (gParts (qs.take k)) = keys (lastG qs k)
  | 0, _ => rfl
  | k + 1, h => by
    have ih := last_keys qs k (by omega)
    rw [gParts_take qs k (by omega), lastG_succ qs k (by omega), keys_putG, keys_putG]
    by_cases hm : qs[k].addr ∈ keys (lastG qs k)
    · rw [if_pos (lookG_isSome.2 (ih ▸ hm)), if_pos (lookG_isSome.2 hm), ih]
    · rw [if_neg (fun c => hm (ih ▸ lookG_isSome.1 c)), if_neg (fun c => hm (lookG_isSome.1 c)), ih]
theorem last_parts (qs : List PQ) (a : ByteArray) : ∀ k, k ≤ qs.length → lookG (gParts (qs.take k)) a = (lookG (lastG qs k) a).bind fun j => qs[j]?
  | 0, _ => rfl
  | k + 1, h => by
    have ih := last_parts qs a k (by omega)
    rw [gParts_take qs k (by omega), lastG_succ qs k (by omega), lookG_putG, lookG_putG]
    by_cases e : qs[k].addr = a
    · rw [if_pos e, if_pos e]; simp
    · rw [if_neg e, if_neg e, ih]
theorem last_at (qs : List PQ) (a : ByteArray) : ∀ k, k ≤ qs.length → ∀ j, lookG (lastG qs k) a = some j → j < k ∧ ∃ q, qs[j]? = some q ∧ q.addr = a
  | 0, _, j, hj => by simp [lastG, lookG] at hj
  | k + 1, h, j, hj => by
    rw [lastG_succ qs k (by omega), lookG_putG] at hj
    by_cases e : qs[k].addr = a
    · rw [if_pos e] at hj
      obtain rfl := Option.some.inj hj
      exact ⟨by omega, _, List.getElem?_eq_getElem (by omega), e⟩
    · rw [if_neg e] at hj
      obtain ⟨h1, h2⟩ := last_at qs a k (by omega) j hj
      exact ⟨by omega, h2⟩
theorem last_some (qs : List PQ) : ∀ k, k ≤ qs.length → ∀ i (h : i < qs.length), i < k → (lookG (lastG qs k) qs[i].addr).isSome = true
  | 0, _, i, _, h => by omega
  | k + 1, h, i, hi, hk => by
    rw [lastG_succ qs k (by omega), lookG_putG]
    by_cases e : qs[k].addr = qs[i].addr
    · rw [if_pos e]; rfl
    · rw [if_neg e]
      have : i ≠ k := fun c => e (by subst c; rfl)
      exact last_some qs k (by omega) i hi (by omega)
abbrev lastAll (qs : List PQ) : List (ByteArray × Nat) := lastG qs qs.length
theorem parts_all (qs : List PQ) (a : ByteArray) : lookG (gParts qs) a = (lookG (lastAll qs) a).bind fun j => qs[j]? := by
  have := last_parts qs a qs.length (Nat.le_refl _)
  rwa [List.take_length] at this
theorem last_len (qs : List PQ) : (gParts qs).length = (lastAll qs).length := by
  have := last_keys qs qs.length (Nat.le_refl _)
  rw [List.take_length] at this
  simpa [keys] using congrArg List.length this
theorem gParts_nodup (qs : List PQ) : (keys (gParts qs)).Nodup := by
  have : ∀ k, k ≤ qs.length → (keys (gParts (qs.take k))).Nodup := by
    intro k
    induction k with
    | zero => intro _; exact List.nodup_nil
    | succ k ih => intro h; rw [gParts_take qs k (by omega)]; exact nodup_putG _ _ (ih (by omega))
  have := this qs.length (Nat.le_refl _)
  rwa [List.take_length] at this
theorem gParts_mem (qs : List PQ) {p : ByteArray × PQ} (h : p ∈ gParts qs) : p.2 ∈ qs ∧ p.2.addr = p.1 := by
  have h1 := lookG_of_mem (gParts_nodup qs) (k := p.1) (v := p.2) h
  rw [parts_all] at h1
  obtain ⟨j, hj, hq⟩ := Option.bind_eq_some_iff.1 h1
  obtain ⟨_, q, h2, h3⟩ := last_at qs p.1 qs.length (Nat.le_refl _) j hj
  rw [hq] at h2
  obtain rfl := Option.some.inj h2
  exact ⟨List.mem_of_getElem? hq, h3⟩
theorem gParts_len (qs : List PQ) : (gParts qs).length ≤ qs.length := by
  have : ∀ k, k ≤ qs.length → (gParts (qs.take k)).length ≤ k := by
    intro k
    induction k with
    | zero => intro _; exact Nat.le_refl _
    | succ k ih =>
      intro h
      rw [gParts_take qs k (by omega), length_putG]
      have := ih (by omega)
      split <;> omega
  have := this qs.length (Nat.le_refl _)
  rwa [List.take_length] at this

/-! ### Those acting -/
def isAct (qs : List PQ) (i : Nat) : Bool := match qs[i]? with
  | some q => decide (lookG (lastAll qs) q.addr = some i) && q.run
  | none => false
theorem isAct_iff (qs : List PQ) {i : Nat} (h : i < qs.length) : isAct qs i = true ↔ lookG (lastAll qs) qs[i].addr = some i ∧ qs[i].run = true := by
  unfold isAct
  rw [List.getElem?_eq_getElem h]
  simp
def adr (qs : List PQ) (i : Nat) : ByteArray := ((qs[i]?).map (·.addr)).getD ByteArray.empty
theorem adr_at (qs : List PQ) {i : Nat} (h : i < qs.length) : adr qs i = qs[i].addr := by simp [adr, h]
/-- How many of the first k are acting, at an address that P takes. -/
def actP (P : ByteArray → Bool) (qs : List PQ) (k : Nat) : Nat := ((List.range k).filter fun i => isAct qs i && P (adr qs i)).length
theorem actP_succ (P : ByteArray → Bool) (qs : List PQ) (k : Nat) : actP P qs (k + 1) = actP P qs k + if (isAct qs k && P (adr qs k)) = true then 1 else 0 := by
  unfold actP
  rw [List.range_succ, List.filter_append, List.length_append]
  congr 1
  by_cases h : (isAct qs k && P (adr qs k)) = true
  · rw [if_pos h, List.filter_cons, if_pos h]; rfl
  · rw [if_neg h, List.filter_cons, if_neg h]; rfl
theorem actP_le (P : ByteArray → Bool) (qs : List PQ) (k : Nat) : actP P qs k ≤ k := by
  unfold actP
  have := List.length_filter_le (fun i => isAct qs i && P (adr qs i)) (List.range k)
  simpa using this
theorem act_count (P : ByteArray → Bool) (qs : List PQ) (vis : List (ByteArray × ZP)) (hn : (keys vis).Nodup) (hv : ∀ a, a ∈ keys vis ↔ ∃ q, lookG (gParts qs) a = some q ∧ q.run = true) :
    actP P qs qs.length = (vis.filter fun p => P p.1).length := by
  have hI : ∀ i, i ∈ (List.range qs.length).filter (fun i => isAct qs i && P (adr qs i)) ↔ ∃ h : i < qs.length, (lookG (lastAll qs) qs[i].addr = some i ∧ qs[i].run = true) ∧ P qs[i].addr = true := by
    intro i
    rw [List.mem_filter, List.mem_range, Bool.and_eq_true]
    constructor
    · rintro ⟨h, h1, h2⟩
      exact ⟨h, (isAct_iff qs h).1 h1, by rwa [adr_at qs h] at h2⟩
    · rintro ⟨h, h1, h2⟩
      exact ⟨h, (isAct_iff qs h).2 h1, by rwa [adr_at qs h]⟩
  have n1 : (((List.range qs.length).filter (fun i => isAct qs i && P (adr qs i))).map (adr qs)).Nodup := by
    rw [List.nodup_iff_pairwise_ne, List.pairwise_map]
    refine List.Pairwise.imp_of_mem (R := fun a b => a ≠ b) ?_ (List.nodup_iff_pairwise_ne.1 (List.Pairwise.filter _ List.nodup_range))
    intro a b ha hb hab e
    obtain ⟨h1, ⟨h2, _⟩, _⟩ := (hI a).1 ha
    obtain ⟨h3, ⟨h4, _⟩, _⟩ := (hI b).1 hb
    rw [adr_at qs h1, adr_at qs h3] at e
    rw [e, h4] at h2
    exact hab (Option.some.inj h2).symm
  have n2 : ((keys vis).filter P).Nodup := List.Pairwise.filter _ hn
  have hp := (List.perm_ext_iff_of_nodup n1 n2).2 (by
    intro a
    rw [List.mem_map, List.mem_filter, hv]
    constructor
    · rintro ⟨i, hi, rfl⟩
      obtain ⟨h, ⟨h1, h2⟩, h3⟩ := (hI i).1 hi
      rw [adr_at qs h]
      refine ⟨⟨qs[i], ?_, h2⟩, h3⟩
      rw [parts_all, h1]; simp [h]
    · rintro ⟨⟨q, hq, hr⟩, hP⟩
      rw [parts_all] at hq
      obtain ⟨j, hj, hjq⟩ := Option.bind_eq_some_iff.1 hq
      obtain ⟨hlt, q', h2, h3⟩ := last_at qs a qs.length (Nat.le_refl _) j hj
      rw [hjq] at h2
      obtain rfl := Option.some.inj h2
      have hqj : qs[j] = q := by have := List.getElem?_eq_getElem hlt; rw [hjq] at this; exact (Option.some.inj this).symm
      refine ⟨j, (hI j).2 ⟨hlt, ⟨by rw [hqj, h3]; exact hj, by rw [hqj]; exact hr⟩, by rw [hqj, h3]; exact hP⟩, by rw [adr_at qs hlt, hqj, h3]⟩)
  have hl := hp.length_eq
  rw [List.length_map] at hl
  have e : (keys vis).filter P = (vis.filter fun p => P p.1).map (·.1) := by
    unfold keys
    rw [List.filter_map]; rfl
  rw [e, List.length_map] at hl
  exact hl
theorem act_all (qs : List PQ) (vis : List (ByteArray × ZP)) (hn : (keys vis).Nodup) (hv : ∀ a, a ∈ keys vis ↔ ∃ q, lookG (gParts qs) a = some q ∧ q.run = true) : actP (fun _ => true) qs qs.length = vis.length := by
  rw [act_count (fun _ => true) qs vis hn hv]
  rw [List.filter_eq_self.2 (by simp)]

/-! ### From the checkpoint's parts to their readings -/
theorem MOwn.back {w : World} {k : ByteArray} {z : ZP} : ∀ {m : List (ByteArray × ZP)} {g : List (ByteArray × PQ)}, MOwn w m g → lookG m k = some z → ∃ q, lookG g k = some q ∧ OwnZ w z q
  | [], [], _, h => by simp [lookG] at h
  | a :: m, b :: g, h, hl => by
    unfold lookG at hl ⊢
    by_cases e : a.1 = k
    · have e' : b.1 = k := h.1 ▸ e
      simp only [e, if_true] at hl
      obtain rfl := Option.some.inj hl
      exact ⟨b.2, by simp [e'], h.2.1⟩
    · have e' : ¬ b.1 = k := fun c => e (h.1.trans c)
      simp only [e, if_false] at hl
      obtain ⟨q, h1, h2⟩ := h.2.2.back hl
      exact ⟨q, by simp [e', h1], h2⟩
  | [], _ :: _, h, _ => h.elim
  | _ :: _, [], h, _ => h.elim
theorem OwnZ.run {w : World} {z : ZP} {q : PQ} (h : OwnZ w z q) : z.run = q.run := by rw [h.1]; rfl
theorem OwnZ.pause {w : World} {z : ZP} {q : PQ} (h : OwnZ w z q) : z.pause = q.pause := by rw [h.1]; rfl
theorem OwnZ.ver {w : World} {z : ZP} {q : PQ} (h : OwnZ w z q) : z.ver = q.ver := by rw [h.1]; rfl
theorem vis_keys {w : World} {m : List (ByteArray × ZP)} {g : List (ByteArray × PQ)} {vis : List (ByteArray × ZP)} (h : MOwn w m g) (hn : (keys g).Nodup) (hv : ∀ p, p ∈ vis ↔ p ∈ m ∧ p.2.run = true) (a : ByteArray) :
    a ∈ keys vis ↔ ∃ q, lookG g a = some q ∧ q.run = true := by
  have hnm : (keys m).Nodup := by rw [h.keys]; exact hn
  constructor
  · intro ha
    obtain ⟨p, hp, rfl⟩ := List.mem_map.1 ha
    obtain ⟨h1, h2⟩ := (hv p).1 hp
    obtain ⟨q, h3, h4⟩ := h.back (lookG_of_mem hnm (k := p.1) (v := p.2) h1)
    exact ⟨q, h3, by rw [← h4.run]; exact h2⟩
  · rintro ⟨q, h1, h2⟩
    obtain ⟨z, h3, h4⟩ := h.look h1
    exact List.mem_map.2 ⟨(a, z), (hv (a, z)).2 ⟨mem_of_lookG h3, by rw [h4.run]; exact h2⟩, rfl⟩

/-! ### The ids -/
theorem decDigits_35 (u : Nat) : (35 : UInt8) ∉ Lib.decDigits u := by
  rw [Lib.decDigits_eq]
  intro h
  obtain ⟨t, _, ht⟩ := List.mem_map.1 h
  unfold Lib.dg at ht
  have := congrArg UInt8.toNat ht
  simp at this
  omega
theorem itoa_35 (n : Int) : (35 : UInt8) ∉ Lib.itoa n := by
  unfold Lib.itoa
  split
  · simp [decDigits_35]
  · exact decDigits_35 _
theorem split_last {c : UInt8} : ∀ {l1 l2 s1 s2 : List UInt8}, l1 ++ c :: s1 = l2 ++ c :: s2 → c ∉ s1 → c ∉ s2 → l1 = l2
  | [], [], _, _, _, _, _ => rfl
  | [], y :: l2, s1, s2, h, h1, _ => by
    simp at h
    exact absurd (by rw [h.2]; simp) h1
  | x :: l1, [], s1, s2, h, _, h2 => by
    simp at h
    exact absurd (by rw [← h.2]; simp) h2
  | x :: l1, y :: l2, s1, s2, h, h1, h2 => by
    simp at h
    rw [h.1, split_last h.2 h1 h2]
theorem pid_inj {a b : ByteArray} {n k : Int} (h : pid a n = pid b k) : a = b := by
  unfold pid at h
  have h' := congrArg (fun x : ByteArray => x.data.toList) h
  simp at h'
  have := split_last h' (itoa_35 n) (itoa_35 k)
  cases a; cases b
  simp at this
  rw [this]
theorem pids_nodup {vis : List (ByteArray × ZP)} (h : (keys vis).Nodup) : (vis.map pidZ).Nodup := by
  rw [List.nodup_iff_pairwise_ne, List.pairwise_map]
  have h2 : vis.Pairwise fun a b => a.1 ≠ b.1 := by
    have := List.nodup_iff_pairwise_ne.1 h
    unfold keys at this
    rwa [List.pairwise_map] at this
  exact List.Pairwise.imp_of_mem (fun _ _ hab e => hab (pid_inj e)) h2

/-- The ids that the law expects. -/
def freshG (qs : List PQ) : Nat → List (ByteArray × Bool)
  | 0 => []
  | k + 1 => match qs[k]? with
    | some q => if isAct qs k then putG (freshG qs k) (pid q.addr q.pause) true else freshG qs k
    | none => freshG qs k
theorem freshG_yes (qs : List PQ) (k : Nat) (h : k < qs.length) (ha : isAct qs k = true) : freshG qs (k + 1) = putG (freshG qs k) (pid qs[k].addr qs[k].pause) true := by
  show (match qs[k]? with | some q => if isAct qs k then putG (freshG qs k) (pid q.addr q.pause) true else freshG qs k | none => freshG qs k) = _
  rw [List.getElem?_eq_getElem h]
  simp [ha]
theorem freshG_no (qs : List PQ) (k : Nat) (h : k < qs.length) (ha : isAct qs k = false) : freshG qs (k + 1) = freshG qs k := by
  show (match qs[k]? with | some q => if isAct qs k then putG (freshG qs k) (pid q.addr q.pause) true else freshG qs k | none => freshG qs k) = _
  rw [List.getElem?_eq_getElem h]
  simp [ha]
theorem freshG_has (qs : List PQ) : ∀ k, k ≤ qs.length → ∀ i (h : i < qs.length), i < k → isAct qs i = true → lookG (freshG qs k) (pid qs[i].addr qs[i].pause) = some true
  | 0, _, i, _, h, _ => by omega
  | k + 1, hk, i, hi, h, ha => by
    by_cases e : i = k
    · subst e
      rw [freshG_yes qs i hi ha, lookG_putG, if_pos rfl]
    · have ih := freshG_has qs k (by omega) i hi (by omega) ha
      cases hb : isAct qs k with
      | true =>
        rw [freshG_yes qs k (by omega) hb, lookG_putG]
        split
        · rfl
        · exact ih
      | false => rw [freshG_no qs k (by omega) hb]; exact ih
def seenG (ids : List ByteArray) : Nat → List (ByteArray × Bool)
  | 0 => []
  | k + 1 => match ids[k]? with
    | some x => putG (seenG ids k) x true
    | none => seenG ids k
theorem seenG_succ (ids : List ByteArray) (k : Nat) (h : k < ids.length) : seenG ids (k + 1) = putG (seenG ids k) ids[k] true := by
  show (match ids[k]? with | some x => putG (seenG ids k) x true | none => seenG ids k) = _
  rw [List.getElem?_eq_getElem h]
theorem seenG_none (ids : List ByteArray) (hn : ids.Nodup) : ∀ k, k ≤ ids.length → ∀ i (h : i < ids.length), k ≤ i → lookG (seenG ids k) ids[i] = none
  | 0, _, i, _, _ => rfl
  | k + 1, hk, i, hi, h => by
    rw [seenG_succ ids k (by omega), lookG_putG, if_neg, seenG_none ids hn k (by omega) i hi (by omega)]
    intro e
    exact (List.pairwise_iff_getElem.1 (List.nodup_iff_pairwise_ne.1 hn)) k i (by omega) hi (by omega) e
/-- Every id that openInDoubt has added is one that the law expects. -/
theorem fresh_vis {w : World} {qs : List PQ} {m : List (ByteArray × ZP)} {vis : List (ByteArray × ZP)} (h : MOwn w m (gParts qs)) (hv : ∀ p, p ∈ vis ↔ p ∈ m ∧ p.2.run = true) (p : ByteArray × ZP) (hp : p ∈ vis) : lookG (freshG qs qs.length) (pidZ p) = some true := by
  obtain ⟨h1, h2⟩ := (hv p).1 hp
  have hnm : (keys m).Nodup := by rw [h.keys]; exact gParts_nodup qs
  obtain ⟨q, h3, h4⟩ := h.back (lookG_of_mem hnm (k := p.1) (v := p.2) h1)
  rw [parts_all] at h3
  obtain ⟨j, hj, hjq⟩ := Option.bind_eq_some_iff.1 h3
  obtain ⟨hlt, q', h5, h6⟩ := last_at qs p.1 qs.length (Nat.le_refl _) j hj
  rw [hjq] at h5
  obtain rfl := Option.some.inj h5
  have hqj : qs[j] = q := by have := List.getElem?_eq_getElem hlt; rw [hjq] at this; exact (Option.some.inj this).symm
  have ha : isAct qs j = true := (isAct_iff qs hlt).2 ⟨by rw [hqj, h6]; exact hj, by rw [hqj, ← h4.run]; exact h2⟩
  have := freshG_has qs qs.length (Nat.le_refl _) j hlt hlt ha
  rw [hqj, h6] at this
  unfold pidZ
  rw [h4.pause]
  exact this
end Go.Proofs.Qxb6604717aDoor
