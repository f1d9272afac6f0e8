import Derived.WalkKit
namespace Go.Proofs.Qxb6604165a
open Go.RowKit

def Dig (c : UInt8) : Prop := 48 ≤ (c.toNat : Int) ∧ (c.toNat : Int) ≤ 57
def nd (l : List UInt8) : List UInt8 := l.filter fun c => c != 46
def val (l : List UInt8) : Int := l.foldl (fun v c => v * 10 + ((c.toNat : Int) - 48)) 0
/-- The value of the first eighteen digits. -/
def val18 (l : List UInt8) : Int := val ((nd l).take 18)

def Plain (l : List UInt8) : Prop := l ≠ [] ∧ ∀ c ∈ l, Dig c
def Pointed (l : List UInt8) (p : Nat) : Prop := 0 < p ∧ p + 1 < l.length ∧ l[p]? = some 46 ∧ ∀ i c, l[i]? = some c → i ≠ p → Dig c
def Bad (l : List UInt8) : Prop := ¬ Plain l ∧ ∀ p, ¬ Pointed l p

def sgn (neg : Bool) (v : Int) : Int := if neg = true then -v else v

/-- What scan is to answer on a body 'l' under a sign. -/
def Res (l : List UInt8) (neg : Bool) (d f c : Int) (ok : Bool) : Prop :=
  (Plain l ∧ d = l.length ∧ f = 0 ∧ c = sgn neg (val18 l) ∧ ok = true) ∨
  (∃ p, Pointed l p ∧ d = (l.length : Int) - 1 ∧ f = (l.length : Int) - 1 - p ∧ c = sgn neg (val18 l) ∧ ok = true) ∨
  (Bad l ∧ d = 0 ∧ f = 0 ∧ c = 0 ∧ ok = false)

theorem not_dig_dot : ¬ Dig 46 := by unfold Dig; decide
theorem plain_not_pointed {l : List UInt8} {p : Nat} (h : Plain l) (hp : Pointed l p) : False :=
  not_dig_dot (h.2 46 (List.mem_of_getElem? hp.2.2.1))
theorem pointed_unique {l : List UInt8} {p q : Nat} (h : Pointed l p) (hq : Pointed l q) : p = q := by
  apply Classical.byContradiction
  intro hne
  exact not_dig_dot (h.2.2.2 q 46 hq.2.2.1 (fun e => hne e.symm))

theorem res_unique {l : List UInt8} {neg : Bool} {d f c d' f' c' : Int} {ok ok' : Bool} (h : Res l neg d f c ok) (h' : Res l neg d' f' c' ok') : d = d' ∧ f = f' ∧ c = c' ∧ ok = ok' := by
  rcases h with ⟨h1, rfl, rfl, rfl, rfl⟩ | ⟨p, h1, rfl, rfl, rfl, rfl⟩ | ⟨h1, rfl, rfl, rfl, rfl⟩ <;> rcases h' with ⟨h2, rfl, rfl, rfl, rfl⟩ | ⟨q, h2, rfl, rfl, rfl, rfl⟩ | ⟨h2, rfl, rfl, rfl, rfl⟩
  · exact ⟨rfl, rfl, rfl, rfl⟩
  · exact (plain_not_pointed h1 h2).elim
  · exact absurd h1 h2.1
  · exact (plain_not_pointed h2 h1).elim
  · rw [pointed_unique h1 h2]; exact ⟨rfl, rfl, rfl, rfl⟩
  · exact absurd h1 (h2.2 p)
  · exact absurd h2 h1.1
  · exact absurd h2 (h1.2 q)
  · exact ⟨rfl, rfl, rfl, rfl⟩

/-! ### Values -/
theorem val_snoc (l : List UInt8) (c : UInt8) : val (l ++ [c]) = val l * 10 + ((c.toNat : Int) - 48) := by
  unfold val; rw [List.foldl_append]; rfl

theorem val_bound (l : List UInt8) (h : ∀ c ∈ l, Dig c) : 0 ≤ val l ∧ val l < 10 ^ l.length := by
  have key : ∀ n (l : List UInt8), l.length = n → (∀ c ∈ l, Dig c) → 0 ≤ val l ∧ val l < 10 ^ n := by
    intro n
    induction n with
    | zero => intro l hl _; obtain rfl := List.eq_nil_of_length_eq_zero hl; simp [val]
    | succ n ih =>
      intro l hl hd
      have hne : l ≠ [] := by intro h; subst h; simp at hl
      have e := List.dropLast_concat_getLast hne
      have := ih l.dropLast (by simp [hl]) (fun c hc => hd c (List.dropLast_subset l hc))
      have hc := hd _ (List.getLast_mem hne)
      unfold Dig at hc
      rw [← e, val_snoc]
      have e10 : (10 : Int) ^ (n + 1) = 10 ^ n * 10 := Int.pow_succ 10 n
      rw [e10]
      omega
  exact key l.length l rfl h

theorem pow18 : (10 : Int) ^ 18 = 1000000000000000000 := by decide
theorem pow17 : (10 : Int) ^ 17 = 100000000000000000 := by decide
theorem pow_mono {a b : Nat} (h : a ≤ b) : (10 : Int) ^ a ≤ 10 ^ b := by
  obtain ⟨k, rfl⟩ := Nat.exists_eq_add_of_le h
  induction k with
  | zero => exact Int.le_refl _
  | succ k ih =>
    have := ih (by omega)
    rw [← Nat.add_assoc, Int.pow_succ]
    have h0 : (0 : Int) ≤ 10 ^ (a + k) := Int.pow_nonneg (by decide)
    omega

theorem val_le17 (l : List UInt8) (h : ∀ c ∈ l, Dig c) (hl : l.length ≤ 17) : 0 ≤ val l ∧ val l < 100000000000000000 := by
  have := val_bound l h
  have := pow_mono hl
  rw [pow17] at this
  omega
theorem val_le18 (l : List UInt8) (h : ∀ c ∈ l, Dig c) (hl : l.length ≤ 18) : 0 ≤ val l ∧ val l < 1000000000000000000 := by
  have := val_bound l h
  have := pow_mono hl
  rw [pow18] at this
  omega

theorem nd_snoc (l : List UInt8) (c : UInt8) (h : c ≠ 46) : nd (l ++ [c]) = nd l ++ [c] := by
  unfold nd; rw [List.filter_append]; simp [h]
theorem nd_snoc_dot (l : List UInt8) : nd (l ++ [46]) = nd l := by
  unfold nd; rw [List.filter_append]; simp
theorem dig_ne {c : UInt8} (h : Dig c) : c ≠ 46 := by rintro rfl; exact not_dig_dot h

/-- One digit more, while there are fewer than eighteen. -/
theorem val18_snoc (l : List UInt8) (c : UInt8) (h : c ≠ 46) (hl : (nd l).length < 18) : val18 (l ++ [c]) = val18 l * 10 + ((c.toNat : Int) - 48) := by
  unfold val18
  rw [nd_snoc l c h, List.take_of_length_le (by simp; omega), List.take_of_length_le (by omega), val_snoc]
theorem val18_snoc_full (l : List UInt8) (c : UInt8) (h : c ≠ 46) (hl : ¬ (nd l).length < 18) : val18 (l ++ [c]) = val18 l := by
  unfold val18
  rw [nd_snoc l c h, List.take_append_of_le_length (by omega)]
theorem val18_snoc_dot (l : List UInt8) : val18 (l ++ [46]) = val18 l := by
  unfold val18
  rw [nd_snoc_dot]

/-! ### The state of the loop of 'scan' behind k bytes -/
def AllDig (l : List UInt8) : Prop := ∀ c ∈ l, Dig c
/-- Behind the bytes 'l': no point so far. -/
def StA (l : List UInt8) (d f c : Int) (pt : Bool) : Prop := AllDig l ∧ d = l.length ∧ f = 0 ∧ c = val18 l ∧ pt = false
def StB (l : List UInt8) (d f c : Int) (pt : Bool) : Prop := ∃ p, 0 < p ∧ p < l.length ∧ l[p]? = some 46 ∧ (∀ i c, l[i]? = some c → i ≠ p → Dig c) ∧ d = (l.length : Int) - 1 ∧ f = (l.length : Int) - 1 - p ∧ c = val18 l ∧ pt = true
def Sta (l : List UInt8) (d f c : Int) (pt : Bool) : Prop := StA l d f c pt ∨ StB l d f c pt

theorem nd_all {l : List UInt8} (h : AllDig l) : nd l = l := by
  unfold nd
  rw [List.filter_eq_self]
  intro c hc
  simp [dig_ne (h c hc)]
theorem nd_dig_A {l : List UInt8} (h : AllDig l) : ∀ c ∈ nd l, Dig c := by rw [nd_all h]; exact h
theorem nd_dig_B {l : List UInt8} {p : Nat} (hp : l[p]? = some 46) (h : ∀ i c, l[i]? = some c → i ≠ p → Dig c) : ∀ c ∈ nd l, Dig c := by
  intro c hc
  obtain ⟨hm, hne⟩ := List.mem_filter.1 hc
  obtain ⟨i, hi⟩ := List.getElem?_of_mem hm
  refine h i c hi ?_
  rintro rfl
  rw [hp] at hi
  obtain rfl := Option.some.inj hi
  simp at hne
theorem nd_len_B {l : List UInt8} {p : Nat} (hp : l[p]? = some 46) (h : ∀ i c, l[i]? = some c → i ≠ p → Dig c) : (nd l).length + 1 = l.length := by
  have hpl : p < l.length := (List.getElem?_eq_some_iff.1 hp).1
  have e : l = l.take p ++ 46 :: l.drop (p + 1) := by
    have h46 : l[p] = 46 := (List.getElem?_eq_some_iff.1 hp).2
    rw [← h46, List.getElem_cons_drop, List.take_append_drop]
  have a1 : AllDig (l.take p) := by
    intro c hc
    obtain ⟨i, hi⟩ := List.getElem?_of_mem hc
    have hip : i < p := by
      have := (List.getElem?_eq_some_iff.1 hi).1
      simp at this; omega
    rw [List.getElem?_take, if_pos hip] at hi
    exact h i c hi (by omega)
  have a2 : AllDig (l.drop (p + 1)) := by
    intro c hc
    obtain ⟨i, hi⟩ := List.getElem?_of_mem hc
    rw [List.getElem?_drop] at hi
    exact h _ c hi (by omega)
  have e2 : nd l = l.take p ++ l.drop (p + 1) := by
    have : nd l = nd (l.take p) ++ nd (l.drop (p + 1)) := by
      conv => lhs; rw [e]
      unfold nd; rw [List.filter_append]; simp
    rw [this, nd_all a1, nd_all a2]
  rw [e2]; simp; omega

/-- The count of digits is the length of what is no point; the coefficient's bounds. -/
theorem sta_facts {l : List UInt8} {d f c : Int} {pt : Bool} (h : Sta l d f c pt) : d = (nd l).length ∧ 0 ≤ f ∧ f ≤ l.length ∧ c = val18 l ∧ 0 ≤ c ∧ c < 1000000000000000000 ∧ (d < 18 → c < 100000000000000000) := by
  have key : ∀ (hd : ∀ c ∈ nd l, Dig c), 0 ≤ val18 l ∧ val18 l < 1000000000000000000 ∧ ((nd l).length < 18 → val18 l < 100000000000000000) := by
    intro hd
    have hd' : ∀ c ∈ (nd l).take 18, Dig c := fun c hc => hd c (List.mem_of_mem_take hc)
    have b := val_le18 _ hd' (by simp; omega)
    refine ⟨b.1, b.2, fun hl => ?_⟩
    exact (val_le17 _ hd' (by simp; omega)).2
  rcases h with ⟨ha, rfl, rfl, rfl, _⟩ | ⟨p, h0, hl, hp, hd, rfl, rfl, rfl, _⟩
  · have k := key (nd_dig_A ha)
    rw [nd_all ha] at *
    exact ⟨rfl, by omega, by omega, rfl, k.1, k.2.1, fun h => k.2.2 (by omega)⟩
  · have k := key (nd_dig_B hp hd)
    have e := nd_len_B hp hd
    exact ⟨by omega, by omega, by omega, rfl, k.1, k.2.1, fun h => k.2.2 (by omega)⟩

theorem get_snoc_lt {l : List UInt8} {x c : UInt8} {i : Nat} (h : (l ++ [x])[i]? = some c) : (l[i]? = some c ∧ i < l.length) ∨ (i = l.length ∧ c = x) := by
  by_cases hi : i < l.length
  · rw [List.getElem?_append_left hi] at h; exact .inl ⟨h, hi⟩
  · rw [List.getElem?_append_right (by omega)] at h
    have := (List.getElem?_eq_some_iff.1 h).1
    simp at this
    have e : i = l.length := by omega
    subst e
    simp at h
    exact .inr ⟨rfl, h.symm⟩

/-- A digit comes. -/
theorem sta_dig {l : List UInt8} {d f c : Int} {pt : Bool} {x : UInt8} (h : Sta l d f c pt) (hx : Dig x) : Sta (l ++ [x]) (d + 1) (if pt = true then f + 1 else f) (if d < 18 then c * 10 + ((x.toNat : Int) - 48) else c) pt := by
  have hf := sta_facts h
  have ec : (if d < 18 then c * 10 + ((x.toNat : Int) - 48) else c) = val18 (l ++ [x]) := by
    obtain ⟨e1, _, _, e2, _⟩ := hf
    rw [e1, e2]
    split
    · rw [val18_snoc _ _ (dig_ne hx) (by omega)]
    · rw [val18_snoc_full _ _ (dig_ne hx) (by omega)]
  rw [ec]
  rcases h with ⟨ha, rfl, rfl, rfl, rfl⟩ | ⟨p, h0, hl, hp, hd, rfl, rfl, rfl, rfl⟩
  · refine .inl ⟨?_, by simp, by simp, rfl, rfl⟩
    intro c hc
    rcases List.mem_append.1 hc with h | h
    · exact ha c h
    · simp at h; subst h; exact hx
  · refine .inr ⟨p, h0, by simp; omega, by rw [List.getElem?_append_left hl]; exact hp, ?_, by simp, by simp; omega, rfl, rfl⟩
    intro i c hi hne
    rcases get_snoc_lt hi with ⟨h, _⟩ | ⟨_, rfl⟩
    · exact hd i c h hne
    · exact hx
/-- The point comes. -/
theorem sta_dot {l : List UInt8} {d f c : Int} (h : Sta l d f c false) (hpos : 0 < d) : Sta (l ++ [46]) d f c true := by
  rcases h with ⟨ha, rfl, rfl, rfl, _⟩ | ⟨p, h0, hl, hp, hd, rfl, rfl, rfl, hc⟩
  · refine .inr ⟨l.length, by omega, by simp, by simp, ?_, by simp, by simp, (val18_snoc_dot l).symm, rfl⟩
    intro i c hi hne
    rcases get_snoc_lt hi with ⟨h, _⟩ | ⟨h, _⟩
    · exact ha c (List.mem_of_getElem? h)
    · exact absurd h hne
  · cases hc
/-- A byte that is neither: the whole is bad. -/
theorem sta_bad {l r : List UInt8} {d f c : Int} {pt : Bool} {x : UInt8} (h : Sta l d f c pt) (hx : ¬ Dig x) (hdot : x = 46 → pt = true ∨ d ≤ 0) : Bad (l ++ x :: r) := by
  have hget : (l ++ x :: r)[l.length]? = some x := by simp
  refine ⟨fun hp => hx (hp.2 x (List.mem_of_getElem? hget)), fun q hq => ?_⟩
  have hql : q = l.length := by
    apply Classical.byContradiction
    intro hne
    exact hx (hq.2.2.2 _ x hget (fun e => hne e.symm))
  have hx46 : x = 46 := by
    have := hq.2.2.1
    rw [hql, hget] at this
    exact Option.some.inj this
  rcases hdot hx46 with hpt | hd0
  · rcases h with ⟨_, _, _, _, hf⟩ | ⟨p, h0, hl, hp, _⟩
    · rw [hpt] at hf; cases hf
    · refine not_dig_dot (hq.2.2.2 p 46 ?_ (by omega))
      rw [List.getElem?_append_left hl]; exact hp
  · rcases h with ⟨_, he, _⟩ | ⟨p, h0, hl, hp, _, he, _⟩
    · have := hq.1; omega
    · omega
/-- The end. -/
theorem sta_end_ok {l : List UInt8} {d f c : Int} {pt neg : Bool} (h : Sta l d f c pt) (h1 : ¬ d = 0) (h2 : pt = true → ¬ f = 0) : Res l neg d f (sgn neg c) true := by
  rcases h with ⟨ha, rfl, rfl, rfl, rfl⟩ | ⟨p, h0, hl, hp, hd, rfl, rfl, rfl, rfl⟩
  · exact .inl ⟨⟨by intro e; subst e; simp at h1, ha⟩, rfl, rfl, rfl, rfl⟩
  · have := h2 rfl
    exact .inr (.inl ⟨p, ⟨h0, by omega, hp, hd⟩, rfl, rfl, rfl, rfl⟩)
theorem sta_end_bad {l : List UInt8} {d f c : Int} {pt neg : Bool} (h : Sta l d f c pt) (hbad : d = 0 ∨ (pt = true ∧ f = 0)) : Res l neg 0 0 0 false := by
  refine .inr (.inr ⟨?_, rfl, rfl, rfl, rfl⟩)
  rcases h with ⟨ha, rfl, rfl, rfl, rfl⟩ | ⟨p, h0, hl, hp, hd, rfl, rfl, rfl, rfl⟩
  · rcases hbad with h | ⟨h, _⟩
    · have : l = [] := List.eq_nil_of_length_eq_zero (by omega)
      subst this
      exact ⟨fun h => h.1 rfl, fun p hp => by have := hp.2.1; simp at this⟩
    · cases h
  · have e : p + 1 = l.length := by rcases hbad with h | ⟨_, h⟩ <;> omega
    refine ⟨fun h => not_dig_dot (h.2 46 (List.mem_of_getElem? hp)), fun q hq => ?_⟩
    by_cases hqp : p = q
    · subst hqp; have := hq.2.1; omega
    · exact not_dig_dot (hq.2.2.2 p 46 hp hqp)
end Go.Proofs.Qxb6604165a
