import Derived.Test.Qxb6604165aPlain
namespace Go.Proofs.Qxb6604165a
open Go.RowKit

/-! ### The model's first loop: points and other bytes -/
def Oth (c : UInt8) : Prop := ¬ Dig c ∧ c ≠ 46
def CntO (l : List UInt8) (o : Int) : Prop := (o = 0 ∧ ∀ c ∈ l, ¬ Oth c) ∨ (0 < o ∧ o ≤ l.length ∧ ∃ c ∈ l, Oth c)
def CntD (l : List UInt8) (d a : Int) : Prop :=
  (d = 0 ∧ a = -1 ∧ ∀ c ∈ l, c ≠ 46) ∨
  (∃ p : Nat, d = 1 ∧ a = p ∧ l[p]? = some 46 ∧ ∀ i c, l[i]? = some c → i ≠ p → c ≠ 46) ∨
  (2 ≤ d ∧ d ≤ l.length ∧ 0 ≤ a ∧ a < l.length ∧ ∃ p q : Nat, p ≠ q ∧ l[p]? = some 46 ∧ l[q]? = some 46)

theorem cntO_nil : CntO [] 0 := .inl ⟨rfl, fun _ h => absurd h List.not_mem_nil⟩
theorem cntD_nil : CntD [] 0 (-1) := .inl ⟨rfl, rfl, fun _ h => absurd h List.not_mem_nil⟩
theorem cntO_keep {l : List UInt8} {o : Int} {x : UInt8} (h : CntO l o) (hx : ¬ Oth x) : CntO (l ++ [x]) o := by
  rcases h with ⟨rfl, h⟩ | ⟨h0, h1, c, hc, ho⟩
  · refine .inl ⟨rfl, fun c hc => ?_⟩
    rcases List.mem_append.1 hc with h' | h'
    · exact h c h'
    · simp at h'; subst h'; exact hx
  · exact .inr ⟨h0, by simp; omega, c, by simp [hc], ho⟩
theorem cntO_more {l : List UInt8} {o : Int} {x : UInt8} (h : CntO l o) (hx : Oth x) : CntO (l ++ [x]) (o + 1) := by
  rcases h with ⟨rfl, h⟩ | ⟨h0, h1, c, hc, ho⟩
  · exact .inr ⟨by omega, by simp; omega, x, by simp, hx⟩
  · exact .inr ⟨by omega, by simp; omega, x, by simp, hx⟩
theorem get_app {l : List UInt8} {p : Nat} {c x : UInt8} (h : l[p]? = some c) : (l ++ [x])[p]? = some c := by
  rw [List.getElem?_append_left (List.getElem?_eq_some_iff.1 h).1]; exact h
theorem cntD_keep {l : List UInt8} {d a : Int} {x : UInt8} (h : CntD l d a) (hx : x ≠ 46) : CntD (l ++ [x]) d a := by
  rcases h with ⟨rfl, rfl, h⟩ | ⟨p, rfl, rfl, hp, h⟩ | ⟨h1, h2, h3, h4, p, q, hne, hp, hq⟩
  · refine .inl ⟨rfl, rfl, fun c hc => ?_⟩
    rcases List.mem_append.1 hc with h' | h'
    · exact h c h'
    · simp at h'; subst h'; exact hx
  · refine .inr (.inl ⟨p, rfl, rfl, get_app hp, fun i c hi hne => ?_⟩)
    rcases get_snoc_lt hi with ⟨h', _⟩ | ⟨_, rfl⟩
    · exact h i c h' hne
    · exact hx
  · exact .inr (.inr ⟨h1, by simp; omega, h3, by simp; omega, p, q, hne, get_app hp, get_app hq⟩)
theorem cntD_more {l : List UInt8} {d a : Int} (h : CntD l d a) : CntD (l ++ [46]) (d + 1) l.length := by
  have hlast : (l ++ [(46 : UInt8)])[l.length]? = some 46 := by simp
  rcases h with ⟨rfl, rfl, h⟩ | ⟨p, rfl, rfl, hp, h⟩ | ⟨h1, h2, h3, h4, p, q, hne, hp, hq⟩
  · refine .inr (.inl ⟨l.length, rfl, rfl, hlast, fun i c hi hne => ?_⟩)
    rcases get_snoc_lt hi with ⟨h', _⟩ | ⟨h', _⟩
    · exact h c (List.mem_of_getElem? h')
    · exact absurd h' hne
  · have hpl := (List.getElem?_eq_some_iff.1 hp).1
    exact .inr (.inr ⟨by omega, by simp; omega, by omega, by simp; omega, p, l.length, by omega, get_app hp, hlast⟩)
  · exact .inr (.inr ⟨by omega, by simp; omega, by omega, by simp; omega, p, q, hne, get_app hp, get_app hq⟩)
theorem cntO_bd {l : List UInt8} {o : Int} (h : CntO l o) : 0 ≤ o ∧ o ≤ l.length := by
  rcases h with ⟨rfl, _⟩ | ⟨h0, h1, _⟩ <;> omega
theorem cntD_bd {l : List UInt8} {d a : Int} (h : CntD l d a) : 0 ≤ d ∧ d ≤ l.length ∧ -1 ≤ a ∧ a < l.length ∧ (d = 1 → 0 ≤ a) := by
  rcases h with ⟨rfl, rfl, _⟩ | ⟨p, rfl, rfl, hp, _⟩ | ⟨h1, h2, h3, h4, _⟩
  · omega
  · have := (List.getElem?_eq_some_iff.1 hp).1; omega
  · omega

/-! ### What the counts say -/
theorem bad_others {l : List UInt8} {o : Int} (h : CntO l o) (hp : 0 < o) : Bad l := by
  rcases h with ⟨rfl, _⟩ | ⟨_, _, c, hc, ho⟩
  · omega
  · refine ⟨fun h => ho.1 (h.2 c hc), fun p hp => ?_⟩
    obtain ⟨i, hi⟩ := List.getElem?_of_mem hc
    by_cases e : i = p
    · subst e
      rw [hp.2.2.1] at hi
      exact ho.2 (Option.some.inj hi).symm
    · exact ho.1 (hp.2.2.2 i c hi e)
theorem bad_dots {l : List UInt8} {d a : Int} (h : CntD l d a) (hd : 1 < d) : Bad l := by
  rcases h with ⟨rfl, _⟩ | ⟨p, rfl, _⟩ | ⟨_, _, _, _, p, q, hne, hp, hq⟩
  · omega
  · omega
  · refine ⟨fun h => not_dig_dot (h.2 46 (List.mem_of_getElem? hp)), fun r hr => ?_⟩
    by_cases e : p = r
    · exact not_dig_dot (hr.2.2.2 q 46 hq (by omega))
    · exact not_dig_dot (hr.2.2.2 p 46 hp e)
theorem bad_edge {l : List UInt8} {d a : Int} (h : CntD l d a) (hd : d = 1) (ha : a = 0 ∨ a = (l.length : Int) - 1) : Bad l := by
  rcases h with ⟨rfl, _⟩ | ⟨p, _, rfl, hp, _⟩ | ⟨h1, _⟩
  · omega
  · refine ⟨fun h => not_dig_dot (h.2 46 (List.mem_of_getElem? hp)), fun r hr => ?_⟩
    by_cases e : p = r
    · subst e
      have h1 := hr.1
      have h2 := hr.2.1
      omega
    · exact not_dig_dot (hr.2.2.2 p 46 hp e)
  · omega
theorem good_plain {l : List UInt8} {d a : Int} (ho : CntO l 0) (h : CntD l d a) (hd : d = 0) (hne : 0 < l.length) : Plain l := by
  rcases h with ⟨_, _, h⟩ | ⟨p, h1, _⟩ | ⟨h1, _⟩
  · rcases ho with ⟨_, ho⟩ | ⟨h0, _⟩
    · refine ⟨by intro e; subst e; simp at hne, fun c hc => ?_⟩
      apply Classical.byContradiction
      intro hnd
      exact ho c hc ⟨hnd, h c hc⟩
    · omega
  · omega
  · omega
theorem good_pointed {l : List UInt8} {d a : Int} (ho : CntO l 0) (h : CntD l d a) (hd : d = 1) (h1 : ¬ a = 0) (h2 : ¬ a = (l.length : Int) - 1) : ∃ p : Nat, a = p ∧ Pointed l p := by
  rcases h with ⟨h, _⟩ | ⟨p, _, rfl, hp, hr⟩ | ⟨h3, _⟩
  · omega
  · have hpl := (List.getElem?_eq_some_iff.1 hp).1
    rcases ho with ⟨_, ho⟩ | ⟨h0, _⟩
    · refine ⟨p, rfl, by omega, by omega, hp, fun i c hi hne => ?_⟩
      apply Classical.byContradiction
      intro hnd
      exact ho c (List.mem_of_getElem? hi) ⟨hnd, hr i c hi hne⟩
    · omega
  · omega
/-- Where the counts are good all that is no point is a digit. -/
theorem good_dig {l : List UInt8} (ho : CntO l 0) : ∀ c ∈ nd l, Dig c := by
  intro c hc
  obtain ⟨hm, hne⟩ := List.mem_filter.1 hc
  rcases ho with ⟨_, ho⟩ | ⟨h0, _⟩
  · apply Classical.byContradiction
    intro hnd
    exact ho c hm ⟨hnd, by simpa using hne⟩
  · omega

theorem res_plain {l : List UInt8} {neg : Bool} {d a : Int} (ho : CntO l 0) (h : CntD l d a) (hd : d = 0) (hne : 0 < l.length) : Res l neg ((l.length : Int) - d) 0 (sgn neg (val18 l)) true :=
  .inl ⟨good_plain ho h hd hne, by omega, rfl, rfl, rfl⟩
theorem res_pointed {l : List UInt8} {neg : Bool} {d a : Int} (ho : CntO l 0) (h : CntD l d a) (hd : d = 1) (h1 : ¬ a = 0) (h2 : ¬ a = (l.length : Int) - 1) : Res l neg ((l.length : Int) - d) ((l.length : Int) - 1 - a) (sgn neg (val18 l)) true := by
  obtain ⟨p, rfl, hp⟩ := good_pointed ho h hd h1 h2
  exact .inr (.inl ⟨p, hp, by omega, rfl, rfl, rfl⟩)
theorem res_bad {l : List UInt8} {neg : Bool} (h : Bad l) : Res l neg 0 0 0 false := .inr (.inr ⟨h, rfl, rfl, rfl, rfl⟩)

/-! ### The second loop: the first eighteen digits -/
def lead (l : List UInt8) : List UInt8 := (nd l).take 18
theorem lead_len (l : List UInt8) : (lead l).length ≤ 18 := by unfold lead; simp; omega
theorem lead_dot (l : List UInt8) : lead (l ++ [46]) = lead l := by unfold lead; rw [nd_snoc_dot]
theorem lead_more (l : List UInt8) (c : UInt8) (h : c ≠ 46) (hl : (lead l).length < 18) : lead (l ++ [c]) = lead l ++ [c] := by
  have : (nd l).length < 18 := by unfold lead at hl; simp at hl; omega
  unfold lead
  rw [nd_snoc l c h, List.take_of_length_le (by simp; omega), List.take_of_length_le (by omega)]
theorem lead_full (l r : List UInt8) (hl : ¬ (lead l).length < 18) : lead (l ++ r) = lead l := by
  have : 18 ≤ (nd l).length := by unfold lead at hl; simp at hl; omega
  unfold lead nd
  rw [List.filter_append]
  exact List.take_append_of_le_length this
theorem val18_lead (l : List UInt8) : val18 l = val (lead l) := rfl

/-- The eighteen cells. -/
def cells18 (l : List UInt8) : List Value := (l.map fun c => Value.int .u8 (c.toNat : Int)) ++ List.replicate (18 - l.length) (Value.int .u8 0)
theorem cells18_len (l : List UInt8) (h : l.length ≤ 18) : (cells18 l).length = 18 := by unfold cells18; simp; omega
theorem cells18_get (l : List UInt8) (j : Nat) (h : j < l.length) : (cells18 l)[j]? = some (.int .u8 (l[j].toNat : Int)) := by
  unfold cells18; rw [List.getElem?_append_left (by simpa using h)]; simp [h]
theorem cells18_set (l : List UInt8) (c : UInt8) (h : l.length < 18) : (cells18 l).set l.length (.int .u8 (c.toNat : Int)) = cells18 (l ++ [c]) := by
  unfold cells18
  have e : 18 - l.length = (18 - (l ++ [c]).length) + 1 := by simp; omega
  rw [e, List.replicate_succ, List.set_append_right _ _ (by simp)]
  simp

/-! ### The third loop -/
theorem val_cons (c : UInt8) (r : List UInt8) : val (c :: r) = ((c.toNat : Int) - 48) * 10 ^ r.length + val r := by
  have key : ∀ (r : List UInt8) (v : Int), r.foldl (fun v c => v * 10 + ((c.toNat : Int) - 48)) v = v * 10 ^ r.length + val r := by
    intro r
    induction r with
    | nil => intro v; simp [val]
    | cons x r ih =>
      intro v
      have e1 := ih (v * 10 + ((x.toNat : Int) - 48))
      have e2 := ih ((0 : Int) * 10 + ((x.toNat : Int) - 48))
      have e3 : val (x :: r) = r.foldl (fun v c => v * 10 + ((c.toNat : Int) - 48)) ((0 : Int) * 10 + ((x.toNat : Int) - 48)) := rfl
      rw [List.foldl_cons, e1, e3, e2, List.length_cons, Int.pow_succ, Int.add_mul, Int.add_mul]
      have e4 : v * 10 * 10 ^ r.length = v * (10 ^ r.length * 10) := by rw [Int.mul_assoc, Int.mul_comm 10]
      rw [e4]
      omega
  have := key r ((0 : Int) * 10 + ((c.toNat : Int) - 48))
  have e : val (c :: r) = r.foldl (fun v c => v * 10 + ((c.toNat : Int) - 48)) ((0 : Int) * 10 + ((c.toNat : Int) - 48)) := rfl
  rw [e, this]
  simp
theorem val_drop (ds : List UInt8) (j : Nat) (h : j < ds.length) : val (ds.drop j) = val (ds.drop (j + 1)) + ((ds[j].toNat : Int) - 48) * 10 ^ (ds.length - (j + 1)) := by
  rw [List.drop_eq_getElem_cons h, val_cons]
  simp
  omega
end Go.Proofs.Qxb6604165a
