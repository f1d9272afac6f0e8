import Derived.Test.Qxb6604717aDoorAft
import Derived.Test.Qxb6604717aDoorShelf
import Derived.Shelf.Unicode.PredsPay
import Derived.Lib.LaidTab
import Derived.Stop.LaidErr
import Derived.LaidMore
import Derived.OpenShut
import Derived.ShutString
import Derived.ChangeOld
import Derived.Below
import Derived.Deep.Slices
namespace Go.Proofs.Qxb6604717aDoor
open Go.ChangeShapes Go.WideShapes Go.ChangeAt Go.RowKit
open Go.Deep
set_option linter.unusedVariables false

theorem Tryd.cells3 : Tryd.prog.cellsOf 3 = 1 := by kernel_rfl
theorem Tryd.cells4 : Tryd.prog.cellsOf 4 = 1 := by kernel_rfl
theorem Tryd.cells5 : Tryd.prog.cellsOf 5 = 1 := by kernel_rfl
theorem Tryd.cells9 : Tryd.prog.cellsOf 9 = 1 := by kernel_rfl
theorem Tryd.cells34 : Tryd.prog.cellsOf 34 = 1 := by kernel_rfl
theorem Tryd.cells36 : Tryd.prog.cellsOf 36 = 10 := by kernel_rfl
theorem Tryd.cells38 : Tryd.prog.cellsOf 38 = 2 := by kernel_rfl

/-- A slice of bytes that came in, of whatever length. -/
def RawB (w : World) (v : Value) (o : Option (List UInt8)) : Prop :=
  (o = none ∧ v = .slice none 0 0) ∨ ∃ a c l, o = some l ∧ v = .slice (some a) l.length c ∧ Cells w (some a) (byteCells l) ∧ l.length ≤ 9223372036854775807
theorem RawB.raw {w : World} {v : Value} {o : Option (List UInt8)} (h : RawB w v o) : ∃ a n c, v = .slice a n c ∧ n ≤ 9223372036854775807 := by
  rcases h with ⟨_, rfl⟩ | ⟨a, c, l, _, rfl, _, h⟩
  · exact ⟨none, 0, 0, rfl, by omega⟩
  · exact ⟨_, _, _, rfl, h⟩
theorem RawB.small {w : World} {v : Value} {o : Option (List UInt8)} (h : RawB w v o) (hs : ∃ a n c, v = .slice a n c ∧ n ≤ 1048576) : InB w v o := by
  obtain ⟨a', n', c', he, hn⟩ := hs
  rcases h with h | ⟨a, c, l, h1, h2, h3, _⟩
  · exact .inl h
  · rw [h2] at he
    injection he with _ he _
    exact .inr ⟨a, c, l, h1, h2, h3, by omega⟩

section
variable {H : Type} {enc : TypeId × Value → H} {W : World} {sp : Nat → Bool} {fuel : Nat}
theorem bytes_of {v : Value} {x : DataW H × List MemPlace} (hf : DataW.trod enc Tryd.prog W 0 sp true fuel 34 [v] = some x) : ∃ o, RawB W v o := by
  rcases open_slice1 Tryd.underlying34 Tryd.cells5 hf with ⟨hcs, _⟩ | ⟨y, l, c, m, n, V, D, Pl, hcs, _, hl, hm, hmm, _, hx⟩
  · simp at hcs
    exact ⟨none, .inl ⟨rfl, hcs⟩⟩
  · simp at hcs
    subst hcs
    have hlm : l ≤ m := by rw [hmm]; split <;> omega
    obtain ⟨S, hS⟩ := choose_lt (α := Nat) (p := fun i v => v < 256 ∧ W.cell? (y.add i) = some (.int .u8 (v : Int))) (n := l) (fun i hi => by
      obtain ⟨h1, h2⟩ := hx i (by omega)
      obtain ⟨v, hv, _, hw⟩ := DataW.trod_int Tryd.underlying5 h2
      simp only [List.cons.injEq, and_true] at hv
      have := bounds_u8 hw
      exact ⟨v.toNat, by omega, by rw [h1, hv]; congr 2; omega⟩)
    refine ⟨some ((List.range l).map fun i => UInt8.ofNat (S i)), .inr ⟨y, c, _, rfl, by simp, ?_, by simp; unfold maxLen at hm; omega⟩⟩
    by_cases h0 : l = 0
    · exact .inl (by rw [h0]; rfl)
    · obtain ⟨b, off, spt⟩ := y
      have hs : spt = .none := by simpa [Addr.add] using World.cell?_spot (hS 0 (by omega)).2
      subst hs
      refine .inr ⟨b, off, rfl, fun i hi => ?_⟩
      have hi' : i < l := by simpa [byteCells] using hi
      obtain ⟨h1, h2⟩ := hS i hi'
      rw [add_plain] at h2
      rw [h2]
      simp [byteCells]
      omega

theorem strs_of {a : Option Addr} {len cap : Nat} {x : DataW H × List MemPlace} (hf : DataW.trod enc Tryd.prog W 0 sp true fuel 24 [.slice a len cap] = some x) :
    ∃ ts : List ByteArray, ts.length = len ∧ Cells W a (strs ts) ∧ (a = none → ts = [] ∧ cap = 0) ∧ (∀ t ∈ ts, t.size ≤ 9223372036854775807) ∧ len ≤ 9223372036854775807 := by
  rcases open_slice1 Tryd.underlying24 Tryd.cells9 hf with ⟨hcs, _⟩ | ⟨y, l, c, m, n, V, D, Pl, hcs, _, hl, hm, hmm, _, hx⟩
  · simp at hcs
    obtain ⟨rfl, rfl, rfl⟩ := hcs
    exact ⟨[], rfl, .inl rfl, fun _ => ⟨rfl, rfl⟩, fun _ h => absurd h List.not_mem_nil, by omega⟩
  · simp at hcs
    obtain ⟨rfl, rfl, rfl⟩ := hcs
    have hlm : len ≤ m := by rw [hmm]; split <;> omega
    obtain ⟨S, hS⟩ := choose_lt (α := ByteArray) (p := fun i s => s.size ≤ 9223372036854775807 ∧ W.cell? (y.add i) = some (.string s)) (n := len) (fun i hi => by
      obtain ⟨h1, h2⟩ := hx i (by omega)
      obtain ⟨s, hv, _, hw⟩ := DataW.trod_string Tryd.underlying9 h2
      simp only [List.cons.injEq, and_true] at hv
      exact ⟨s, by unfold maxLen at hw; omega, by rw [h1, hv]⟩)
    refine ⟨(List.range len).map S, by simp, ?_, (fun h => by cases h), ?_, by unfold maxLen at hm; omega⟩
    · by_cases h0 : len = 0
      · exact .inl (by rw [h0]; rfl)
      · obtain ⟨b, off, spt⟩ := y
        have hs : spt = .none := by simpa [Addr.add] using World.cell?_spot (hS 0 (by omega)).2
        subst hs
        refine .inr ⟨b, off, rfl, fun i hi => ?_⟩
        have hi' : i < len := by simpa [strs] using hi
        obtain ⟨h1, h2⟩ := hS i hi'
        rw [add_plain] at h2
        rw [h2]
        simp [strs]
    · intro t ht
      obtain ⟨i, hi, rfl⟩ := List.mem_map.1 ht
      exact (hS i (List.mem_range.1 hi)).1

theorem seqs_of {a : Option Addr} {len cap : Nat} {x : DataW H × List MemPlace} (hf : DataW.trod enc Tryd.prog W 0 sp true fuel 23 [.slice a len cap] = some x) :
    ∃ ss : List SE, ss.length = len ∧ CellsF SE.cells 2 W a ss ∧ (a = none → ss = [] ∧ cap = 0) ∧ (∀ s ∈ ss, s.addr.size ≤ 9223372036854775807) ∧ len ≤ 9223372036854775807 := by
  rcases open_slice Tryd.underlying23 hf with ⟨hcs, _⟩ | ⟨y, l, c, m, n, D, Pl, hcs, _, hl, hm, hmm, _, hx⟩
  · simp at hcs
    obtain ⟨rfl, rfl, rfl⟩ := hcs
    exact ⟨[], rfl, .inl rfl, fun _ => ⟨rfl, rfl⟩, fun _ h => absurd h List.not_mem_nil, by omega⟩
  · simp at hcs
    obtain ⟨rfl, rfl, rfl⟩ := hcs
    have hlm : len ≤ m := by rw [hmm]; split <;> omega
    rw [Tryd.cells38] at hx
    obtain ⟨S, hS⟩ := @choose_lt SE ⟨SE.zero⟩ len (fun i s => s.addr.size ≤ 9223372036854775807 ∧ ∀ j, j < 2 → W.cell? (y.add (i * 2 + j)) = s.cells[j]?) (fun i hi => by
      obtain ⟨cs', h1, h2⟩ := hx i (by omega)
      obtain ⟨_, hlen, hcell⟩ := World.cells?_some h1
      obtain ⟨xs, k, hk, hxy, _, hxl, hfl⟩ := DataW.trod_struct Tryd.underlying38 h2
      match xs, hxl, cs', hlen with
      | [y0, y1], _, [v0, v1], _ =>
        have g0 := hfl 0 _ rfl
        have g1 := hfl 1 _ rfl
        simp [Tryd.cells3, Tryd.cells9] at g0 g1
        obtain ⟨s0, hv0, _, wf0⟩ := DataW.trod_string Tryd.underlying9 g0
        obtain ⟨s1, hv1, _, _⟩ := DataW.trod_int Tryd.underlying3 g1
        simp only [List.cons.injEq, and_true] at hv0 hv1
        subst hv0 hv1
        refine ⟨⟨s0, s1⟩, by unfold maxLen at wf0; simpa using wf0, fun j hj => ?_⟩
        have e := hcell j (by omega)
        rw [add_add] at e
        rw [e]
        rfl)
    refine ⟨(List.range len).map S, by simp, ?_, (fun h => by cases h), ?_, by unfold maxLen at hm; omega⟩
    · by_cases h0 : len = 0
      · exact .inl (by rw [h0]; rfl)
      · obtain ⟨b, off, spt⟩ := y
        have hs : spt = .none := by
          have h := (hS 0 (by omega)).2 0 (by omega)
          simpa [Addr.add] using World.cell?_spot (h.trans rfl)
        subst hs
        refine .inr ⟨b, off, rfl, fun i hi j hj => ?_⟩
        have hi' : i < len := by simpa using hi
        have h2 := (hS i hi').2 j hj
        rw [add_plain] at h2
        simp only [List.getElem_map, List.getElem_range]
        rw [← h2, Nat.add_assoc]
    · intro t ht
      obtain ⟨i, hi, rfl⟩ := List.mem_map.1 ht
      exact (hS i (List.mem_range.1 hi)).1

def PQ.zero : PQ := ⟨ByteArray.empty, none, 0, none, false, false, ByteArray.empty, false, false, 0⟩
theorem parts_of {a : Option Addr} {len cap : Nat} {x : DataW H × List MemPlace} (hf : DataW.trod enc Tryd.prog W 0 sp true fuel 22 [.slice a len cap] = some x) :
    ∃ (ps : List RP) (qs : List PQ), ps.length = len ∧ CellsF RP.cells 10 W a ps ∧ (a = none → ps = [] ∧ cap = 0) ∧ ((∀ p ∈ ps, Sm p) → Inns W ps qs) ∧ (∀ p ∈ ps, Raw p) ∧ (∀ q ∈ qs, -9223372036854775808 ≤ q.pause ∧ q.pause ≤ 9223372036854775807) ∧ len ≤ 9223372036854775807 := by
  rcases open_slice Tryd.underlying22 hf with ⟨hcs, _⟩ | ⟨y, l, c, m, n, D, Pl, hcs, _, hl, hm, hmm, _, hx⟩
  · simp at hcs
    obtain ⟨rfl, rfl, rfl⟩ := hcs
    exact ⟨[], [], rfl, .inl rfl, fun _ => ⟨rfl, rfl⟩, fun _ => ⟨rfl, fun k h => absurd h (Nat.not_lt_zero _)⟩, fun _ h => absurd h List.not_mem_nil, fun _ h => absurd h List.not_mem_nil, by omega⟩
  · simp at hcs
    obtain ⟨rfl, rfl, rfl⟩ := hcs
    have hlm : len ≤ m := by rw [hmm]; split <;> omega
    rw [Tryd.cells36] at hx
    obtain ⟨S, hS⟩ := @choose_lt (RP × PQ) ⟨(RP.zero, PQ.zero)⟩ len (fun i s => (s.1 = s.2.rp s.1.vo s.1.vs ∧ RawB W s.1.vo s.2.out ∧ RawB W s.1.vs s.2.state) ∧ (s.1.addr.size ≤ 9223372036854775807 ∧ s.1.ind.size ≤ 9223372036854775807) ∧ (-9223372036854775808 ≤ s.2.pause ∧ s.2.pause ≤ 9223372036854775807) ∧ ∀ j, j < 10 → W.cell? (y.add (i * 10 + j)) = s.1.cells[j]?) (fun i hi => by
      obtain ⟨cs', h1, h2⟩ := hx i (by omega)
      obtain ⟨_, hlen, hcell⟩ := World.cells?_some h1
      obtain ⟨xs, k, hk, hxy, _, hxl, hfl⟩ := DataW.trod_struct Tryd.underlying36 h2
      match xs, hxl, cs', hlen with
      | [y0, y1, y2, y3, y4, y5, y6, y7, y8, y9], _, [v0, v1, v2, v3, v4, v5, v6, v7, v8, v9], _ =>
        have g0 := hfl 0 _ rfl
        have g1 := hfl 1 _ rfl
        have g2 := hfl 2 _ rfl
        have g3 := hfl 3 _ rfl
        have g4 := hfl 4 _ rfl
        have g5 := hfl 5 _ rfl
        have g6 := hfl 6 _ rfl
        have g7 := hfl 7 _ rfl
        have g8 := hfl 8 _ rfl
        have g9 := hfl 9 _ rfl
        simp [Tryd.cells3, Tryd.cells4, Tryd.cells9, Tryd.cells34] at g0 g1 g2 g3 g4 g5 g6 g7 g8 g9
        obtain ⟨s0, hv0, _, w0⟩ := DataW.trod_string Tryd.underlying9 g0
        obtain ⟨o1, w1⟩ := bytes_of g1
        obtain ⟨s2, hv2, _, w2⟩ := DataW.trod_int Tryd.underlying3 g2
        obtain ⟨o3, w3⟩ := bytes_of g3
        obtain ⟨s4, hv4, _⟩ := DataW.trod_bool Tryd.underlying4 g4
        obtain ⟨s5, hv5, _⟩ := DataW.trod_bool Tryd.underlying4 g5
        obtain ⟨s6, hv6, _, w6⟩ := DataW.trod_string Tryd.underlying9 g6
        obtain ⟨s7, hv7, _⟩ := DataW.trod_bool Tryd.underlying4 g7
        obtain ⟨s8, hv8, _⟩ := DataW.trod_bool Tryd.underlying4 g8
        obtain ⟨s9, hv9, _, _⟩ := DataW.trod_int Tryd.underlying3 g9
        simp only [List.cons.injEq, and_true] at hv0 hv2 hv4 hv5 hv6 hv7 hv8 hv9
        subst hv0 hv2 hv4 hv5 hv6 hv7 hv8 hv9
        refine ⟨(⟨s0, v1, s2, v3, s4, s5, s6, s7, s8, s9⟩, ⟨s0, o1, s2, o3, s4, s5, s6, s7, s8, s9⟩), ⟨rfl, w1, w3⟩, ⟨by unfold maxLen at w0; simpa using w0, by unfold maxLen at w6; simpa using w6⟩, bounds_i64 w2, fun j hj => ?_⟩
        have e := hcell j (by omega)
        rw [add_add] at e
        rw [e]
        rfl)
    refine ⟨(List.range len).map fun i => (S i).1, (List.range len).map fun i => (S i).2, by simp, ?_, (fun h => by cases h), ?_, ?_, ?_, by unfold maxLen at hm; omega⟩
    · by_cases h0 : len = 0
      · exact .inl (by rw [h0]; rfl)
      · obtain ⟨b, off, spt⟩ := y
        have hs : spt = .none := by
          have h := (hS 0 (by omega)).2.2.2 0 (by omega)
          simpa [Addr.add] using World.cell?_spot (h.trans rfl)
        subst hs
        refine .inr ⟨b, off, rfl, fun i hi j hj => ?_⟩
        have hi' : i < len := by simpa using hi
        have h2 := (hS i hi').2.2.2 j hj
        rw [add_plain] at h2
        simp only [List.getElem_map, List.getElem_range]
        rw [← h2, Nat.add_assoc]
    · intro hsm
      refine ⟨by simp, fun k h h' => ?_⟩
      have hk : k < len := by simpa using h
      have hp := hsm _ (List.getElem_mem h)
      simp only [List.getElem_map, List.getElem_range] at hp ⊢
      obtain ⟨⟨e, r1, r2⟩, _⟩ := hS k hk
      exact ⟨_, _, e, r1.small hp.1, r2.small hp.2.1⟩
    · intro p hp
      obtain ⟨i, hi, rfl⟩ := List.mem_map.1 hp
      obtain ⟨⟨_, r1, r2⟩, ⟨z1, z2⟩, _⟩ := hS i (List.mem_range.1 hi)
      exact ⟨r1.raw, r2.raw, z1, z2⟩
    · intro p hp
      obtain ⟨i, hi, rfl⟩ := List.mem_map.1 hp
      exact (hS i (List.mem_range.1 hi)).2.2.1
end
end Go.Proofs.Qxb6604717aDoor
