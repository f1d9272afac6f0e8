import Derived.Test.Qxb6604717aDoorDoubt
import Derived.Test.Qxb6604717aDoorLast
namespace Go.Proofs.Qxb6604717aDoor
open Go.ChangeShapes Go.WideShapes Go.ChangeAt Go.RowKit
open Go.ChangeMaps (setBlock)
set_option linter.unusedVariables false

theorem cloneParts_any (ps : List RP) (qs : List PQ) (a : Option Addr) (c : Nat) (w : World) (hc : CellsF RP.cells 10 w a ps) (hn : a = none → ps = [] ∧ c = 0) (hq : Inns w ps qs) (hl : ps.length ≤ 131072) :
    Calls Tryd.prog 7 #[.slice a ps.length c] w fun e w' => ∃ vp ps', e = .returned vp ∧ ArgF RP.cells 36 w' vp ps' ∧ Owns w' ps' qs ∧ ps'.length = ps.length ∧ (vp = .slice none 0 0 ↔ a = none) ∧ Below w.heap.size w w' := by
  cases a with
  | none =>
    obtain ⟨rfl, rfl⟩ := hn rfl
    have hq0 : qs = [] := List.eq_nil_of_length_eq_zero (by rw [← hq.1]; rfl)
    subst hq0
    refine (cloneParts_nil w).mono ?_
    rintro e w' ⟨rfl, hw⟩
    obtain rfl := hw.symm
    exact ⟨_, [], rfl, .inl ⟨rfl, rfl⟩, ⟨rfl, fun k h => absurd h (Nat.not_lt_zero _)⟩, rfl, by simp, Below.refl _ _⟩
  | some x =>
    refine (cloneParts_some ps qs x c w hc hq hl).mono ?_
    rintro e w' ⟨rfl, ⟨ps', h1, h2⟩, hb⟩
    have hlen : ps'.length = ps.length := by rw [h2.1, hq.1]
    exact ⟨_, ps', rfl, .inr ⟨_, by rw [hlen], h1⟩, h2, hlen, by simp, hb⟩
theorem cloneSeq_any (ss : List SE) (a : Option Addr) (c : Nat) (w : World) (hc : CellsF SE.cells 2 w a ss) (hn : a = none → ss = [] ∧ c = 0) (hl : ss.length ≤ 131072) :
    Calls Tryd.prog 8 #[.slice a ss.length c] w fun e w' => ∃ vs, e = .returned vs ∧ ArgF SE.cells 38 w' vs ss ∧ (vs = .slice none 0 0 ↔ a = none) ∧ Below w.heap.size w w' := by
  cases a with
  | none =>
    obtain ⟨rfl, rfl⟩ := hn rfl
    refine (cloneSeq_nil w).mono ?_
    rintro e w' ⟨rfl, hw⟩
    obtain rfl := hw.symm
    exact ⟨_, rfl, .inl ⟨rfl, rfl⟩, by simp, Below.refl _ _⟩
  | some x =>
    refine (cloneSeq_some ss x c w hc hl).mono ?_
    rintro e w' ⟨rfl, h1, hb⟩
    exact ⟨_, rfl, .inr ⟨_, rfl, h1⟩, by simp, hb⟩
theorem cloneSArg_any (ts : List ByteArray) (a : Option Addr) (c : Nat) (w : World) (hc : Cells w a (strs ts)) (hn : a = none → ts = [] ∧ c = 0) (hl : ts.length ≤ 131072) :
    Calls Tryd.prog 9 #[.slice a ts.length c] w fun e w' => ∃ vt, e = .returned vt ∧ ArgS w' vt ts ∧ (vt = .slice none 0 0 ↔ a = none) ∧ Below w.heap.size w w' := by
  cases a with
  | none =>
    obtain ⟨rfl, rfl⟩ := hn rfl
    refine (cloneS_nil w).mono ?_
    rintro e w' ⟨rfl, hw⟩
    obtain rfl := hw.symm
    exact ⟨_, rfl, .inl ⟨rfl, rfl⟩, by simp, Below.refl _ _⟩
  | some x =>
    have C := cloneS_some (strs ts) x c w hc (strs_sh ts) (by rw [strs_length]; omega)
    rw [strs_length] at C
    refine C.mono ?_
    rintro e w' ⟨rfl, hr, hb⟩
    exact ⟨_, rfl, .inr ⟨_, rfl, hr⟩, by simp, hb⟩

/-- openInDoubt, whatever the checkpoint. -/
theorem doubt_any (cp : Nat) (vm vq vt : Value) (m : List (ByteArray × ZP)) (g : List (ByteArray × PQ)) (l : List (ByteArray × Int)) (ts : List ByteArray) (B : Nat) (w : World) (h : CP w cp vm vq vt m g l ts B)
    (hT : ∀ w', Below B w w' → Tab w') (hnd : (keys m).Nodup) (hsz : ∀ p ∈ m, p.1.size ≤ 1048576 ∧ -9223372036854775808 ≤ p.2.pause ∧ p.2.pause ≤ 9223372036854775807) (hl : ts.length + m.length ≤ 1048576) :
    Calls Tryd.prog 19 #[.pointer (some ⟨cp, 0, none⟩)] w fun e w' => e = .returned (.tuple #[]) ∧ RetD w w' cp vm vq vt m g l ts B := by
  rcases h.parts with ⟨rfl, rfl⟩ | ⟨b, rfl, _⟩
  · exact doubt_nil cp vq vt g l ts B w h
  · exact doubt_some cp b vq vt m g l ts B w h hT hnd hsz hl
/-- ZZOpenInDoubt. -/
theorem eleven_any (cp : Nat) (vm vq vt : Value) (m : List (ByteArray × ZP)) (g : List (ByteArray × PQ)) (l : List (ByteArray × Int)) (ts : List ByteArray) (B : Nat) (w : World) (h : CP w cp vm vq vt m g l ts B)
    (hT : ∀ w', Below B w w' → Tab w') (hnd : (keys m).Nodup) (hsz : ∀ p ∈ m, p.1.size ≤ 1048576 ∧ -9223372036854775808 ≤ p.2.pause ∧ p.2.pause ≤ 9223372036854775807) (hl : ts.length + m.length ≤ 1048576) :
    Calls Tryd.prog 11 #[.pointer (some ⟨cp, 0, none⟩)] w fun e w' => e = .returned (.tuple #[]) ∧ RetD w w' cp vm vq vt m g l ts B := by
  have C := doubt_any cp vm vq vt m g l ts B w h hT hnd hsz hl
  clear h
  go_enter Tryd.func11, Tryd.ntmps11
  go_wp2_with fail
  refine C.mono ?_
  rintro e w' ⟨rfl, R⟩
  replace R := hide R
  clear C
  go_wp2_with fail
  refine bodyPost_end (results_none rfl _ _ _) rfl ?_
  exact ⟨rfl, R.out⟩
end Go.Proofs.Qxb6604717aDoor
