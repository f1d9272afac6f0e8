import GoSem.Core.Value
import Derived.Test.Qxb6603808aKit
namespace Go.Proofs.Qxb6603808a
open Go.RowKit
/-- A step: its slot, the value it read, whether it adds one. -/
structure St where
  slot : Int
  read : Int
  inc : Bool

def bump (zs : List Int) (k : Nat) : List Int := zs.set k (wrap64 (zs.getD k 0 + 1))
def step1 (zs : List Int) (s : St) : List Int := if 0 ≤ s.slot ∧ s.inc = true then bump zs s.slot.toNat else zs
def applyAll (zs : List Int) (ss : List St) : List Int := ss.foldl step1 zs

theorem bump_length (zs : List Int) (k : Nat) : (bump zs k).length = zs.length := by simp [bump]
theorem step1_length (zs : List Int) (s : St) : (step1 zs s).length = zs.length := by
  unfold step1; split
  · exact bump_length _ _
  · rfl
theorem applyAll_length (ss : List St) : ∀ zs : List Int, (applyAll zs ss).length = zs.length := by
  induction ss with
  | nil => intro zs; rfl
  | cons s ss ih => intro zs; show (applyAll (step1 zs s) ss).length = _; rw [ih, step1_length]

theorem bump_comm (zs : List Int) (i j : Nat) : bump (bump zs i) j = bump (bump zs j) i := by
  by_cases h : i = j
  · rw [h]
  · unfold bump
    have e1 : (zs.set i (wrap64 (zs.getD i 0 + 1))).getD j 0 = zs.getD j 0 := by
      simp [List.getD, h]
    have e2 : (zs.set j (wrap64 (zs.getD j 0 + 1))).getD i 0 = zs.getD i 0 := by
      simp [List.getD, Ne.symm h]
    rw [e1, e2, List.set_comm _ _ h]

theorem step1_comm (zs : List Int) (s t : St) : step1 (step1 zs s) t = step1 (step1 zs t) s := by
  unfold step1
  split <;> split <;> try rfl
  exact bump_comm _ _ _

theorem applyAll_step1 (ss : List St) : ∀ (zs : List Int) (t : St), applyAll (step1 zs t) ss = step1 (applyAll zs ss) t := by
  induction ss with
  | nil => intro zs t; rfl
  | cons s ss ih =>
    intro zs t
    show applyAll (step1 (step1 zs t) s) ss = step1 (applyAll (step1 zs s) ss) t
    rw [step1_comm, ih]

theorem applyAll_comm (bs : List St) : ∀ (zs : List Int) (as : List St), applyAll (applyAll zs as) bs = applyAll (applyAll zs bs) as := by
  induction bs with
  | nil => intro zs as; rfl
  | cons b bs ih =>
    intro zs as
    show applyAll (step1 (applyAll zs as) b) bs = applyAll (applyAll (step1 zs b) bs) as
    rw [← applyAll_step1, ih]

theorem applyAll_snoc (zs : List Int) (ss : List St) (k : Nat) (h : k < ss.length) : applyAll zs (ss.take (k + 1)) = step1 (applyAll zs (ss.take k)) ss[k] := by
  unfold applyAll
  rw [List.take_succ_eq_append_getElem h, List.foldl_append]
  rfl

/-- The cells of a row of steps. -/
def St.cells (s : St) : List Value := [.int .i32 s.slot, .int .i64 s.read, .bool s.inc]
def stepCells (ss : List St) : List Value := ss.flatMap St.cells
theorem stepCells_length (ss : List St) : (stepCells ss).length = ss.length * 3 := by
  induction ss with
  | nil => rfl
  | cons s ss ih => unfold stepCells at *; simp only [List.flatMap_cons, List.length_append, ih, List.length_cons]; simp [St.cells]; omega

theorem stepCells_get (ss : List St) : ∀ (k : Nat) (h : k < ss.length), (stepCells ss)[k * 3]? = some (.int .i32 ss[k].slot) ∧ (stepCells ss)[k * 3 + 1]? = some (.int .i64 ss[k].read) ∧ (stepCells ss)[k * 3 + 2]? = some (.bool ss[k].inc) := by
  induction ss with
  | nil => intro k h; simp at h
  | cons s ss ih =>
    intro k h
    have e : stepCells (s :: ss) = .int .i32 s.slot :: .int .i64 s.read :: .bool s.inc :: stepCells ss := rfl
    rw [e]
    match k with
    | 0 => exact ⟨rfl, rfl, rfl⟩
    | k + 1 =>
      have := ih k (by simpa using h)
      have e3 : (k + 1) * 3 = k * 3 + 3 := by omega
      rw [e3]
      simpa using this
end Go.Proofs.Qxb6603808a
