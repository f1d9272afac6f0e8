import Derived.Test.Qxb6604717aDoorSmall
import Derived.Laws.IdiomStrings
namespace Go.Proofs.Qxb6604717aDoor
open Go.ChangeShapes Go.WideShapes Go.ChangeAt Go.RowKit
set_option linter.unusedVariables false

def digs (v : Nat) : List UInt8 := if v = 0 then [] else Lib.decDigits v
theorem digs_step (v : Nat) (h : 0 < v) : digs v = digs (v / 10) ++ [UInt8.ofNat (48 + v % 10)] := by
  unfold digs
  rw [if_neg (by omega), Lib.decDigits]
  by_cases hv : v < 10
  · rw [dif_pos hv, if_pos (by omega), Nat.mod_eq_of_lt hv]; rfl
  · rw [dif_neg hv, if_neg (by omega)]
theorem pw_pos {v j : Nat} (h : v < 10 ^ (j - 4)) (hv : 0 < v) : 4 < j := by
  rcases Nat.lt_or_ge 4 j with h4 | h4
  · exact h4
  · rw [show j - 4 = 0 by omega] at h; simp at h; omega
theorem pw_step {v j : Nat} (h : v < 10 ^ (j + 1 - 4)) (hj : 4 ≤ j) : v / 10 < 10 ^ (j - 4) := by
  rw [show j + 1 - 4 = (j - 4) + 1 by omega, Nat.pow_succ] at h
  exact Nat.div_lt_of_lt_mul (by rw [Nat.mul_comm]; exact h)
theorem u8_digit (v : Nat) : ((UInt8.ofNat (48 + v % 10)).toNat : Int) = 48 + (v : Int) % 10 := by
  have : (UInt8.ofNat (48 + v % 10)).toNat = 48 + v % 10 := by
    simp [UInt8.toNat_ofNat']; omega
  rw [this]; omega
theorem byteCells_cons (c : UInt8) (l : List UInt8) : byteCells (c :: l) = .int .u8 (c.toNat : Int) :: byteCells l := rfl
theorem set_last (j : Nat) (z x : Value) (L : List Value) : (List.replicate (j + 1) z ++ L).set j x = List.replicate j z ++ x :: L := by
  rw [List.replicate_succ', List.append_assoc, List.set_append_right _ _ (by simp)]
  simp
theorem row_cell {w : World} {g k : Nat} {z : Value} {D : List UInt8} (h : RowAt w g 59 (List.replicate k z ++ byteCells D)) : ∀ j (hj : j < D.length), w.cell? ((⟨g, k, none⟩ : Addr).add j) = some (.int .u8 (D[j].toNat : Int)) := by
  intro j hj
  have hadd : (⟨g, k, none⟩ : Addr).add j = ⟨g, k + j, none⟩ := by unfold Addr.add; split <;> simp_all
  rw [hadd, h.cell, List.getElem?_append_right (by simp)]
  simp [byteCells, hj]
theorem run_slice24 (W : World) (g k : Nat) (hk : k < 24) : (Instr.sliceAt 59 (.pointer (some ⟨g, 0, none⟩)) (some (.int .i64 (k : Int))) none none).run Tryd.prog W = .ok (.slice (some ⟨g, k, none⟩) (24 - k) (24 - k)) W := by
  have hu : Tryd.prog.underlying 59 = some (.array 24 5) := Tryd.underlying59
  have hk' : (k : Int) ≤ 24 := by omega
  have h24 : ¬ 24 = k := by omega
  simp [Instr.sliceAt, Instr.sureAddr, run_underlying hu, Instr.sliceBounds, run_sliceBound, hk', h24, Addr.add]
  exact fun e => e.symm
theorem digs_ne (v : Nat) (h : 0 < v) : 0 < (digs v).length := by rw [digs_step v h]; simp

set_option maxHeartbeats 1000000 in
theorem itoa_pos (n : Int) (w : World) (h0 : 0 < n) (h1 : n ≤ 9223372036854775807) : Calls Tryd.prog 14 #[.int .i64 n] w fun e w' => e = .returned (.string ⟨(Lib.itoa n).toArray⟩) ∧ Below w.heap.size w w' := by
  have hne : ¬ n = 0 := by omega
  have hwr := hide (show n = (n.natAbs : Int) by omega)
  have hnn : ¬ n < 0 := by omega
  have hlow : n.natAbs < 10 ^ 20 := by omega
  have hpos : 0 < n.natAbs := by omega
  have hrow0 : RowAt (w.alloc (.cells (List.replicate 24 (.int .u8 0)).toArray 59)) w.heap.size 59 (List.replicate 24 (.int .u8 0)) := heap_alloc_new w _
  have hb0 : Below w.heap.size w (w.alloc (.cells (List.replicate 24 (.int .u8 0)).toArray 59)) := (Below.refl _ w).alloc (Nat.le_refl _) _
  go_enter Tryd.func14, Tryd.ntmps14
  go_wp2_with fail
  go_loopw [3, 5] (fun u i wr => ∃ (v k : Nat) (D : List UInt8), u = .int .u64 v ∧ i = .int .i64 k ∧ 4 ≤ k ∧ k ≤ 24 ∧ v < 10 ^ (k - 4) ∧ v ≤ 9223372036854775808 ∧ D.length = 24 - k ∧ digs n.natAbs = digs v ++ D ∧ RowAt wr w.heap.size 59 (List.replicate k (.int .u8 0) ++ byteCells D) ∧ Below w.heap.size w wr) (fun u _ _ => (intOf u).toNat)
  case atStart => exact ⟨n.natAbs, 24, [], by first | rw [← hwr.out] | exact congrArg _ hwr.out, rfl, by omega, by omega, hlow, by omega, rfl, by simp, by simpa [byteCells] using hrow0, hb0⟩
  case round =>
    clear hrow0 hb0 hlow
    obtain ⟨v, k, D, rfl, rfl, hk4, hk, hpw, hvb, hDl, hdig, hrow, hb⟩ := hrel
    by_cases hv : 0 < v
    · have hj := pw_pos hpw hv
      obtain ⟨j, rfl⟩ : ∃ j, k = j + 1 := ⟨k - 1, by omega⟩
      have hvi : (0 : Int) < (v : Int) := by omega
      have hjl : (j : Int) < 24 := by omega
      have hst := pw_step hpw (by omega)
      rw [digs_step v hv] at hdig
      have hcell : wr.cell? ⟨w.heap.size, j, none⟩ = some (.int .u8 0) := by rw [hrow.cell, List.getElem?_append_left (by simp)]; simp
      have hfr := hrow.frozen j
      have hrow2 := hrow.set j (.int .u8 (48 + (v : Int) % 10))
      rw [set_last] at hrow2
      have hb2 := hb.setCell (p := ⟨w.heap.size, j, none⟩) (Nat.le_refl _) (.int .u8 (48 + (v : Int) % 10))
      have HD := hide hdig
      have HS := hide hst
      clear hpw hrow hdig hst
      have hvb : (v : Int) ≤ 18446744073709551615 := by omega
      go_wp2_with fail
      go_roundw
      case rel =>
        refine ⟨v / 10, j, UInt8.ofNat (48 + v % 10) :: D, by go_num, by go_num, by omega, by omega, HS.out, by omega, by simp; omega, by rw [HD.out]; simp, ?_, hb2⟩
        rw [byteCells_cons, u8_digit]; exact hrow2
      case measure => simp [intOf]; omega
    · have e : v = 0 := by omega
      subst e
      have hki : (k : Int) ≤ 24 := by omega
      have hrc := row_cell hrow
      have hconv := run_convert_bytes_back (P := Tryd.prog) wr 34 9 5 ⟨w.heap.size, k, none⟩ (24 - k) D Tryd.underlying34 Tryd.underlying5 Tryd.underlying9 hrc
      rw [hDl] at hconv
      have hb2 := hb
      have eR : Lib.itoa n = D := by
        unfold Lib.itoa
        rw [if_neg (by omega)]
        have : digs n.natAbs = D := by rw [hdig]; rfl
        unfold digs at this
        rw [if_neg (by omega)] at this
        rw [← this]
        congr 1
        omega
      have hk24 : k < 24 := by have h1 := digs_ne n.natAbs hpos; rw [hdig] at h1; simp [digs] at h1; omega
      have hsl := run_slice24 wr w.heap.size k hk24
      replace eR := hide eR
      clear hdig hrow hrc hpw
      go_wp2_with fail
      go_ret
      exact ⟨by rw [eR.out]; rfl, hb2⟩

set_option maxHeartbeats 1000000 in
theorem itoa_neg (n : Int) (w : World) (h0 : n < 0) (h1 : -9223372036854775808 ≤ n) : Calls Tryd.prog 14 #[.int .i64 n] w fun e w' => e = .returned (.string ⟨(Lib.itoa n).toArray⟩) ∧ Below w.heap.size w w' := by
  have hne : ¬ n = 0 := by omega
  have hwr : IntKind.u64.wrap (-IntKind.u64.wrap n) = (n.natAbs : Int) := by
    simp only [IntKind.wrap, IntKind.signed, IntKind.bits]
    simp
    omega
  replace hwr := hide hwr
  have hlow : n.natAbs < 10 ^ 20 := by omega
  have hpos : 0 < n.natAbs := by omega
  have hrow0 : RowAt (w.alloc (.cells (List.replicate 24 (.int .u8 0)).toArray 59)) w.heap.size 59 (List.replicate 24 (.int .u8 0)) := heap_alloc_new w _
  have hb0 : Below w.heap.size w (w.alloc (.cells (List.replicate 24 (.int .u8 0)).toArray 59)) := (Below.refl _ w).alloc (Nat.le_refl _) _
  go_enter Tryd.func14, Tryd.ntmps14
  go_wp2_with fail
  go_loopw [3, 5] (fun u i wr => ∃ (v k : Nat) (D : List UInt8), u = .int .u64 v ∧ i = .int .i64 k ∧ 4 ≤ k ∧ k ≤ 24 ∧ v < 10 ^ (k - 4) ∧ v ≤ 9223372036854775808 ∧ D.length = 24 - k ∧ digs n.natAbs = digs v ++ D ∧ RowAt wr w.heap.size 59 (List.replicate k (.int .u8 0) ++ byteCells D) ∧ Below w.heap.size w wr) (fun u _ _ => (intOf u).toNat)
  case atStart => exact ⟨n.natAbs, 24, [], by first | rw [← hwr.out] | exact congrArg _ hwr.out, rfl, by omega, by omega, hlow, by omega, rfl, by simp, by simpa [byteCells] using hrow0, hb0⟩
  case round =>
    clear hrow0 hb0 hlow
    obtain ⟨v, k, D, rfl, rfl, hk4, hk, hpw, hvb, hDl, hdig, hrow, hb⟩ := hrel
    by_cases hv : 0 < v
    · have hj := pw_pos hpw hv
      obtain ⟨j, rfl⟩ : ∃ j, k = j + 1 := ⟨k - 1, by omega⟩
      have hvi : (0 : Int) < (v : Int) := by omega
      have hjl : (j : Int) < 24 := by omega
      have hst := pw_step hpw (by omega)
      rw [digs_step v hv] at hdig
      have hcell : wr.cell? ⟨w.heap.size, j, none⟩ = some (.int .u8 0) := by rw [hrow.cell, List.getElem?_append_left (by simp)]; simp
      have hfr := hrow.frozen j
      have hrow2 := hrow.set j (.int .u8 (48 + (v : Int) % 10))
      rw [set_last] at hrow2
      have hb2 := hb.setCell (p := ⟨w.heap.size, j, none⟩) (Nat.le_refl _) (.int .u8 (48 + (v : Int) % 10))
      have HD := hide hdig
      have HS := hide hst
      clear hpw hrow hdig hst
      have hvb : (v : Int) ≤ 18446744073709551615 := by omega
      go_wp2_with fail
      go_roundw
      case rel =>
        refine ⟨v / 10, j, UInt8.ofNat (48 + v % 10) :: D, by go_num, by go_num, by omega, by omega, HS.out, by omega, by simp; omega, by rw [HD.out]; simp, ?_, hb2⟩
        rw [byteCells_cons, u8_digit]; exact hrow2
      case measure => simp [intOf]; omega
    · have e : v = 0 := by omega
      subst e
      have hki : (k : Int) ≤ 24 := by omega
      obtain ⟨j, rfl⟩ : ∃ j, k = j + 1 := ⟨k - 1, by omega⟩
      have hjl : (j : Int) < 24 := by omega
      have hcell : wr.cell? ⟨w.heap.size, j, none⟩ = some (.int .u8 0) := by rw [hrow.cell, List.getElem?_append_left (by simp)]; simp
      have hfr := hrow.frozen j
      have hrow2 := hrow.set j (.int .u8 45)
      rw [set_last] at hrow2
      have e45 : (.int .u8 45 : Value) :: byteCells D = byteCells (45 :: D) := rfl
      rw [e45] at hrow2
      have hrc := row_cell hrow2
      have hconv := run_convert_bytes_back (P := Tryd.prog) (wr.setCell ⟨w.heap.size, j, none⟩ (.int .u8 45)) 34 9 5 ⟨w.heap.size, j, none⟩ (24 - j) (45 :: D) Tryd.underlying34 Tryd.underlying5 Tryd.underlying9 hrc
      have hl : (45 :: D).length = 24 - j := by simp; omega
      rw [hl] at hconv
      have hb2 := hb.setCell (p := ⟨w.heap.size, j, none⟩) (Nat.le_refl _) (.int .u8 45)
      have eR : Lib.itoa n = 45 :: D := by
        unfold Lib.itoa
        rw [if_pos h0]
        have : digs n.natAbs = D := by rw [hdig]; rfl
        unfold digs at this
        rw [if_neg (by omega)] at this
        rw [this]
      have hsl := run_slice24 (wr.setCell ⟨w.heap.size, j, none⟩ (.int .u8 45)) w.heap.size j (by omega)
      replace eR := hide eR
      clear hdig hrow hrow2 hrc hpw hl hwr
      go_wp2_with fail
      go_ret
      exact ⟨by rw [eR.out]; rfl, hb2⟩

theorem itoa_any (n : Int) (w : World) (h0 : -9223372036854775808 ≤ n) (h1 : n ≤ 9223372036854775807) : Calls Tryd.prog 14 #[.int .i64 n] w fun e w' => e = .returned (.string ⟨(Lib.itoa n).toArray⟩) ∧ Below w.heap.size w w' := by
  rcases Int.lt_trichotomy n 0 with h | rfl | h
  · exact itoa_neg n w h h0
  · have e : Lib.itoa 0 = [48] := by unfold Lib.itoa; rw [if_neg (by omega), Lib.decDigits]; rfl
    rw [e]
    go_enter Tryd.func14, Tryd.ntmps14
    go_wp2
    go_ret
    exact ⟨rfl, Below.refl _ _⟩
  · exact itoa_pos n w h h1
end Go.Proofs.Qxb6604717aDoor
