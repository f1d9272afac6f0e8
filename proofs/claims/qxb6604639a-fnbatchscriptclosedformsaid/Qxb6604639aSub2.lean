import Derived.Test.Qxb6604639aSub
import Derived.Deep.RegionHeld3
import Derived.Deep.DrawnRows
namespace Go.Proofs.Qxb6604639a
open Go.ChangeShapes Go.WideShapes Go.ChangeAt Go.RowKit
attribute [local go_sem ↓] Go.wp_at_zero Go.wp_at_succ

/-- A difference as Go's Duration bears it: cut at the ends of int64. -/
def clamp (x : Int) : Int := if x < -9223372036854775808 then -9223372036854775808 else if 9223372036854775807 < x then 9223372036854775807 else x

theorem clamp_in (x : Int) (h1 : -9223372036854775808 ≤ x) (h2 : x ≤ 9223372036854775807) : clamp x = x := by
  unfold clamp; rw [if_neg (by omega), if_neg (by omega)]
theorem clamp_lo (x : Int) (h1 : x < -9223372036854775808) : clamp x = -9223372036854775808 := by
  unfold clamp; rw [if_pos h1]
theorem clamp_hi (x : Int) (h1 : 9223372036854775807 < x) : clamp x = 9223372036854775807 := by
  unfold clamp; rw [if_neg (by omega), if_pos h1]
theorem wrap_ne (x : Int) (h : ¬ wrap64 x = x) : x < -9223372036854775808 ∨ 9223372036854775807 < x := by
  unfold wrap64 at h; omega
theorem ret_int {a b : Int} (h : a = b) : Ending.returned (.int .i64 a) = .returned (.int .i64 b) := by rw [h]

theorem keep_below {wx w2 : World} (hb : Below wx.heap.size wx w2) {b o : Nat} {v : Value} (h : wx.cell? ⟨b, o, none⟩ = some v) : w2.cell? ⟨b, o, none⟩ = some v := by
  rw [hb.cell (p := ⟨b, o, none⟩) (World.block_lt_of_cell? wx _ h)]; exact h

theorem add_nf (m f d : Int) (w : World) (hm : 0 ≤ m) (hm' : m < 1000000000) (hf : -10000000000 ≤ f) (hf' : f ≤ 10000000000) (hd : -9223372036854775808 ≤ d) (hd' : d ≤ 9223372036854775807) :
    Calls Try.prog 9 #[.agg #[.int .u64 m, .int .i64 f, .pointer none], .int .i64 d] w fun e' w' => e' = .returned (.agg #[.int .u64 ((f * 1000000000 + m + d) % 1000000000), .int .i64 ((f * 1000000000 + m + d) / 1000000000), .pointer none]) ∧ Below w.heap.size w w' := by
  have C := add_any (f * 1000000000 + m) d w (by omega) (by omega) hd hd'
  have e1 : (f * 1000000000 + m) % 1000000000 = m := by omega
  have e2 : (f * 1000000000 + m) / 1000000000 = f := by omega
  unfold tmv at C
  rw [e1, e2] at C
  exact C

theorem wrap_two (x y : Int) : wrap64 (wrap64 x + y) = wrap64 (x + y) := by
  unfold wrap64; omega
theorem wrap_bd (x : Int) : -9223372036854775808 ≤ wrap64 x ∧ wrap64 x ≤ 9223372036854775807 := by
  unfold wrap64; omega

set_option maxHeartbeats 2000000 in
theorem sub_core (n e m f : Int) (w : World) (hn : 0 ≤ n) (hn' : n < 1000000000) (hm : 0 ≤ m) (hm' : m < 1000000000) (he : -10000000000 ≤ e) (he' : e ≤ 10000000000) (hf : -10000000000 ≤ f) (hf' : f ≤ 10000000000) :
    Calls Try.prog 11 #[.agg #[.int .u64 n, .int .i64 e, .pointer none], .agg #[.int .u64 m, .int .i64 f, .pointer none]] w fun e' w' => e' = .returned (.int .i64 (clamp ((e - f) * 1000000000 + (n - m)))) ∧ Below w.heap.size w w' := by
  have k := and_and_top n m hn hn' hm hm'
  obtain ⟨r1, r2, b1⟩ := two_boxes w #[.int .u64 n, .int .i64 e, .pointer none] #[.int .u64 m, .int .i64 f, .pointer none] 34 34
  go_enter Try.func11, Try.ntmps11
  go_wp2_with fail
  generalize (w.alloc (.cells #[.int .u64 n, .int .i64 e, .pointer none] 34)).alloc (.cells #[.int .u64 m, .int .i64 f, .pointer none] 34) = w1 at *
  have a0 : w1.cell? ⟨w.heap.size, 0, none⟩ = some (.int .u64 n) := by rw [r1.cell]; rfl
  have a1 : w1.cell? ⟨w.heap.size, 0 + 1, none⟩ = some (.int .i64 e) := by rw [r1.cell]; rfl
  have c0 : w1.cell? ⟨w.heap.size + 1, 0, none⟩ = some (.int .u64 m) := by rw [r2.cell]; rfl
  have c1 : w1.cell? ⟨w.heap.size + 1, 0 + 1, none⟩ = some (.int .i64 f) := by rw [r2.cell]; rfl
  refine (sec_any w.heap.size 0 n e w1 a0 a1 hn hn').mono ?_
  rintro e1 w2 ⟨rfl, hw⟩
  obtain rfl := hw.symm
  clear hw
  go_wp2_with fail
  refine (sec_any (w.heap.size + 1) 0 m f w1 c0 c1 hm hm').mono ?_
  rintro e1 w2 ⟨rfl, hw⟩
  obtain rfl := hw.symm
  clear hw
  go_wp2_with fail
  refine (nsec_any w.heap.size 0 n w1 a0 hn hn').mono ?_
  rintro e1 w2 ⟨rfl, hw⟩
  obtain rfl := hw.symm
  clear hw
  go_wp2_with fail
  refine (nsec_any (w.heap.size + 1) 0 m w1 c0 hm hm').mono ?_
  rintro e1 w2 ⟨rfl, hw⟩
  obtain rfl := hw.symm
  clear hw
  have a2 : w1.cell? ⟨w.heap.size, 1, none⟩ = some (.int .i64 e) := by rw [r1.cell]; rfl
  have a3 : w1.cell? ⟨w.heap.size, 2, none⟩ = some (.pointer none) := by rw [r1.cell]; rfl
  have c2 : w1.cell? ⟨w.heap.size + 1, 1, none⟩ = some (.int .i64 f) := by rw [r2.cell]; rfl
  have c3 : w1.cell? ⟨w.heap.size + 1, 2, none⟩ = some (.pointer none) := by rw [r2.cell]; rfl
  go_wp2_with fail
  obtain ⟨δ, hδ⟩ : ∃ δ, δ = wrap64 (wrap64 ((e - f) * 1000000000) + (n - m)) := ⟨_, rfl⟩
  rw [← hδ]
  rw [wrap_two] at hδ
  obtain ⟨hd1, hd2⟩ := wrap_bd ((e - f) * 1000000000 + (n - m))
  rw [← hδ] at hd1 hd2
  have HDL := hide hδ
  clear hδ a1 c1 k
  by_cases hX : δ = (e - f) * 1000000000 + (n - m)
  · have hdec : decide ((f * 1000000000 + m + δ) / 1000000000 = e ∧ (f * 1000000000 + m + δ) % 1000000000 = n) = true := by simp; omega
    have HX := hide hX
    clear hX
    go_region_held3 (fun w' => w'.cell? ⟨w.heap.size, 0, none⟩ = some (.int .u64 n) ∧ w'.cell? ⟨w.heap.size, 1, none⟩ = some (.int .i64 e) ∧ w'.cell? ⟨w.heap.size, 2, none⟩ = some (.pointer none) ∧ w'.cell? ⟨w.heap.size + 1, 0, none⟩ = some (.int .u64 m) ∧ w'.cell? ⟨w.heap.size + 1, 1, none⟩ = some (.int .i64 f) ∧ w'.cell? ⟨w.heap.size + 1, 2, none⟩ = some (.pointer none))
      (first | (go_keep; done) | (go_split_ands; refine ⟨keep_below hbA ‹_›, keep_below hbA ‹_›, keep_below hbA ‹_›, keep_below hbA ‹_›, keep_below hbA ‹_›, keep_below hbA ‹_›⟩) | (go_split_ands; refine ⟨keep_below hbE ‹_›, keep_below hbE ‹_›, keep_below hbE ‹_›, keep_below hbE ‹_›, keep_below hbE ‹_›, keep_below hbE ‹_›⟩))
      (first | (go_at_call 9; refine (add_nf m f δ _ hm hm' hf hf' hd1 hd2).mono ?_; rintro e w' ⟨rfl, hbA⟩) | (go_at_call 18; refine (equal_any _ _ n e _ (by omega) (by omega) hn hn').mono ?_; rintro e w' ⟨rfl, hbE⟩))
    go_wp2_with fail
    go_ret
    refine ⟨ret_int ?_, ?_⟩
    · rw [← HX.out, clamp_in _ hd1 hd2]
    · have g1 := hbA.size
      have g2 := b1.size
      exact (b1.drew.trans (hbA.mono g2)).trans (hbE.mono (Nat.le_trans g2 g1))
  · have hdec : decide ((f * 1000000000 + m + δ) / 1000000000 = e ∧ (f * 1000000000 + m + δ) % 1000000000 = n) = false := by simp; omega
    have HX := hide hX
    clear hX
    go_region_held3 (fun w' => w'.cell? ⟨w.heap.size, 0, none⟩ = some (.int .u64 n) ∧ w'.cell? ⟨w.heap.size, 1, none⟩ = some (.int .i64 e) ∧ w'.cell? ⟨w.heap.size, 2, none⟩ = some (.pointer none) ∧ w'.cell? ⟨w.heap.size + 1, 0, none⟩ = some (.int .u64 m) ∧ w'.cell? ⟨w.heap.size + 1, 1, none⟩ = some (.int .i64 f) ∧ w'.cell? ⟨w.heap.size + 1, 2, none⟩ = some (.pointer none))
      (first | (go_keep; done) | (go_split_ands; refine ⟨keep_below hbA ‹_›, keep_below hbA ‹_›, keep_below hbA ‹_›, keep_below hbA ‹_›, keep_below hbA ‹_›, keep_below hbA ‹_›⟩) | (go_split_ands; refine ⟨keep_below hbE ‹_›, keep_below hbE ‹_›, keep_below hbE ‹_›, keep_below hbE ‹_›, keep_below hbE ‹_›, keep_below hbE ‹_›⟩))
      (first | (go_at_call 9; refine (add_nf m f δ _ hm hm' hf hf' hd1 hd2).mono ?_; rintro e w' ⟨rfl, hbA⟩) | (go_at_call 18; refine (equal_any _ _ n e _ (by omega) (by omega) hn hn').mono ?_; rintro e w' ⟨rfl, hbE⟩))
    go_wp2_with fail
    have hout := wrap_ne ((e - f) * 1000000000 + (n - m)) (by rw [← HDL.out]; exact HX.out)
    have g1 := hbA.size
    have g2 := b1.size
    have hbT := (b1.drew.trans (hbA.mono g2)).trans (hbE.mono (Nat.le_trans g2 g1))
    refine (before_any n e m f _ hn hn' hm hm').mono ?_
    rintro e1 w5 ⟨rfl, hbB⟩
    have hbU := hbT.trans (hbB.mono hbT.size)
    clear hbT hbB hbA hbE
    rcases hout with hlo | hhi
    · have hdb : decide (e < f ∨ e = f ∧ n < m) = true := by simp; omega
      have HC := hide (clamp_lo _ hlo)
      clear hlo
      go_wp2_with fail
      go_ret
      exact ⟨ret_int HC.out.symm, hbU⟩
    · have hdb : decide (e < f ∨ e = f ∧ n < m) = false := by simp; omega
      have HC := hide (clamp_hi _ hhi)
      clear hhi
      go_wp2_with fail
      go_ret
      exact ⟨ret_int HC.out.symm, hbU⟩

/-- 't.Sub(u)': the difference, cut at the ends of int64. -/
theorem sub_any (a b : Int) (w : World) (ha : -9300000000000000000 ≤ a) (ha' : a ≤ 9300000000000000000) (hb : -9300000000000000000 ≤ b) (hb' : b ≤ 9300000000000000000) :
    Calls Try.prog 11 #[tmv a, tmv b] w fun e' w' => e' = .returned (.int .i64 (clamp (a - b))) ∧ Below w.heap.size w w' := by
  have C := sub_core (a % 1000000000) (a / 1000000000) (b % 1000000000) (b / 1000000000) w (by omega) (by omega) (by omega) (by omega) (by omega) (by omega) (by omega) (by omega)
  have e : (a / 1000000000 - b / 1000000000) * 1000000000 + (a % 1000000000 - b % 1000000000) = a - b := by omega
  rw [e] at C
  exact C
end Go.Proofs.Qxb6604639a
