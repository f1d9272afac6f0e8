import Derived.Test.Qxb6604639aBatch
namespace Go.Proofs.Qxb6604639a
open Go.ChangeShapes Go.WideShapes Go.ChangeAt Go.RowKit
set_option linter.unusedVariables false

theorem nextTry_shift (s now t c : Int) : nextTry (s + c) (now + c) t = nextTry s now t := by
  unfold nextTry
  rw [show now + c - (s + c) = now - s by omega]
theorem nextTry_bd (s now t : Int) (h0 : 0 ≤ t) (h1 : t ≤ 4611686018427387903) : 0 < nextTry s now t ∧ nextTry s now t ≤ 32000000000 := by
  unfold nextTry
  have e : wrap64 (2 * t) = 2 * t := by unfold wrap64; omega
  rw [e]
  split
  · omega
  · split <;> omega

theorem rowAt_grown {w w' : World} {g g' : Nat} {e : TypeId} {xs : List Value} (h : RowAt w g e xs) (hg : w.grownBy w' (some g')) (hne : g ≠ g') : RowAt w' g e xs := by
  unfold RowAt
  rw [hg.block g h.lt (by simpa using hne)]; exact h

theorem below_grown {B : Nat} {w w1 w' : World} {g' : Nat} (h : Below B w w1) (hg : w1.grownBy w' (some g')) (hB : B ≤ w1.heap.size) (hb : B ≤ g') : Below B w w' :=
  h.grown hg hB (fun k hk => by obtain rfl := Option.some.inj hk; exact hb)

set_option maxHeartbeats 2000000 in
set_option maxRecDepth 100000 in
theorem shift_core (s b a l t now c : Int) (w : World) (s1 : -9223372036854775808 ≤ s) (s2 : s ≤ 9223372036854775807) (a1 : -9223372036854775808 ≤ a) (a2 : a ≤ 9223372036854775807)
    (n1 : -9223372036854775808 ≤ now) (n2 : now ≤ 9223372036854775807) (c1 : -9223372036854775808 ≤ c) (c2 : c ≤ 9223372036854775807)
    (h1 : -9223372036854775808 ≤ s + c) (h2 : s + c ≤ 9223372036854775807) (h3 : -9223372036854775808 ≤ now + c) (h4 : now + c ≤ 9223372036854775807) :
    Calls Try.prog 4 #[.int .i64 s, .int .i64 b, .int .i64 a, .int .i64 l, .int .i64 t, .int .i64 now, .int .i64 c] w fun e w' => e = .returned (.bool true) ∧ Below w.heap.size w w' := by
  have C1 := hide (fun W => newPace_any s b a l t W s1 s2 a1 a2)
  have C2 := hide (fun W => newPace_any (s + c) b a l t W h1 h2 a1 a2)
  have C3 := hide (fun g W h => zzbatch_any s b a l t now g W h s1 s2 n1 n2)
  have C4 := hide (fun g W h => zzbatch_any (s + c) b a l t (now + c) g W h h1 h2 h3 h4)
  have C5 := hide (fun g t W h => fields_any now b a l t g W h n1 n2 a1 a2)
  have C6 := hide (fun g t W h => fields_any (now + c) b a l t g W h h3 h4 a1 a2)
  have HS := hide (nextTry_shift s now t c)
  have HB := hide (nextTry_bd s now t)
  have q1 : (now == now) = true := by simp
  have q2 : (now + c == now + c) = true := by simp
  have q3 : (nextTry s now t == nextTry s now t) = true := by simp
  have q4 : (b == b) = true := by simp
  have q5 : (a == a) = true := by simp
  have q6 : (l == l) = true := by simp
  rcases Int.lt_trichotomy c 0 with hc | hc | hc
  · have g1 : ¬ s < -9223372036854775808 - c := by omega
    have g2 : ¬ now < -9223372036854775808 - c := by omega
    go_enter Try.func4, Try.ntmps4
    go_wp2_with fail
    refine (C1.out _).mono ?_
    rintro e w1 ⟨p1, rfl, hp1, r1, b1⟩
    have hp1' := r1.lt
    go_wp2_with fail
    refine (C2.out _).mono ?_
    rintro e w2 ⟨p2, rfl, hp2, r2, b2⟩
    replace r1 := r1.below b2 hp1'
    have b3 := b1.trans (b2.mono b1.size)
    clear b1 b2
    go_wp2_with fail
    refine (C3.out p1 _ r1).mono ?_
    rintro e w3 ⟨rfl, r3, g3⟩
    have r4 := rowAt_grown r2 g3 (by omega)
    have b4 := below_grown b3 g3 b3.size hp1
    clear r1 r2 b3 g3
    go_wp2_with fail
    refine (C4.out p2 _ r4).mono ?_
    rintro e w4 ⟨rfl, r5, g5⟩
    have r6 := rowAt_grown r3 g5 (by omega)
    have b5 := below_grown b4 g5 b4.size (by omega)
    clear r3 r4 b4 g5
    rw [HS.out] at r5
    go_wp2_with fail
    refine (C5.out p1 _ _ r6).mono ?_
    rintro e w5 ⟨rfl, b6⟩
    replace r5 := r5.below b6 r5.lt
    have b7 := b5.trans (b6.mono b5.size)
    clear b5 b6 r6
    go_wp2_with fail
    refine (C6.out p2 _ _ r5).mono ?_
    rintro e w6 ⟨rfl, b8⟩
    have b9 := b7.trans (b8.mono b7.size)
    clear b7 b8 r5 C1 C2 C3 C4 C5 C6
    generalize nextTry s now t = q at *
    by_cases ht : 0 ≤ t ∧ t ≤ 4611686018427387903
    · obtain ⟨ht1, ht2⟩ := ht
      obtain ⟨hq1, hq2⟩ := HB.out ht1 ht2
      go_wp2_with fail
      go_ret
      exact ⟨ret_bool (by simp), b9⟩
    · rcases Int.lt_or_le t 0 with hneg | hpos
      · clear ht
        go_wp2_with fail
        go_ret
        exact ⟨ret_bool (by simp), b9⟩
      · have hbig : 4611686018427387903 < t := by omega
        clear ht
        go_wp2_with fail
        go_ret
        exact ⟨ret_bool (by simp), b9⟩
  · have g1 : ¬ 0 < c := by omega
    have g2 : ¬ c < 0 := by omega
    clear hc
    go_enter Try.func4, Try.ntmps4
    go_wp2_with fail
    refine (C1.out _).mono ?_
    rintro e w1 ⟨p1, rfl, hp1, r1, b1⟩
    have hp1' := r1.lt
    go_wp2_with fail
    refine (C2.out _).mono ?_
    rintro e w2 ⟨p2, rfl, hp2, r2, b2⟩
    replace r1 := r1.below b2 hp1'
    have b3 := b1.trans (b2.mono b1.size)
    clear b1 b2
    go_wp2_with fail
    refine (C3.out p1 _ r1).mono ?_
    rintro e w3 ⟨rfl, r3, g3⟩
    have r4 := rowAt_grown r2 g3 (by omega)
    have b4 := below_grown b3 g3 b3.size hp1
    clear r1 r2 b3 g3
    go_wp2_with fail
    refine (C4.out p2 _ r4).mono ?_
    rintro e w4 ⟨rfl, r5, g5⟩
    have r6 := rowAt_grown r3 g5 (by omega)
    have b5 := below_grown b4 g5 b4.size (by omega)
    clear r3 r4 b4 g5
    rw [HS.out] at r5
    go_wp2_with fail
    refine (C5.out p1 _ _ r6).mono ?_
    rintro e w5 ⟨rfl, b6⟩
    replace r5 := r5.below b6 r5.lt
    have b7 := b5.trans (b6.mono b5.size)
    clear b5 b6 r6
    go_wp2_with fail
    refine (C6.out p2 _ _ r5).mono ?_
    rintro e w6 ⟨rfl, b8⟩
    have b9 := b7.trans (b8.mono b7.size)
    clear b7 b8 r5 C1 C2 C3 C4 C5 C6
    generalize nextTry s now t = q at *
    by_cases ht : 0 ≤ t ∧ t ≤ 4611686018427387903
    · obtain ⟨ht1, ht2⟩ := ht
      obtain ⟨hq1, hq2⟩ := HB.out ht1 ht2
      go_wp2_with fail
      go_ret
      exact ⟨ret_bool (by simp), b9⟩
    · rcases Int.lt_or_le t 0 with hneg | hpos
      · clear ht
        go_wp2_with fail
        go_ret
        exact ⟨ret_bool (by simp), b9⟩
      · have hbig : 4611686018427387903 < t := by omega
        clear ht
        go_wp2_with fail
        go_ret
        exact ⟨ret_bool (by simp), b9⟩
  · have g1 : ¬ 9223372036854775807 - c < s := by omega
    have g2 : ¬ 9223372036854775807 - c < now := by omega
    go_enter Try.func4, Try.ntmps4
    go_wp2_with fail
    refine (C1.out _).mono ?_
    rintro e w1 ⟨p1, rfl, hp1, r1, b1⟩
    have hp1' := r1.lt
    go_wp2_with fail
    refine (C2.out _).mono ?_
    rintro e w2 ⟨p2, rfl, hp2, r2, b2⟩
    replace r1 := r1.below b2 hp1'
    have b3 := b1.trans (b2.mono b1.size)
    clear b1 b2
    go_wp2_with fail
    refine (C3.out p1 _ r1).mono ?_
    rintro e w3 ⟨rfl, r3, g3⟩
    have r4 := rowAt_grown r2 g3 (by omega)
    have b4 := below_grown b3 g3 b3.size hp1
    clear r1 r2 b3 g3
    go_wp2_with fail
    refine (C4.out p2 _ r4).mono ?_
    rintro e w4 ⟨rfl, r5, g5⟩
    have r6 := rowAt_grown r3 g5 (by omega)
    have b5 := below_grown b4 g5 b4.size (by omega)
    clear r3 r4 b4 g5
    rw [HS.out] at r5
    go_wp2_with fail
    refine (C5.out p1 _ _ r6).mono ?_
    rintro e w5 ⟨rfl, b6⟩
    replace r5 := r5.below b6 r5.lt
    have b7 := b5.trans (b6.mono b5.size)
    clear b5 b6 r6
    go_wp2_with fail
    refine (C6.out p2 _ _ r5).mono ?_
    rintro e w6 ⟨rfl, b8⟩
    have b9 := b7.trans (b8.mono b7.size)
    clear b7 b8 r5 C1 C2 C3 C4 C5 C6
    generalize nextTry s now t = q at *
    by_cases ht : 0 ≤ t ∧ t ≤ 4611686018427387903
    · obtain ⟨ht1, ht2⟩ := ht
      obtain ⟨hq1, hq2⟩ := HB.out ht1 ht2
      go_wp2_with fail
      go_ret
      exact ⟨ret_bool (by simp), b9⟩
    · rcases Int.lt_or_le t 0 with hneg | hpos
      · clear ht
        go_wp2_with fail
        go_ret
        exact ⟨ret_bool (by simp), b9⟩
      · have hbig : 4611686018427387903 < t := by omega
        clear ht
        go_wp2_with fail
        go_ret
        exact ⟨ret_bool (by simp), b9⟩

set_option maxHeartbeats 1000000 in
set_option maxRecDepth 100000 in
theorem shift_out (s b a l t now c : Int) (w : World) (s1 : -9223372036854775808 ≤ s) (s2 : s ≤ 9223372036854775807)
    (n1 : -9223372036854775808 ≤ now) (n2 : now ≤ 9223372036854775807) (c1 : -9223372036854775808 ≤ c) (c2 : c ≤ 9223372036854775807)
    (h : (0 < c ∧ (9223372036854775807 - c < s ∨ 9223372036854775807 - c < now)) ∨ (c < 0 ∧ (s < -9223372036854775808 - c ∨ now < -9223372036854775808 - c))) :
    Calls Try.prog 4 #[.int .i64 s, .int .i64 b, .int .i64 a, .int .i64 l, .int .i64 t, .int .i64 now, .int .i64 c] w fun e w' => e = .returned (.bool true) ∧ Below w.heap.size w w' := by
  rcases h with ⟨hc, h | h⟩ | ⟨hc, h | h⟩
  · go_enter Try.func4, Try.ntmps4
    go_wp2_with fail
    go_ret
    exact ⟨rfl, Below.refl _ _⟩
  · rcases Int.lt_or_le (9223372036854775807 - c) s with h' | h'
    all_goals
      go_enter Try.func4, Try.ntmps4
      go_wp2_with fail
      go_ret
      exact ⟨rfl, Below.refl _ _⟩
  · go_enter Try.func4, Try.ntmps4
    go_wp2_with fail
    go_ret
    exact ⟨rfl, Below.refl _ _⟩
  · rcases Int.lt_or_le s (-9223372036854775808 - c) with h' | h'
    all_goals
      go_enter Try.func4, Try.ntmps4
      go_wp2_with fail
      go_ret
      exact ⟨rfl, Below.refl _ _⟩

theorem shift_any (s b a l t now c : Int) (w : World) (s1 : -9223372036854775808 ≤ s) (s2 : s ≤ 9223372036854775807) (a1 : -9223372036854775808 ≤ a) (a2 : a ≤ 9223372036854775807)
    (n1 : -9223372036854775808 ≤ now) (n2 : now ≤ 9223372036854775807) (c1 : -9223372036854775808 ≤ c) (c2 : c ≤ 9223372036854775807) :
    Calls Try.prog 4 #[.int .i64 s, .int .i64 b, .int .i64 a, .int .i64 l, .int .i64 t, .int .i64 now, .int .i64 c] w fun e w' => e = .returned (.bool true) ∧ Below w.heap.size w w' := by
  by_cases h : (0 < c ∧ (9223372036854775807 - c < s ∨ 9223372036854775807 - c < now)) ∨ (c < 0 ∧ (s < -9223372036854775808 - c ∨ now < -9223372036854775808 - c))
  · exact shift_out s b a l t now c w s1 s2 n1 n2 c1 c2 h
  · exact shift_core s b a l t now c w s1 s2 a1 a2 n1 n2 c1 c2 (by omega) (by omega) (by omega) (by omega)
end Go.Proofs.Qxb6604639a
