import Derived.Test.Qxb6604639aPlain
import Derived.Test.Qxb6604639aKit2
namespace Go.Proofs.Qxb6604639a
open Go.ChangeShapes Go.WideShapes Go.ChangeAt Go.RowKit
set_option linter.unusedVariables false

theorem Try.info2 : (Try.prog.info? 2).map (fun i => (i.zero, i.size, i.bytes)) = some (some (.int .i64 0), 1, 8) := by kernel_rfl

theorem bytes5_any (s b a l t : Int) (a5 : Option Addr) (n c : Nat) (w : World) (hn : n ≤ maxLen) :
    Calls Try.prog 5 #[.int .i64 s, .int .i64 b, .int .i64 a, .int .i64 l, .int .i64 t, .slice a5 n c] w fun e w' => e = .returned (.bool (decide (n ≤ 1048576))) ∧ w' = w := by
  unfold maxLen at hn
  go_enter Try.func5, Try.ntmps5
  go_wp2
  · go_ret
    exact ⟨ret_bool (by symm; simp; omega), rfl⟩
  · go_ret
    exact ⟨ret_bool (by symm; simp; omega), rfl⟩

/-- Where prev stands behind k batches. -/
def prevAt (s : Int) (zs : List Int) (k : Nat) : Int := if k = 0 then s else zs.getD (k - 1) 0
theorem prevAt_succ (s : Int) (zs : List Int) (k : Nat) : prevAt s zs (k + 1) = zs.getD k 0 := by unfold prevAt; rw [if_neg (by omega)]; rfl
theorem prevAt_bd (s : Int) (zs : List Int) (k : Nat) (h1 : -9223372036854775808 ≤ s) (h2 : s ≤ 9223372036854775807) (hz : ∀ z ∈ zs, -9223372036854775808 ≤ z ∧ z ≤ 9223372036854775807) (hk : k ≤ zs.length) : -9223372036854775808 ≤ prevAt s zs k ∧ prevAt s zs k ≤ 9223372036854775807 := by
  unfold prevAt
  split
  · omega
  · have hlt : k - 1 < zs.length := by omega
    have e : zs.getD (k - 1) 0 = zs[k - 1] := by simp [List.getD, hlt]
    rw [e]
    exact hz _ (List.getElem_mem _)

theorem u64_diff (P now : Int) (h : P ≤ now) (h1 : -9223372036854775808 ≤ P) (h2 : now ≤ 9223372036854775807) : IntKind.u64.wrap (IntKind.u64.wrap now - IntKind.u64.wrap P) = now - P := by
  rw [IntKind.wrap_u64, IntKind.wrap_u64, IntKind.wrap_u64]; omega

set_option maxHeartbeats 4000000 in
set_option maxRecDepth 100000 in
theorem script_some (s b a l t : Int) (zs : List Int) (x0 : Addr) (c : Nat) (w : World) (s1 : -9223372036854775808 ≤ s) (s2 : s ≤ 9223372036854775807) (a1 : -9223372036854775808 ≤ a) (a2 : a ≤ 9223372036854775807)
    (t1 : 0 ≤ t) (t2 : t ≤ 4611686018427387903) (hi : Ints w (some x0) zs) (hl : zs.length ≤ 131072) (hlt : zs ≠ [] → x0.block < w.heap.size) (hz : ∀ z ∈ zs, -9223372036854775808 ≤ z ∧ z ≤ 9223372036854775807) :
    Calls Try.prog 3 #[.int .i64 s, .int .i64 b, .int .i64 a, .int .i64 l, .int .i64 t, .slice (some x0) zs.length c] w fun e w' => e = .returned (.bool true) ∧ Below w.heap.size w w' := by
  have hnil := run_neq_nil (P := Try.prog) 22 2 Try.underlying22
  obtain ⟨i0, hi0, hz0, hz1, hz2⟩ := info_parts Try.info2
  have C0 := bytes5_any s b a l t (some x0) zs.length c w (by unfold maxLen; omega)
  have hd : decide (zs.length ≤ 1048576) = true := by simp; omega
  rw [hd] at C0
  go_enter Try.func3, Try.ntmps3
  go_wp2_with fail
  refine C0.mono ?_
  rintro e w' ⟨rfl, hw⟩
  obtain rfl := hw.symm
  clear hw C0
  go_wp2_with (at_make; refine wpList_make_row rfl (.tmp 49) (.tmp 49) 22 rfl 2 i0 (.int .i64 0) Try.underlying22 hi0 hz0 hz1 rfl _ _ _ _ zs.length rfl rfl rfl rfl (by rw [hz2]; omega) (by unfold maxLen; omega) ?_)
  intro w1 hrow hb
  rw [cellsOf_replicate, ← upTo_zero zs] at hrow
  clear hi0 hz0 hz1 hz2 hnil
  go_wp2_with fail
  go_loopw [14] (fun v wr => ∃ k : Nat, k ≤ zs.length ∧ v = .int .i64 k ∧ RowAt wr w.heap.size 2 (cellsOf .i64 (upTo zs zs.length k)) ∧ Below w.heap.size w wr) (fun v _ => zs.length - (intOf v).toNat)
  case atStart => exact ⟨0, Nat.zero_le _, rfl, hrow, hb⟩
  case round =>
    clear hrow hb
    obtain ⟨k, hk, rfl, hrow, hb⟩ := hrel
    by_cases hkl : k < zs.length
    · have hlti : (k : Int) < (zs.length : Int) := by omega
      rcases hi with ha | ⟨ba, oa, hxa, hca⟩
      · subst ha; simp at hkl
      obtain rfl := Option.some.inj hxa
      have g1 : wr.cell? ⟨ba, oa + k, none⟩ = some (.int .i64 (zs.getD k 0)) := (hb.cell (p := ⟨ba, oa + k, none⟩) (hlt (by intro h; subst h; simp at hkl))).trans (hca k hkl)
      have g2 : wr.cell? ⟨w.heap.size, k, none⟩ = some (.int .i64 ((upTo zs zs.length k).getD k 0)) := by rw [hrow.cell, cellsOf_get _ _ _ (by rw [upTo_length _ _ _ hk hk]; exact hkl)]
      have g3 := hrow.frozen k
      have R := hrow.set k (.int .i64 (zs.getD k 0))
      rw [cellsOf_set, upTo_succ _ _ _ hkl hkl] at R
      have RB := hb.setCell (p := ⟨w.heap.size, k, none⟩) (Nat.le_refl _) (.int .i64 (zs.getD k 0))
      clear hca hrow hb hxa
      go_wp2
      go_roundw
      case rel => exact ⟨k + 1, by omega, by go_num, by simpa [hkl] using R, by simpa [hkl] using RB⟩
      case measure => simp [intOf]; omega
    · have e : k = zs.length := by omega
      subst e
      rw [upTo_full] at hrow
      have hg0 := hrow.lt
      clear hi hlt
      go_wp2_with fail
      refine (newPace_any s b a l t wr s1 s2 a1 a2).mono ?_
      rintro e w2 ⟨p, rfl, hp, rp, bp⟩
      have hrow2 := hrow.below bp hg0
      have hb2 := hb.trans (bp.mono (Nat.le_of_lt hg0))
      have hpg : ¬ w.heap.size = p := by omega
      have hpl : w.heap.size ≤ p := by omega
      clear hrow hb bp
      go_wp2_with fail
      go_loopw [16, 17, 18] (fun pv lv iv wr => ∃ (k : Nat) (L T : Int), k ≤ zs.length ∧ iv = .int .i64 k ∧ pv = .int .i64 (prevAt s zs k) ∧ lv = .int .i64 L ∧ TI t k L T ∧ RowAt wr p 38 (paceL (prevAt s zs k) b a l T) ∧ RowAt wr w.heap.size 2 (cellsOf .i64 zs) ∧ Below w.heap.size w wr) (fun _ _ iv _ => zs.length - (intOf iv).toNat)
      case atStart => exact ⟨0, -1, t, Nat.zero_le _, rfl, rfl, rfl, ti_start t, rp, hrow2, hb2⟩
      case round =>
        clear rp hrow2 hb2
        obtain ⟨k, L, T, hk, rfl, rfl, rfl, hTI, hrp, hr0, hbw⟩ := hrel
        obtain ⟨u1, u2, u3, u4, u5, u6⟩ := ti_bd hTI t1 t2
        obtain ⟨p1, p2⟩ := prevAt_bd s zs k s1 s2 hz hk
        by_cases hkl : k < zs.length
        · have hlti : (k : Int) < (zs.length : Int) := by omega
          have g1 : wr.cell? ⟨w.heap.size, k, none⟩ = some (.int .i64 (zs.getD k 0)) := by rw [hr0.cell, cellsOf_get _ _ _ hkl]
          obtain ⟨n1, n2⟩ := hz (zs.getD k 0) (by simp [List.getD, hkl])
          have HPV := hide (prevAt_succ s zs k)
          generalize zs.getD k 0 = now at *
          generalize prevAt s zs k = P at *
          have C := hide (fun h => zzbatch_any P b a l T now p wr h p1 p2 n1 n2)
          go_wp2_with fail
          refine (C.out hrp).mono ?_
          rintro e w3 ⟨rfl, r3, gr3⟩
          have hr3 := rowAt_grown hr0 gr3 hpg
          have hb3 := below_grown hbw gr3 hbw.size hpl
          clear C hrp hr0 hbw gr3 g1
          by_cases hslow : 1000000000 ≤ now - P
          · have hle : P ≤ now := by omega
            have hw := u64_diff P now hle p1 n2
            have HE := hide (nextTry_reset P now T (.inr hslow))
            rw [HE.out] at r3
            go_wp2_with fail
            go_roundw
            case rel => exact ⟨k + 1, k, 1000000000, by omega, by go_num, by rw [HPV.out], rfl, ti_reset, by rw [HPV.out]; exact r3, hr3, hb3⟩
            case measure => simp [intOf]; omega
          · by_cases hz0 : k = 0 ∧ t = 0
            · have HE := hide (nextTry_reset P now T (.inl (by rw [u6 hz0.1]; exact hz0.2)))
              rw [HE.out] at r3
              have hkb : ((k : Int) == 0) = true := by simp [hz0.1]
              have htb : (t == 0) = true := by simp [hz0.2]
              clear hz0 u3 u6
              rcases Int.lt_or_le now P with hlt' | hle
              · go_wp2_with fail
                go_roundw
                case rel => exact ⟨k + 1, k, 1000000000, by omega, by go_num, by rw [HPV.out], rfl, ti_reset, by rw [HPV.out]; exact r3, hr3, hb3⟩
                case measure => simp [intOf]; omega
              · have hw := u64_diff P now hle p1 n2
                go_wp2_with fail
                go_roundw
                case rel => exact ⟨k + 1, k, 1000000000, by omega, by go_num, by rw [HPV.out], rfl, ti_reset, by rw [HPV.out]; exact r3, hr3, hb3⟩
                case measure => simp [intOf]; omega
            · have hT0 : ¬ T = 0 := fun h => hz0 (u3 h)
              have HE := hide (nextTry_more P now T u1 u2 (by omega))
              rw [HE.out] at r3
              have HTI := hide (ti_more hTI t1 t2 hT0)
              clear u3 u6 hTI
              by_cases hk0 : k = 0
              · have hkb : ((k : Int) == 0) = true := by simp [hk0]
                have htb : (t == 0) = false := by simp; omega
                clear hk0 hz0
                rcases Int.lt_or_le now P with hlt' | hle
                · go_wp2_with fail
                  go_roundw
                  case rel => exact ⟨k + 1, L, _, by omega, by go_num, by rw [HPV.out], rfl, HTI.out, by rw [HPV.out]; exact r3, hr3, hb3⟩
                  case measure => simp [intOf]; omega
                · have hw := u64_diff P now hle p1 n2
                  go_wp2_with fail
                  go_roundw
                  case rel => exact ⟨k + 1, L, _, by omega, by go_num, by rw [HPV.out], rfl, HTI.out, by rw [HPV.out]; exact r3, hr3, hb3⟩
                  case measure => simp [intOf]; omega
              · have hkb : ((k : Int) == 0) = false := by simp; omega
                clear hz0
                rcases Int.lt_or_le now P with hlt' | hle
                · go_wp2_with fail
                  go_roundw
                  case rel => exact ⟨k + 1, L, _, by omega, by go_num, by rw [HPV.out], rfl, HTI.out, by rw [HPV.out]; exact r3, hr3, hb3⟩
                  case measure => simp [intOf]; omega
                · have hw := u64_diff P now hle p1 n2
                  go_wp2_with fail
                  go_roundw
                  case rel => exact ⟨k + 1, L, _, by omega, by go_num, by rw [HPV.out], rfl, HTI.out, by rw [HPV.out]; exact r3, hr3, hb3⟩
                  case measure => simp [intOf]; omega
        · have ek : k = zs.length := by omega
          subst ek
          have C := hide (fun h => fields_any (prevAt s zs zs.length) b a l T p wr h p1 p2 a1 a2)
          have q1 : (b != b) = false := by simp
          have q2 : (a != a) = false := by simp
          have q3 : (l != l) = false := by simp
          have HP : Hid (prevAt s zs zs.length = if zs.length = 0 then s else zs.getD (zs.length - 1) 0) := rfl
          generalize prevAt s zs zs.length = P at *
          go_wp2_with fail
          refine (C.out hrp).mono ?_
          rintro e w3 ⟨rfl, b3⟩
          have hr3 := hr0.below b3 hr0.lt
          have hb3 := hbw.trans (b3.mono hbw.size)
          clear C hrp hr0 hbw b3
          by_cases hn0 : zs.length = 0
          · have hnb : ((zs.length : Int) == 0) = true := by simp [hn0]
            have hPs : P = s := by rw [HP.out, if_pos hn0]
            have hTt : T = t := u6 hn0
            subst hPs hTt
            have q4 : (P == P) = true := by simp
            clear hn0 u3 u6 HP
            go_wp2_with fail
            go_ret
            exact ⟨ret_bool (by simp), hb3⟩
          · have hnb : ((zs.length : Int) == 0) = false := by rw [beq_eq_false_iff_ne]; omega
            have hPl : P = zs.getD (zs.length - 1) 0 := by rw [HP.out, if_neg hn0]
            have g1 : w3.cell? ⟨w.heap.size, zs.length - 1, none⟩ = some (.int .i64 P) := by rw [hr3.cell, cellsOf_get _ _ _ (by omega), hPl]
            clear hPl HP u3 u6 hr3
            have q4 : (P == P) = true := by simp
            rcases hTI with ⟨rfl, ⟨h0, _⟩ | ⟨_, ht, hT⟩⟩ | ⟨m, rfl, hm, hT⟩
            · omega
            · have HT := hide hT
              clear hT
              by_cases h36 : 36 ≤ zs.length
              · have e := end_long t zs.length ht h36
                rw [← HT.out] at e
                have qT : (T == 32000000000) = true := by simp [e]
                clear e
                go_wp2_with fail
                go_ret
                exact ⟨ret_bool (by simp), hb3⟩
              · by_cases hbig : 32000000000 / 2 ^ zs.length < t
                · have e := end_big t zs.length hbig
                  rw [← HT.out] at e
                  have qT : (T == 32000000000) = true := by simp [e]
                  clear e
                  go_wp2_with fail
                  go_ret
                  exact ⟨ret_bool (by simp), hb3⟩
                · have e := end_small t zs.length (by omega)
                  rw [← HT.out] at e
                  go_wp2_with fail
                  go_ret
                  refine ⟨ret_bool ?_, hb3⟩
                  rfl
            · have HT := hide hT
              clear hT
              by_cases h5 : 5 ≤ zs.length - 1 - m
              · have e := end_far _ h5
                rw [← HT.out] at e
                have qT : (T == 32000000000) = true := by simp [e]
                clear e
                go_wp2_with fail
                go_ret
                exact ⟨ret_bool (by simp), hb3⟩
              · have e := end_near _ (show zs.length - 1 - m < 5 by omega)
                rw [← HT.out] at e
                go_wp2_with fail
                go_ret
                refine ⟨ret_bool ?_, hb3⟩
                rfl

set_option maxHeartbeats 4000000 in
set_option maxRecDepth 100000 in
theorem script_nil (s b a l t : Int) (w : World) (s1 : -9223372036854775808 ≤ s) (s2 : s ≤ 9223372036854775807) (a1 : -9223372036854775808 ≤ a) (a2 : a ≤ 9223372036854775807)
    (t1 : 0 ≤ t) (t2 : t ≤ 4611686018427387903) :
    Calls Try.prog 3 #[.int .i64 s, .int .i64 b, .int .i64 a, .int .i64 l, .int .i64 t, .slice none 0 0] w fun e w' => e = .returned (.bool true) ∧ Below w.heap.size w w' := by
  have hnil := run_neq_nil (P := Try.prog) 22 2 Try.underlying22
  have C0 := bytes5_any s b a l t none 0 0 w (by unfold maxLen; omega)
  have hd : decide (0 ≤ 1048576) = true := by simp
  rw [hd] at C0
  have q1 : (b != b) = false := by simp
  have q2 : (a != a) = false := by simp
  have q3 : (l != l) = false := by simp
  have q4 : (s == s) = true := by simp
  have q5 : (t == t) = true := by simp
  go_enter Try.func3, Try.ntmps3
  go_wp2_with fail
  refine C0.mono ?_
  rintro e w' ⟨rfl, hw⟩
  obtain rfl := hw.symm
  clear hw C0
  go_wp2_with fail
  refine (newPace_any s b a l t w s1 s2 a1 a2).mono ?_
  rintro e w2 ⟨p, rfl, hp, rp, bp⟩
  go_wp2_with fail
  refine wp_loop_rounds 1 ?_; rw [rounds_succ]
  go_wp2_with fail
  refine (fields_any s b a l t p w2 rp s1 s2 a1 a2).mono ?_
  rintro e w3 ⟨rfl, b3⟩
  have hb3 := bp.trans (b3.mono bp.size)
  clear rp bp b3
  go_wp2_with fail
  go_ret
  exact ⟨ret_bool (by simp), hb3⟩

set_option maxHeartbeats 1000000 in
set_option maxRecDepth 100000 in
/-- The law's own guards. -/
theorem script_out (s b a l t : Int) (a5 : Option Addr) (n c : Nat) (w : World) (hn : n ≤ maxLen) (h : 131072 < n ∨ t < 0 ∨ 4611686018427387903 < t) :
    Calls Try.prog 3 #[.int .i64 s, .int .i64 b, .int .i64 a, .int .i64 l, .int .i64 t, .slice a5 n c] w fun e w' => e = .returned (.bool true) ∧ Below w.heap.size w w' := by
  have C0 := bytes5_any s b a l t a5 n c w hn
  unfold maxLen at hn
  by_cases hb : n ≤ 1048576
  · have hd : decide (n ≤ 1048576) = true := by simpa using hb
    rw [hd] at C0
    by_cases hl : 131072 < n
    · go_enter Try.func3, Try.ntmps3
      go_wp2_with fail
      refine C0.mono ?_
      rintro e w' ⟨rfl, hw⟩
      obtain rfl := hw.symm
      clear hw C0
      go_wp2_with fail
      go_ret
      exact ⟨rfl, Below.refl _ _⟩
    · have h' : t < 0 ∨ (0 ≤ t ∧ 4611686018427387903 < t) := by omega
      rcases h' with h' | ⟨h', h''⟩
      all_goals
        go_enter Try.func3, Try.ntmps3
        go_wp2_with fail
        refine C0.mono ?_
        rintro e w' ⟨rfl, hw⟩
        obtain rfl := hw.symm
        clear hw C0
        go_wp2_with fail
        go_ret
        exact ⟨rfl, Below.refl _ _⟩
  · have hd : decide (n ≤ 1048576) = false := by simpa using hb
    rw [hd] at C0
    go_enter Try.func3, Try.ntmps3
    go_wp2_with fail
    refine C0.mono ?_
    rintro e w' ⟨rfl, hw⟩
    obtain rfl := hw.symm
    clear hw C0
    go_wp2_with fail
    go_ret
    exact ⟨rfl, Below.refl _ _⟩
end Go.Proofs.Qxb6604639a
