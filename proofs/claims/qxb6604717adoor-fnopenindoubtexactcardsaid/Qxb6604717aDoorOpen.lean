import Derived.Test.Qxb6604717aDoorSeq
namespace Go.Proofs.Qxb6604717aDoor
open Go.ChangeShapes Go.WideShapes Go.ChangeAt Go.RowKit
set_option linter.unusedVariables false

/-- A part that came in. -/
def Raw (p : RP) : Prop := (∃ a n c, p.vo = .slice a n c ∧ n ≤ 9223372036854775807) ∧ (∃ a n c, p.vs = .slice a n c ∧ n ≤ 9223372036854775807) ∧ p.addr.size ≤ 9223372036854775807 ∧ p.ind.size ≤ 9223372036854775807
/-- .. a small one. -/
def Sm (p : RP) : Prop := (∃ a n c, p.vo = .slice a n c ∧ n ≤ 1048576) ∧ (∃ a n c, p.vs = .slice a n c ∧ n ≤ 1048576) ∧ p.addr.size ≤ 1048576 ∧ p.ind.size ≤ 1048576

/-- What zzOpenBytes answers. -/
def RetOpen (e : Ending) (ps : List RP) (ss : List SE) (ts : List ByteArray) : Prop :=
  ∃ r, e = .returned (.int .i64 r) ∧ (r ≤ 1048576 → ps.length ≤ 131072 ∧ ss.length ≤ 131072 ∧ ts.length ≤ 131072 ∧ (∀ p ∈ ps, Sm p) ∧ (∀ s ∈ ss, s.addr.size ≤ 1048576) ∧ (∀ t ∈ ts, t.size ≤ 1048576))
def strs (ts : List ByteArray) : List Value := ts.map Value.string
theorem strs_length (ts : List ByteArray) : (strs ts).length = ts.length := by simp [strs]
theorem strs_get (ts : List ByteArray) (k : Nat) (h : k < (strs ts).length) : (strs ts)[k] = .string (ts[k]'(by rwa [strs_length] at h)) := by simp [strs]

set_option maxHeartbeats 4000000 in
theorem open_any (ps : List RP) (ss : List SE) (ts : List ByteArray) (a0 a1 a2 : Option Addr) (c0 c1 c2 : Nat) (w : World) (h0 : CellsF RP.cells 10 w a0 ps) (h1 : CellsF SE.cells 2 w a1 ss) (h2 : Cells w a2 (strs ts))
    (hr : ∀ p ∈ ps, Raw p) (hs : ∀ s ∈ ss, s.addr.size ≤ 9223372036854775807) (ht : ∀ t ∈ ts, t.size ≤ 9223372036854775807) (l0 : ps.length ≤ 9223372036854775807) (l1 : ss.length ≤ 9223372036854775807) (l2 : ts.length ≤ 9223372036854775807) :
    Calls Tryd.prog 6 #[.slice a0 ps.length c0, .slice a1 ss.length c1, .slice a2 ts.length c2] w fun e w' => RetOpen e ps ss ts ∧ w' = w := by
  by_cases hbig : 131072 < ps.length ∨ 131072 < ss.length ∨ 131072 < ts.length
  · have hb : 131072 < (ps.length : Int) ∨ (¬ 131072 < (ps.length : Int) ∧ 131072 < (ss.length : Int)) ∨ (¬ 131072 < (ps.length : Int) ∧ ¬ 131072 < (ss.length : Int) ∧ 131072 < (ts.length : Int)) := by omega
    rcases hb with hb | ⟨hb, hb'⟩ | ⟨hb, hb', hb''⟩
    all_goals
      go_enter Tryd.func6, Tryd.ntmps6
      go_wp2_with fail
      go_ret
      exact ⟨⟨1048577, rfl, fun h => by omega⟩, rfl⟩
  · have b0 : ps.length ≤ 131072 := by omega
    have b1 : ss.length ≤ 131072 := by omega
    have b2 : ts.length ≤ 131072 := by omega
    clear hbig l0 l1 l2
    go_enter Tryd.func6, Tryd.ntmps6
    go_wp2_with fail
    go_loop [7, 8] (fun t i => ∃ (k : Nat) (T : Int), k ≤ ps.length ∧ i = .int .i64 k ∧ t = .int .i64 T ∧ 0 ≤ T ∧ T ≤ 1000000000 ∧ (T ≤ 1048576 → ∀ j (h : j < ps.length), j < k → Sm ps[j])) (fun _ i => ps.length - (intOf i).toNat)
    case atStart => exact ⟨0, _, Nat.zero_le _, rfl, rfl, by omega, by omega, fun _ j _ h => absurd h (by omega)⟩
    case round =>
      obtain ⟨k, T, hk, rfl, rfl, t0, t1, hT⟩ := hrel
      by_cases hkl : k < ps.length
      · have hlti : (k : Int) < (ps.length : Int) := by omega
        rcases h0 with ha | ⟨ba, oa, rfl, hca⟩
        · subst ha; simp at hkl
        obtain ⟨⟨xa, xn, xc, hx, hxn⟩, ⟨ya, yn, yc, hy, hyn⟩, ha1, ha2⟩ := hr ps[k] (List.getElem_mem _)
        have e0 : w.cell? ⟨ba, oa + k * 10, none⟩ = some (.string ps[k].addr) := hca k hkl 0 (by omega)
        have e1 : w.cell? ⟨ba, oa + k * 10 + 1, none⟩ = some ps[k].vo := hca k hkl 1 (by omega)
        have e3 : w.cell? ⟨ba, oa + k * 10 + 3, none⟩ = some ps[k].vs := hca k hkl 3 (by omega)
        have e6 : w.cell? ⟨ba, oa + k * 10 + 6, none⟩ = some (.string ps[k].ind) := hca k hkl 6 (by omega)
        have HSM : Hid (xn ≤ 1048576 → yn ≤ 1048576 → ps[k].addr.size ≤ 1048576 → ps[k].ind.size ≤ 1048576 → Sm ps[k]) := fun q1 q2 q3 q4 => ⟨⟨_, _, _, hx, q1⟩, ⟨_, _, _, hy, q2⟩, q3, q4⟩
        rw [hx] at e1
        rw [hy] at e3
        have HT := hide hT
        clear hT hca hr hx hy
        generalize hAd : ps[k].addr = ad at *
        generalize hIn : ps[k].ind = dn at *
        clear hAd hIn
        go_wp2_with fail
        refine (add_any T ad.size w t0 t1 (by omega) (by omega)).mono ?_
        rintro e w' ⟨⟨r1, rfl, p1, p2, p3⟩, hw⟩
        obtain rfl := hw.symm
        clear hw
        have P3 := hide p3
        clear p3
        go_wp2_with fail
        refine (add_any r1 xn w p1 p2 (by omega) (by omega)).mono ?_
        rintro e w' ⟨⟨r2, rfl, p4, p5, p6⟩, hw⟩
        obtain rfl := hw.symm
        clear hw
        have P6 := hide p6
        clear p6
        go_wp2_with fail
        refine (add_any r2 yn w p4 p5 (by omega) (by omega)).mono ?_
        rintro e w' ⟨⟨r3, rfl, p7, p8, p9⟩, hw⟩
        obtain rfl := hw.symm
        clear hw
        have P9 := hide p9
        clear p9
        go_wp2_with fail
        refine (add_any r3 dn.size w p7 p8 (by omega) (by omega)).mono ?_
        rintro e w' ⟨⟨r4, rfl, p10, p11, p12⟩, hw⟩
        obtain rfl := hw.symm
        clear hw
        have P12 := hide p12
        clear p12
        go_wp2_with fail
        go_round
        case rel =>
          refine ⟨k + 1, r4, by omega, by go_num, rfl, p10, p11, fun hle j hj hjk => ?_⟩
          have z4 := P12.out hle
          have z3 := P9.out z4.2
          have z2 := P6.out z3.2
          have z1 := P3.out z2.2
          by_cases ejk : j = k
          · subst ejk
            exact HSM.out (by omega) (by omega) (by omega) (by omega)
          · exact HT.out z1.2 j hj (by omega)
        case measure => simp [intOf]; omega
      · have HT : Hid (T ≤ 1048576 → ∀ p ∈ ps, Sm p) := fun hle p hp => by
          obtain ⟨j, hj, rfl⟩ := List.getElem_of_mem hp
          exact hT hle j hj (by omega)
        clear hT h0 hr
        go_wp2_with fail
        go_loop [7, 9] (fun t i => ∃ (k : Nat) (T : Int), k ≤ ss.length ∧ i = .int .i64 k ∧ t = .int .i64 T ∧ 0 ≤ T ∧ T ≤ 1000000000 ∧ (T ≤ 1048576 → (∀ p ∈ ps, Sm p) ∧ ∀ j (h : j < ss.length), j < k → ss[j].addr.size ≤ 1048576)) (fun _ i => ss.length - (intOf i).toNat)
        case atStart => exact ⟨0, _, Nat.zero_le _, rfl, rfl, t0, t1, fun hle => ⟨HT.out hle, fun j _ h => absurd h (by omega)⟩⟩
        case round =>
          clear HT t0 t1
          obtain ⟨k2, T2, hk2, rfl, rfl, t0, t1, hT⟩ := hrel
          by_cases hkl2 : k2 < ss.length
          · have hlti : (k2 : Int) < (ss.length : Int) := by omega
            rcases h1 with ha | ⟨ba, oa, rfl, hca⟩
            · subst ha; simp at hkl2
            have ha1 := hs ss[k2] (List.getElem_mem _)
            have e0 : w.cell? ⟨ba, oa + k2 * 2, none⟩ = some (.string ss[k2].addr) := hca k2 hkl2 0 (by omega)
            have HT := hide hT
            clear hT hca hs
            generalize hAd : ss[k2].addr = ad at *
            have HA := hide hAd
            clear hAd
            go_wp2_with fail
            refine (add_any T2 ad.size w t0 t1 (by omega) (by omega)).mono ?_
            rintro e w' ⟨⟨r1, rfl, p1, p2, p3⟩, hw⟩
            obtain rfl := hw.symm
            clear hw
            have P3 := hide p3
            clear p3
            go_wp2_with fail
            go_round
            case rel =>
              refine ⟨k2 + 1, r1, by omega, by go_num, rfl, p1, p2, fun hle => ?_⟩
              have z1 := P3.out hle
              refine ⟨(HT.out z1.2).1, fun j hj hjk => ?_⟩
              by_cases ejk : j = k2
              · subst ejk
                rw [HA.out]; omega
              · exact (HT.out z1.2).2 j hj (by omega)
            case measure => simp [intOf]; omega
          · have HT : Hid (T2 ≤ 1048576 → (∀ p ∈ ps, Sm p) ∧ ∀ s ∈ ss, s.addr.size ≤ 1048576) := fun hle => ⟨(hT hle).1, fun p hp => by
              obtain ⟨j, hj, rfl⟩ := List.getElem_of_mem hp
              exact (hT hle).2 j hj (by omega)⟩
            clear hT h1 hs
            go_wp2_with fail
            go_loop [7, 10] (fun t i => ∃ (k : Nat) (T : Int), k ≤ ts.length ∧ i = .int .i64 k ∧ t = .int .i64 T ∧ 0 ≤ T ∧ T ≤ 1000000000 ∧ (T ≤ 1048576 → ((∀ p ∈ ps, Sm p) ∧ ∀ s ∈ ss, s.addr.size ≤ 1048576) ∧ ∀ j (h : j < ts.length), j < k → ts[j].size ≤ 1048576)) (fun _ i => ts.length - (intOf i).toNat)
            case atStart => exact ⟨0, _, Nat.zero_le _, rfl, rfl, t0, t1, fun hle => ⟨HT.out hle, fun j _ h => absurd h (by omega)⟩⟩
            case round =>
              clear HT t0 t1
              obtain ⟨k3, T3, hk3, rfl, rfl, t0, t1, hT⟩ := hrel
              by_cases hkl3 : k3 < ts.length
              · have hlti : (k3 : Int) < (ts.length : Int) := by omega
                rcases h2 with ha | ⟨ba, oa, rfl, hca⟩
                · have hz := strs_length ts; rw [ha] at hz; have hz2 : ts.length = 0 := hz.symm; omega
                have ha1 := ht ts[k3] (List.getElem_mem _)
                have e0 : w.cell? ⟨ba, oa + k3, none⟩ = some (.string ts[k3]) := by
                  have := hca k3 (by rw [strs_length]; exact hkl3)
                  rw [strs_get] at this; exact this
                have HT := hide hT
                clear hT hca ht
                generalize hAd : ts[k3] = ad at *
                have HA := hide hAd
                clear hAd
                go_wp2_with fail
                refine (add_any T3 ad.size w t0 t1 (by omega) (by omega)).mono ?_
                rintro e w' ⟨⟨r1, rfl, p1, p2, p3⟩, hw⟩
                obtain rfl := hw.symm
                clear hw
                have P3 := hide p3
                clear p3
                go_wp2_with fail
                go_round
                case rel =>
                  refine ⟨k3 + 1, r1, by omega, by go_num, rfl, p1, p2, fun hle => ?_⟩
                  have z1 := P3.out hle
                  refine ⟨(HT.out z1.2).1, fun j hj hjk => ?_⟩
                  by_cases ejk : j = k3
                  · subst ejk
                    rw [HA.out]; omega
                  · exact (HT.out z1.2).2 j hj (by omega)
                case measure => simp [intOf]; omega
              · have R : RetOpen (.returned (.int .i64 T3)) ps ss ts := ⟨T3, rfl, fun hle => ⟨b0, b1, b2, (hT hle).1.1, (hT hle).1.2, fun p hp => by
                  obtain ⟨j, hj, rfl⟩ := List.getElem_of_mem hp
                  exact (hT hle).2 j hj (by omega)⟩⟩
                clear hT h2 ht
                go_wp2_with fail
                go_ret
                exact ⟨R, rfl⟩
end Go.Proofs.Qxb6604717aDoor
