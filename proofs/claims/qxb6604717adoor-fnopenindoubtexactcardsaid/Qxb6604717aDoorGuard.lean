import Derived.Test.Qxb6604717aDoorItoa
namespace Go.Proofs.Qxb6604717aDoor
open Go.ChangeShapes Go.WideShapes Go.ChangeAt Go.RowKit
set_option linter.unusedVariables false

/-- Some bool. -/
def SomeB (e : Ending) : Prop := ∃ b, e = .returned (.bool b)

set_option maxHeartbeats 4000000 in
set_option maxRecDepth 100000 in
theorem guard5_any (ps : List RP) (ss : List SE) (ts : List ByteArray) (a0 a1 a2 : Option Addr) (c0 c1 c2 : Nat) (w : World) (h0 : CellsF RP.cells 10 w a0 ps) (h1 : CellsF SE.cells 2 w a1 ss) (h2 : Cells w a2 (strs ts))
    (hr : ∀ p ∈ ps, Raw p) (hs : ∀ s ∈ ss, s.addr.size ≤ 9223372036854775807) (ht : ∀ t ∈ ts, t.size ≤ 9223372036854775807) (l0 : ps.length ≤ 9223372036854775807) (l1 : ss.length ≤ 9223372036854775807) (l2 : ts.length ≤ 9223372036854775807) :
    Calls Tryd.prog 5 #[.slice a0 ps.length c0, .slice a1 ss.length c1, .slice a2 ts.length c2] w fun e w' => SomeB e ∧ w' = w := by
  by_cases hA : 1048576 < (ps.length : Int)
  · go_enter Tryd.func5, Tryd.ntmps5
    go_wp2_with fail
    go_ret
    exact ⟨⟨_, rfl⟩, rfl⟩
  go_enter Tryd.func5, Tryd.ntmps5
  go_wp2_with fail
  go_loop [7, 8] (fun t i => ∃ (k : Nat) (T : Int), k ≤ ps.length ∧ i = .int .i64 k ∧ t = .int .i64 T ∧ 0 ≤ T ∧ T ≤ 1048576) (fun _ i => ps.length - (intOf i).toNat)
  case atStart => exact ⟨0, _, Nat.zero_le _, rfl, rfl, by omega, by omega⟩
  case round =>
    obtain ⟨k, T, hk, rfl, rfl, t0, t1⟩ := hrel
    by_cases hkl : k < ps.length
    · have hlti : (k : Int) < (ps.length : Int) := by omega
      rcases h0 with ha | ⟨ba, oa, rfl, hca⟩
      · subst ha; simp at hkl
      obtain ⟨⟨xa, xn, xc, hx, hxn⟩, ⟨ya, yn, yc, hy, hyn⟩, ha1, ha2⟩ := hr ps[k] (List.getElem_mem _)
      have e0 : w.cell? ⟨ba, oa + k * 10, none⟩ = some (.string ps[k].addr) := hca k hkl 0 (by omega)
      have e1 : w.cell? ⟨ba, oa + k * 10 + 1, none⟩ = some ps[k].vo := hca k hkl 1 (by omega)
      have e3 : w.cell? ⟨ba, oa + k * 10 + 3, none⟩ = some ps[k].vs := hca k hkl 3 (by omega)
      have e6 : w.cell? ⟨ba, oa + k * 10 + 6, none⟩ = some (.string ps[k].ind) := hca k hkl 6 (by omega)
      rw [hx] at e1
      rw [hy] at e3
      clear hca hr hx hy
      generalize hAd : ps[k].addr = ad at *
      generalize hIn : ps[k].ind = dn at *
      clear hAd hIn
      by_cases hpa : 1048576 < (ad.size : Int)
      · go_wp2_with fail
        go_ret
        exact ⟨⟨_, rfl⟩, rfl⟩
      by_cases hpb : 1048576 < T + (ad.size : Int)
      · go_wp2_with fail
        go_ret
        exact ⟨⟨_, rfl⟩, rfl⟩
      by_cases hqa : 1048576 < (xn : Int)
      · go_wp2_with fail
        go_ret
        exact ⟨⟨_, rfl⟩, rfl⟩
      by_cases hqb : 1048576 < T + (ad.size : Int) + (xn : Int)
      · go_wp2_with fail
        go_ret
        exact ⟨⟨_, rfl⟩, rfl⟩
      by_cases hra : 1048576 < (yn : Int)
      · go_wp2_with fail
        go_ret
        exact ⟨⟨_, rfl⟩, rfl⟩
      by_cases hrb : 1048576 < T + (ad.size : Int) + (xn : Int) + (yn : Int)
      · go_wp2_with fail
        go_ret
        exact ⟨⟨_, rfl⟩, rfl⟩
      by_cases hsa : 1048576 < (dn.size : Int)
      · go_wp2_with fail
        go_ret
        exact ⟨⟨_, rfl⟩, rfl⟩
      by_cases hsb : 1048576 < T + (ad.size : Int) + (xn : Int) + (yn : Int) + (dn.size : Int)
      · go_wp2_with fail
        go_ret
        exact ⟨⟨_, rfl⟩, rfl⟩
      go_wp2_with fail
      go_round
      case rel => exact ⟨k + 1, T + (ad.size : Int) + (xn : Int) + (yn : Int) + (dn.size : Int), by omega, by go_num, by go_num, by omega, by omega⟩
      case measure => simp [intOf]; omega
    · clear h0 hr
      by_cases hB : 1048576 < (ss.length : Int)
      · go_wp2_with fail
        go_ret
        exact ⟨⟨_, rfl⟩, rfl⟩
      by_cases hB2 : 1048576 < T + (ss.length : Int)
      · go_wp2_with fail
        go_ret
        exact ⟨⟨_, rfl⟩, rfl⟩
      go_wp2_with fail
      go_loop [7, 9] (fun t i => ∃ (k : Nat) (T : Int), k ≤ ss.length ∧ i = .int .i64 k ∧ t = .int .i64 T ∧ 0 ≤ T ∧ T ≤ 1048576) (fun _ i => ss.length - (intOf i).toNat)
      case atStart => exact ⟨0, _, Nat.zero_le _, rfl, rfl, by omega, by omega⟩
      case round =>
        obtain ⟨k2, T2, hk2, rfl, rfl, t02, t12⟩ := hrel
        by_cases hkl2 : k2 < ss.length
        · have hlti : (k2 : Int) < (ss.length : Int) := by omega
          rcases h1 with ha | ⟨ba, oa, rfl, hca⟩
          · subst ha; simp at hkl2
          have ha1 := hs ss[k2] (List.getElem_mem _)
          have e0 : w.cell? ⟨ba, oa + k2 * 2, none⟩ = some (.string ss[k2].addr) := hca k2 hkl2 0 (by omega)
          clear hca hs
          generalize hAd : ss[k2].addr = ad at *
          clear hAd
          by_cases hpa : 1048576 < (ad.size : Int)
          · go_wp2_with fail
            go_ret
            exact ⟨⟨_, rfl⟩, rfl⟩
          by_cases hpb : 1048576 < T2 + (ad.size : Int)
          · go_wp2_with fail
            go_ret
            exact ⟨⟨_, rfl⟩, rfl⟩
          go_wp2_with fail
          go_round
          case rel => exact ⟨k2 + 1, T2 + (ad.size : Int), by omega, by go_num, by go_num, by omega, by omega⟩
          case measure => simp [intOf]; omega
        · clear h1 hs
          by_cases hC : 1048576 < (ts.length : Int)
          · go_wp2_with fail
            go_ret
            exact ⟨⟨_, rfl⟩, rfl⟩
          by_cases hC2 : 1048576 < T2 + (ts.length : Int)
          · go_wp2_with fail
            go_ret
            exact ⟨⟨_, rfl⟩, rfl⟩
          go_wp2_with fail
          go_loop [7, 10] (fun t i => ∃ (k : Nat) (T : Int), k ≤ ts.length ∧ i = .int .i64 k ∧ t = .int .i64 T ∧ 0 ≤ T ∧ T ≤ 1048576) (fun _ i => ts.length - (intOf i).toNat)
          case atStart => exact ⟨0, _, Nat.zero_le _, rfl, rfl, by omega, by omega⟩
          case round =>
            obtain ⟨k3, T3, hk3, rfl, rfl, t03, t13⟩ := hrel
            by_cases hkl3 : k3 < ts.length
            · have hlti : (k3 : Int) < (ts.length : Int) := by omega
              rcases h2 with ha | ⟨ba, oa, rfl, hca⟩
              · have hz := strs_length ts; rw [ha] at hz; have hz2 : ts.length = 0 := hz.symm; omega
              have ha1 := ht ts[k3] (List.getElem_mem _)
              have e0 : w.cell? ⟨ba, oa + k3, none⟩ = some (.string ts[k3]) := by
                have := hca k3 (by rw [strs_length]; exact hkl3)
                rw [strs_get] at this; exact this
              clear hca ht
              generalize hAd : ts[k3] = ad at *
              clear hAd
              by_cases hpa : 1048576 < (ad.size : Int)
              · go_wp2_with fail
                go_ret
                exact ⟨⟨_, rfl⟩, rfl⟩
              by_cases hpb : 1048576 < T3 + (ad.size : Int)
              · go_wp2_with fail
                go_ret
                exact ⟨⟨_, rfl⟩, rfl⟩
              go_wp2_with fail
              go_round
              case rel => exact ⟨k3 + 1, T3 + (ad.size : Int), by omega, by go_num, by go_num, by omega, by omega⟩
              case measure => simp [intOf]; omega
            · clear h2 ht
              go_wp2_with fail
              go_ret
              exact ⟨⟨_, rfl⟩, rfl⟩

set_option maxHeartbeats 4000000 in
set_option maxRecDepth 100000 in
theorem guard15_any (ps : List RP) (ss : List SE) (ts : List ByteArray) (a0 a1 a2 : Option Addr) (c0 c1 c2 : Nat) (w : World) (h0 : CellsF RP.cells 10 w a0 ps) (h1 : CellsF SE.cells 2 w a1 ss) (h2 : Cells w a2 (strs ts))
    (hr : ∀ p ∈ ps, Raw p) (hs : ∀ s ∈ ss, s.addr.size ≤ 9223372036854775807) (ht : ∀ t ∈ ts, t.size ≤ 9223372036854775807) (l0 : ps.length ≤ 9223372036854775807) (l1 : ss.length ≤ 9223372036854775807) (l2 : ts.length ≤ 9223372036854775807) :
    Calls Tryd.prog 15 #[.slice a0 ps.length c0, .slice a1 ss.length c1, .slice a2 ts.length c2] w fun e w' => SomeB e ∧ w' = w := by
  by_cases hA : 1048576 < (ps.length : Int)
  · go_enter Tryd.func15, Tryd.ntmps15
    go_wp2_with fail
    go_ret
    exact ⟨⟨_, rfl⟩, rfl⟩
  go_enter Tryd.func15, Tryd.ntmps15
  go_wp2_with fail
  go_loop [7, 8] (fun t i => ∃ (k : Nat) (T : Int), k ≤ ps.length ∧ i = .int .i64 k ∧ t = .int .i64 T ∧ 0 ≤ T ∧ T ≤ 1048576) (fun _ i => ps.length - (intOf i).toNat)
  case atStart => exact ⟨0, _, Nat.zero_le _, rfl, rfl, by omega, by omega⟩
  case round =>
    obtain ⟨k, T, hk, rfl, rfl, t0, t1⟩ := hrel
    by_cases hkl : k < ps.length
    · have hlti : (k : Int) < (ps.length : Int) := by omega
      rcases h0 with ha | ⟨ba, oa, rfl, hca⟩
      · subst ha; simp at hkl
      obtain ⟨⟨xa, xn, xc, hx, hxn⟩, ⟨ya, yn, yc, hy, hyn⟩, ha1, ha2⟩ := hr ps[k] (List.getElem_mem _)
      have e0 : w.cell? ⟨ba, oa + k * 10, none⟩ = some (.string ps[k].addr) := hca k hkl 0 (by omega)
      have e1 : w.cell? ⟨ba, oa + k * 10 + 1, none⟩ = some ps[k].vo := hca k hkl 1 (by omega)
      have e3 : w.cell? ⟨ba, oa + k * 10 + 3, none⟩ = some ps[k].vs := hca k hkl 3 (by omega)
      have e6 : w.cell? ⟨ba, oa + k * 10 + 6, none⟩ = some (.string ps[k].ind) := hca k hkl 6 (by omega)
      rw [hx] at e1
      rw [hy] at e3
      clear hca hr hx hy
      generalize hAd : ps[k].addr = ad at *
      generalize hIn : ps[k].ind = dn at *
      clear hAd hIn
      by_cases hpa : 1048576 < (ad.size : Int)
      · go_wp2_with fail
        go_ret
        exact ⟨⟨_, rfl⟩, rfl⟩
      by_cases hpb : 1048576 < T + (ad.size : Int)
      · go_wp2_with fail
        go_ret
        exact ⟨⟨_, rfl⟩, rfl⟩
      by_cases hqa : 1048576 < (xn : Int)
      · go_wp2_with fail
        go_ret
        exact ⟨⟨_, rfl⟩, rfl⟩
      by_cases hqb : 1048576 < T + (ad.size : Int) + (xn : Int)
      · go_wp2_with fail
        go_ret
        exact ⟨⟨_, rfl⟩, rfl⟩
      by_cases hra : 1048576 < (yn : Int)
      · go_wp2_with fail
        go_ret
        exact ⟨⟨_, rfl⟩, rfl⟩
      by_cases hrb : 1048576 < T + (ad.size : Int) + (xn : Int) + (yn : Int)
      · go_wp2_with fail
        go_ret
        exact ⟨⟨_, rfl⟩, rfl⟩
      by_cases hsa : 1048576 < (dn.size : Int)
      · go_wp2_with fail
        go_ret
        exact ⟨⟨_, rfl⟩, rfl⟩
      by_cases hsb : 1048576 < T + (ad.size : Int) + (xn : Int) + (yn : Int) + (dn.size : Int)
      · go_wp2_with fail
        go_ret
        exact ⟨⟨_, rfl⟩, rfl⟩
      go_wp2_with fail
      go_round
      case rel => exact ⟨k + 1, T + (ad.size : Int) + (xn : Int) + (yn : Int) + (dn.size : Int), by omega, by go_num, by go_num, by omega, by omega⟩
      case measure => simp [intOf]; omega
    · clear h0 hr
      by_cases hB : 1048576 < (ss.length : Int)
      · go_wp2_with fail
        go_ret
        exact ⟨⟨_, rfl⟩, rfl⟩
      by_cases hB2 : 1048576 < T + (ss.length : Int)
      · go_wp2_with fail
        go_ret
        exact ⟨⟨_, rfl⟩, rfl⟩
      go_wp2_with fail
      go_loop [7, 9] (fun t i => ∃ (k : Nat) (T : Int), k ≤ ss.length ∧ i = .int .i64 k ∧ t = .int .i64 T ∧ 0 ≤ T ∧ T ≤ 1048576) (fun _ i => ss.length - (intOf i).toNat)
      case atStart => exact ⟨0, _, Nat.zero_le _, rfl, rfl, by omega, by omega⟩
      case round =>
        obtain ⟨k2, T2, hk2, rfl, rfl, t02, t12⟩ := hrel
        by_cases hkl2 : k2 < ss.length
        · have hlti : (k2 : Int) < (ss.length : Int) := by omega
          rcases h1 with ha | ⟨ba, oa, rfl, hca⟩
          · subst ha; simp at hkl2
          have ha1 := hs ss[k2] (List.getElem_mem _)
          have e0 : w.cell? ⟨ba, oa + k2 * 2, none⟩ = some (.string ss[k2].addr) := hca k2 hkl2 0 (by omega)
          clear hca hs
          generalize hAd : ss[k2].addr = ad at *
          clear hAd
          by_cases hpa : 1048576 < (ad.size : Int)
          · go_wp2_with fail
            go_ret
            exact ⟨⟨_, rfl⟩, rfl⟩
          by_cases hpb : 1048576 < T2 + (ad.size : Int)
          · go_wp2_with fail
            go_ret
            exact ⟨⟨_, rfl⟩, rfl⟩
          go_wp2_with fail
          go_round
          case rel => exact ⟨k2 + 1, T2 + (ad.size : Int), by omega, by go_num, by go_num, by omega, by omega⟩
          case measure => simp [intOf]; omega
        · clear h1 hs
          by_cases hC : 1048576 < (ts.length : Int)
          · go_wp2_with fail
            go_ret
            exact ⟨⟨_, rfl⟩, rfl⟩
          by_cases hC2 : 1048576 < T2 + (ts.length : Int)
          · go_wp2_with fail
            go_ret
            exact ⟨⟨_, rfl⟩, rfl⟩
          go_wp2_with fail
          go_loop [7, 10] (fun t i => ∃ (k : Nat) (T : Int), k ≤ ts.length ∧ i = .int .i64 k ∧ t = .int .i64 T ∧ 0 ≤ T ∧ T ≤ 1048576) (fun _ i => ts.length - (intOf i).toNat)
          case atStart => exact ⟨0, _, Nat.zero_le _, rfl, rfl, by omega, by omega⟩
          case round =>
            obtain ⟨k3, T3, hk3, rfl, rfl, t03, t13⟩ := hrel
            by_cases hkl3 : k3 < ts.length
            · have hlti : (k3 : Int) < (ts.length : Int) := by omega
              rcases h2 with ha | ⟨ba, oa, rfl, hca⟩
              · have hz := strs_length ts; rw [ha] at hz; have hz2 : ts.length = 0 := hz.symm; omega
              have ha1 := ht ts[k3] (List.getElem_mem _)
              have e0 : w.cell? ⟨ba, oa + k3, none⟩ = some (.string ts[k3]) := by
                have := hca k3 (by rw [strs_length]; exact hkl3)
                rw [strs_get] at this; exact this
              clear hca ht
              generalize hAd : ts[k3] = ad at *
              clear hAd
              by_cases hpa : 1048576 < (ad.size : Int)
              · go_wp2_with fail
                go_ret
                exact ⟨⟨_, rfl⟩, rfl⟩
              by_cases hpb : 1048576 < T3 + (ad.size : Int)
              · go_wp2_with fail
                go_ret
                exact ⟨⟨_, rfl⟩, rfl⟩
              go_wp2_with fail
              go_round
              case rel => exact ⟨k3 + 1, T3 + (ad.size : Int), by omega, by go_num, by go_num, by omega, by omega⟩
              case measure => simp [intOf]; omega
            · clear h2 ht
              go_wp2_with fail
              go_ret
              exact ⟨⟨_, rfl⟩, rfl⟩

theorem seqKey_part (ps : List RP) (a0 a1 : Option Addr) (c0 c1 n1 : Nat) (w : World) (h0 : CellsF RP.cells 10 w a0 ps) (k : Nat) (hk : k < ps.length) (l0 : ps.length ≤ 131072) :
    Calls Tryd.prog 16 #[.slice a0 ps.length c0, .slice a1 n1 c1, .int .i64 k] w fun e w' => e = .returned (.string ps[k].addr) ∧ w' = w := by
  have hlti : (k : Int) < (ps.length : Int) := by omega
  rcases h0 with ha | ⟨ba, oa, rfl, hca⟩
  · subst ha; simp at hk
  have e0 : w.cell? ⟨ba, oa + k * 10, none⟩ = some (.string ps[k].addr) := hca k hk 0 (by omega)
  clear hca
  generalize hAd : ps[k].addr = ad at *
  go_enter Tryd.func16, Tryd.ntmps16
  go_wp2
  go_ret
  exact ⟨rfl, rfl⟩
theorem seqKey_seq (n0 : Nat) (ss : List SE) (a0 a1 : Option Addr) (c0 c1 : Nat) (w : World) (h1 : CellsF SE.cells 2 w a1 ss) (k : Nat) (hk : k < ss.length) (l0 : n0 ≤ 131072) (l1 : ss.length ≤ 131072) :
    Calls Tryd.prog 16 #[.slice a0 n0 c0, .slice a1 ss.length c1, .int .i64 ((n0 + k : Nat) : Int)] w fun e w' => e = .returned (.string ss[k].addr) ∧ w' = w := by
  have hlti : (k : Int) < (ss.length : Int) := by omega
  have hnl : ¬ ((n0 + k : Nat) : Int) < (n0 : Int) := by omega
  rcases h1 with ha | ⟨ba, oa, rfl, hca⟩
  · subst ha; simp at hk
  have e0 : w.cell? ⟨ba, oa + k * 2, none⟩ = some (.string ss[k].addr) := hca k hk 0 (by omega)
  have es : ((n0 + k : Nat) : Int) - (n0 : Int) = (k : Int) := by omega
  clear hca
  generalize hAd : ss[k].addr = ad at *
  go_enter Tryd.func16, Tryd.ntmps16
  go_wp2
  go_ret
  exact ⟨rfl, rfl⟩
end Go.Proofs.Qxb6604717aDoor
