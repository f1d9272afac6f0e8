import Derived.Test.Qxb6604165aScan
import Derived.Test.Qxb6604165aPlain2
import Derived.Test.Qxb6604165aKit
namespace Go.Proofs.Qxb6604165a
open Go.ChangeShapes Go.WideShapes Go.ChangeAt Go.RowKit

set_option maxHeartbeats 4000000 in
theorem model_minus (s : ByteArray) (w : World) (hs : s.size ≤ 1048576) (t : ByteArray) (ht : Hid (s.extract 1 s.size = t)) (hts : t.size ≤ 1048576) (h0 : 0 < s.size) (h1 : ((s[0].toNat : Int) == 43) = false) (h2 : ((s[0].toNat : Int) == 45) = true) :
    Calls Try.prog 6 #[.string s] w fun e w' => RetR e (bod t 0) true ∧ Below w.heap.size w w' := by
  have hp : (0 : Int) < (s.size : Int) := by omega
  have hp1 : (1 : Int) ≤ (s.size : Int) := by omega
  go_enter Try.func6, Try.ntmps6
  go_wp2_with fail
  rw [ht.out]
  clear hp hp1
  go_loop [9, 10, 11, 12] (fun d a o i => ∃ (k : Nat) (D A O : Int), k ≤ t.size ∧ d = .int .i64 D ∧ a = .int .i64 A ∧ o = .int .i64 O ∧ i = .int .i64 k ∧ CntD (bef t 0 k) D A ∧ CntO (bef t 0 k) O) (fun _ _ _ i => t.size - (intOf i).toNat)
  case atStart => exact ⟨0, 0, -1, 0, by omega, rfl, rfl, rfl, rfl, by rw [bef_start]; exact cntD_nil, by rw [bef_start]; exact cntO_nil⟩
  case round =>
    obtain ⟨k, D, A, O, hk, rfl, rfl, rfl, rfl, hcd, hco⟩ := hrel
    obtain ⟨d1, d2, d3, d4, d5⟩ := cntD_bd hcd
    obtain ⟨o1, o2⟩ := cntO_bd hco
    rw [bef_len t 0 k hk] at d2 d4 o2
    by_cases hlt : k < t.size
    · have hlti : (k : Int) < (t.size : Int) := by omega
      have HS := hide (bef_succ t 0 k hlt (Nat.zero_le _))
      have HL := hide (bef_len t 0 k hk)
      have hb : t[k].toNat < 256 := t[k].toNat_lt
      clear d5
      by_cases hdot : t[k] = 46
      · have hdb : ((t[k].toNat : Int) == 46) = true := by rw [hdot]; rfl
        have HD := hide (cntD_more hcd)
        have HO := hide (cntO_keep hco (x := 46) (fun h => h.2 rfl))
        have HE := hide hdot
        clear hdot hcd hco
        go_wp2_with fail
        go_round
        case rel => exact ⟨k + 1, D + 1, k, O, by omega, rfl, rfl, rfl, by go_num, by have := HD.out; rw [HL.out] at this; rw [HS.out, HE.out]; exact this, by rw [HS.out, HE.out]; exact HO.out⟩
        case measure => simp [intOf]; omega
      · have hdb : ((t[k].toNat : Int) == 46) = false := by
          rw [beq_eq_false_iff_ne]
          intro h
          exact hdot (UInt8.toNat_inj.1 (by show t[k].toNat = 46; omega))
        have HD := hide (cntD_keep hcd hdot)
        by_cases hdig : Dig t[k]
        · have HO := hide (cntO_keep hco (fun h => h.1 hdig))
          obtain ⟨g1, g2⟩ := hdig
          clear hdot hcd hco
          go_wp2_with fail
          go_round
          case rel => exact ⟨k + 1, D, A, O, by omega, rfl, rfl, rfl, by go_num, by rw [HS.out]; exact HD.out, by rw [HS.out]; exact HO.out⟩
          case measure => simp [intOf]; omega
        · have HO := hide (cntO_more hco (x := t[k]) ⟨hdig, hdot⟩)
          clear hdot hcd hco
          rcases Int.lt_or_le (t[k].toNat : Int) 48 with hlo | hhi
          · go_wp2_with fail
            go_round
            case rel => exact ⟨k + 1, D, A, O + 1, by omega, rfl, rfl, rfl, by go_num, by rw [HS.out]; exact HD.out, by rw [HS.out]; exact HO.out⟩
            case measure => simp [intOf]; omega
          · have hhi2 : 57 < (t[k].toNat : Int) := by unfold Dig at hdig; omega
            go_wp2_with fail
            go_round
            case rel => exact ⟨k + 1, D, A, O + 1, by omega, rfl, rfl, rfl, by go_num, by rw [HS.out]; exact HD.out, by rw [HS.out]; exact HO.out⟩
            case measure => simp [intOf]; omega
    · rw [bef_all t 0 k (by omega)] at hcd hco
      replace hcd : CntD (bod t 0) D A := hcd
      replace hco : CntO (bod t 0) O := hco
      have hln : (bod t 0).length = t.size := by unfold bod; simp
      have HLN := hide hln
      clear hln
      by_cases hz : t.size = 0
      · have hzb : ((t.size : Int) == 0) = true := by simp [hz]
        have R : RetR (.returned (.tuple #[.int .i64 0, .int .i64 0, .int .i64 0, .bool false])) (bod t 0) true := ⟨0, 0, 0, false, rfl, res_bad (by
          have e : bod t 0 = [] := List.eq_nil_of_length_eq_zero (by rw [HLN.out]; exact hz)
          rw [e]; exact bad_nil)⟩
        clear hz d5
        go_wp2_with fail
        (refine bodyPost_ret (results_tmp4 rfl _ _ _) rfl ?_; exact ⟨R, Below.refl _ _⟩)
      have hzb : ((t.size : Int) == 0) = false := by rw [beq_eq_false_iff_ne]; omega
      by_cases hop : 0 < O
      · have R : RetR (.returned (.tuple #[.int .i64 0, .int .i64 0, .int .i64 0, .bool false])) (bod t 0) true := ⟨0, 0, 0, false, rfl, res_bad (bad_others hco hop)⟩
        clear d5
        go_wp2_with fail
        (refine bodyPost_ret (results_tmp4 rfl _ _ _) rfl ?_; exact ⟨R, Below.refl _ _⟩)
      by_cases hdp : 1 < D
      · have R : RetR (.returned (.tuple #[.int .i64 0, .int .i64 0, .int .i64 0, .bool false])) (bod t 0) true := ⟨0, 0, 0, false, rfl, res_bad (bad_dots hcd hdp)⟩
        clear d5
        go_wp2_with fail
        (refine bodyPost_ret (results_tmp4 rfl _ _ _) rfl ?_; exact ⟨R, Below.refl _ _⟩)
      obtain rfl : O = 0 := by omega
      by_cases hD1 : D = 1
      · have hDb : (D == 1) = true := by simp [hD1]
        by_cases hA0 : A = 0
        · have R : RetR (.returned (.tuple #[.int .i64 0, .int .i64 0, .int .i64 0, .bool false])) (bod t 0) true := ⟨0, 0, 0, false, rfl, res_bad (bad_edge hcd hD1 (.inl hA0))⟩
          have hAb : (A == 0) = true := by simp [hA0]
          clear d5 hD1 hA0
          go_wp2_with fail
          (refine bodyPost_ret (results_tmp4 rfl _ _ _) rfl ?_; exact ⟨R, Below.refl _ _⟩)
        have hAb : (A == 0) = false := by simpa using hA0
        by_cases hA1 : A = (t.size : Int) - 1
        · have R : RetR (.returned (.tuple #[.int .i64 0, .int .i64 0, .int .i64 0, .bool false])) (bod t 0) true := ⟨0, 0, 0, false, rfl, res_bad (bad_edge hcd hD1 (.inr (by rw [HLN.out]; exact hA1)))⟩
          have hAc : (A == (t.size : Int) - 1) = true := by simp [hA1]
          clear d5 hD1 hA0 hA1
          go_wp2_with fail
          (refine bodyPost_ret (results_tmp4 rfl _ _ _) rfl ?_; exact ⟨R, Below.refl _ _⟩)
        have hAc : (A == (t.size : Int) - 1) = false := by simpa using hA1
        have HRES := hide (res_pointed (neg := true) hco hcd hD1 hA0 (by rw [HLN.out]; exact hA1))
        have HDIG := hide (good_dig hco)
        have hA2 := d5 hD1
        clear d5 hD1 hA0 hA1 hcd hco
        have hrow0 : RowAt (w.alloc (.cells #[.int .u8 0, .int .u8 0, .int .u8 0, .int .u8 0, .int .u8 0, .int .u8 0, .int .u8 0, .int .u8 0, .int .u8 0, .int .u8 0, .int .u8 0, .int .u8 0, .int .u8 0, .int .u8 0, .int .u8 0, .int .u8 0, .int .u8 0, .int .u8 0] 25)) w.heap.size 25 (cells18 (lead (bef t 0 0))) := by
          rw [bef_start]; exact heap_alloc_new w _
        have hb0 := (Below.refl w.heap.size w).alloc (Nat.le_refl _) (.cells #[.int .u8 0, .int .u8 0, .int .u8 0, .int .u8 0, .int .u8 0, .int .u8 0, .int .u8 0, .int .u8 0, .int .u8 0, .int .u8 0, .int .u8 0, .int .u8 0, .int .u8 0, .int .u8 0, .int .u8 0, .int .u8 0, .int .u8 0, .int .u8 0] 25)
        go_wp2_with fail
        generalize w.alloc (.cells #[.int .u8 0, .int .u8 0, .int .u8 0, .int .u8 0, .int .u8 0, .int .u8 0, .int .u8 0, .int .u8 0, .int .u8 0, .int .u8 0, .int .u8 0, .int .u8 0, .int .u8 0, .int .u8 0, .int .u8 0, .int .u8 0, .int .u8 0, .int .u8 0] 25) = w0 at *
        go_loopw [16, 17] (fun kk ii wr => ∃ i : Nat, i ≤ t.size ∧ ii = .int .i64 i ∧ kk = .int .i64 (lead (bef t 0 i)).length ∧ RowAt wr w.heap.size 25 (cells18 (lead (bef t 0 i))) ∧ Below w.heap.size w wr) (fun _ ii _ => t.size - (intOf ii).toNat)
        case atStart => exact ⟨0, Nat.zero_le _, rfl, by rw [bef_start]; rfl, hrow0, hb0⟩
        case round =>
          clear hrow0 hb0
          obtain ⟨i, hi, rfl, rfl, hrow, hbw⟩ := hrel
          have hl18 := lead_len (bef t 0 i)
          by_cases hgo : i < t.size ∧ (lead (bef t 0 i)).length < 18
          · obtain ⟨hlt, hl⟩ := hgo
            have hlti : (i : Int) < (t.size : Int) := by omega
            have hlL : ((lead (bef t 0 i)).length : Int) < 18 := by omega
            have HS := hide (bef_succ t 0 i hlt (Nat.zero_le _))
            have hb : t[i].toNat < 256 := t[i].toNat_lt
            by_cases hdot : t[i] = 46
            · have hdb : ((t[i].toNat : Int) != 46) = false := by rw [hdot]; rfl
              have HE : Hid (lead (bef t 0 (i + 1)) = lead (bef t 0 i)) := by show _ = _; rw [HS.out, hdot, lead_dot]
              clear hdot
              generalize lead (bef t 0 i) = L at *
              go_wp2_with fail
              go_roundw
              case rel => exact ⟨i + 1, by omega, by go_num, by rw [HE.out], by rw [HE.out]; exact hrow, hbw⟩
              case measure => simp [intOf]; omega
            · have hdb : ((t[i].toNat : Int) != 46) = true := by
                rw [bne_iff_ne]
                intro h
                exact hdot (UInt8.toNat_inj.1 (by show t[i].toNat = 46; omega))
              have HE : Hid (lead (bef t 0 (i + 1)) = lead (bef t 0 i) ++ [t[i]]) := by show _ = _; rw [HS.out, lead_more _ _ hdot hl]
              clear hdot
              generalize lead (bef t 0 i) = L at *
              have c0 : wr.cell? ⟨w.heap.size, L.length, none⟩ = some ((cells18 L)[L.length]'(by rw [cells18_len L hl18]; omega)) := by rw [hrow.cell, List.getElem?_eq_getElem]
              have f0 := hrow.frozen L.length
              have R := hrow.set L.length (.int .u8 (t[i].toNat : Int))
              rw [cells18_set L _ hl] at R
              have RB := hbw.setCell (p := ⟨w.heap.size, L.length, none⟩) (Nat.le_refl _) (.int .u8 (t[i].toNat : Int))
              clear hrow hbw
              go_wp2_with fail
              go_roundw
              case rel => exact ⟨i + 1, by omega, by go_num, by rw [HE.out]; simp, by rw [HE.out]; exact R, RB⟩
              case measure => simp [intOf]; omega
          · have HE : Hid (lead (bef t 0 i) = lead (bod t 0)) := by
              show _ = _
              by_cases hlt : i < t.size
              · have hl : ¬ (lead (bef t 0 i)).length < 18 := fun h => hgo ⟨hlt, h⟩
                have := bef_rest t 0 i hlt (Nat.zero_le _)
                unfold bod
                rw [this, lead_full _ _ hl]
              · rw [bef_all t 0 i (by omega)]; rfl
            have HDL : Hid (∀ c ∈ lead (bod t 0), Dig c) := fun c hc => HDIG.out c (List.mem_of_mem_take hc)
            have HV : Hid (val18 (bod t 0) = val (lead (bod t 0))) := rfl
            have hgo' : i < t.size ∧ ¬ (lead (bef t 0 i)).length < 18 ∨ ¬ i < t.size := by omega
            clear hgo
            rw [HE.out] at hrow hl18 hgo'
            rw [HE.out]
            generalize lead (bod t 0) = L at *
            clear HE
            rcases hgo' with ⟨hlt, hl⟩ | hlt
            · have hb18 : decide (((L.length : Nat) : Int) < 18) = false := by simp; omega
              go_wp2_with fail
              go_loop [18, 19, 20] (fun v q i => ∃ (j : Nat) (V Q : Int), j ≤ L.length ∧ i = .int .i64 ((j : Int) - 1) ∧ v = .int .i64 V ∧ q = .int .i64 Q ∧ V = val (L.drop j) ∧ (0 < j → Q = 10 ^ (L.length - j))) (fun _ _ i => (intOf i + 1).toNat)
              case atStart => exact ⟨L.length, 0, 1, Nat.le_refl _, rfl, rfl, rfl, by rw [List.drop_length]; rfl, fun _ => by rw [Nat.sub_self]; rfl⟩
              case round =>
                obtain ⟨j, V, Q, hj, rfl, rfl, rfl, hV, hQ⟩ := hrel
                have HVV := hide hV
                clear hV
                have HQQ := hide hQ
                clear hQ
                rcases Nat.eq_zero_or_pos j with h0j | hpos
                · subst h0j
                  have hV2 : V = val18 (bod t 0) := by rw [HV.out, HVV.out]; rfl
                  have hVb := val_le18 L HDL.out hl18
                  have hVb0 : 0 ≤ V ∧ V < 1000000000000000000 := by rw [HVV.out]; exact hVb
                  have HR2 := HRES.out
                  rw [← hV2, HLN.out] at HR2
                  have HR3 := hide HR2
                  clear HR2 hV2 hVb
                  obtain ⟨hv0, hv1⟩ := hVb0
                  go_wp2_with fail
                  (refine bodyPost_ret (results_tmp4 rfl _ _ _) rfl ?_; exact ⟨⟨_, _, _, _, rfl, HR3.out⟩, hbw⟩)
                · obtain ⟨m, rfl⟩ : ∃ m, j = m + 1 := ⟨j - 1, by omega⟩
                  have hmL : m < L.length := by omega
                  have em : ((m + 1 : Nat) : Int) - 1 = (m : Int) := by omega
                  rw [em]
                  have hcell : wr.cell? ⟨w.heap.size, m, none⟩ = some (.int .u8 (L[m].toNat : Int)) := by rw [hrow.cell, cells18_get L m hmL]
                  have hm18 : (m : Int) < 18 := by omega
                  obtain ⟨g1, g2⟩ := HDL.out L[m] (List.getElem_mem _)
                  have hQe := HQQ.out (by omega)
                  have hvd := val_drop L m hmL
                  rw [← hQe, ← HVV.out] at hvd
                  have hbd1 : 0 ≤ V ∧ V < 1000000000000000000 := by rw [HVV.out]; exact val_le18 _ (fun c hc => HDL.out c (List.mem_of_mem_drop hc)) (by simp; omega)
                  have hbd2 := val_le18 (L.drop m) (fun c hc => HDL.out c (List.mem_of_mem_drop hc)) (by simp; omega)
                  rw [hvd] at hbd2
                  have hq0 : 1 ≤ Q := by rw [hQe]; exact Int.pow_pos (by decide)
                  have hq1 : Q ≤ 100000000000000000 := by
                    have := pow_mono (show L.length - (m + 1) ≤ 17 by omega)
                    rw [pow17] at this
                    rw [hQe]; exact this
                  have hq2 : 0 < m → Q ≤ 10000000000000000 := by
                    intro h
                    have := pow_mono (show L.length - (m + 1) ≤ 16 by omega)
                    have e16 : (10 : Int) ^ 16 = 10000000000000000 := by decide
                    rw [e16] at this
                    rw [hQe]; exact this
                  have hQn : 0 < m → Q * 10 = 10 ^ (L.length - m) := by
                    intro h
                    rw [hQe, ← Int.pow_succ]
                    congr 1
                    omega
                  have HVD := hide hvd
                  have HQN := hide hQn
                  clear hvd hQn hQe
                  have hz : 0 ≤ ((L[m].toNat : Int) - 48) * Q := Int.mul_nonneg (by omega) (by omega)
                  obtain ⟨hb1, hb2⟩ := hbd1
                  obtain ⟨hb3, hb4⟩ := hbd2
                  have hz2 : ((L[m].toNat : Int) - 48) * Q < 1000000000000000000 := by omega
                  rcases Nat.eq_zero_or_pos m with hm0 | hmp
                  · subst hm0
                    clear hq2
                    go_wp2_with fail
                    go_round
                    case rel => exact ⟨0, _, Q, by omega, by go_num, rfl, rfl, HVD.out.symm, fun h => absurd h (by omega)⟩
                    case measure => simp [intOf]
                  · have hq3 := hq2 hmp
                    have hmi : (0 : Int) < (m : Int) := by omega
                    clear hq2
                    go_wp2_with fail
                    go_round
                    case rel => exact ⟨m, _, Q * 10, by omega, by go_num, rfl, rfl, HVD.out.symm, HQN.out⟩
                    case measure => simp [intOf]
            · go_wp2_with fail
              go_loop [18, 19, 20] (fun v q i => ∃ (j : Nat) (V Q : Int), j ≤ L.length ∧ i = .int .i64 ((j : Int) - 1) ∧ v = .int .i64 V ∧ q = .int .i64 Q ∧ V = val (L.drop j) ∧ (0 < j → Q = 10 ^ (L.length - j))) (fun _ _ i => (intOf i + 1).toNat)
              case atStart => exact ⟨L.length, 0, 1, Nat.le_refl _, rfl, rfl, rfl, by rw [List.drop_length]; rfl, fun _ => by rw [Nat.sub_self]; rfl⟩
              case round =>
                obtain ⟨j, V, Q, hj, rfl, rfl, rfl, hV, hQ⟩ := hrel
                have HVV := hide hV
                clear hV
                have HQQ := hide hQ
                clear hQ
                rcases Nat.eq_zero_or_pos j with h0j | hpos
                · subst h0j
                  have hV2 : V = val18 (bod t 0) := by rw [HV.out, HVV.out]; rfl
                  have hVb := val_le18 L HDL.out hl18
                  have hVb0 : 0 ≤ V ∧ V < 1000000000000000000 := by rw [HVV.out]; exact hVb
                  have HR2 := HRES.out
                  rw [← hV2, HLN.out] at HR2
                  have HR3 := hide HR2
                  clear HR2 hV2 hVb
                  obtain ⟨hv0, hv1⟩ := hVb0
                  go_wp2_with fail
                  (refine bodyPost_ret (results_tmp4 rfl _ _ _) rfl ?_; exact ⟨⟨_, _, _, _, rfl, HR3.out⟩, hbw⟩)
                · obtain ⟨m, rfl⟩ : ∃ m, j = m + 1 := ⟨j - 1, by omega⟩
                  have hmL : m < L.length := by omega
                  have em : ((m + 1 : Nat) : Int) - 1 = (m : Int) := by omega
                  rw [em]
                  have hcell : wr.cell? ⟨w.heap.size, m, none⟩ = some (.int .u8 (L[m].toNat : Int)) := by rw [hrow.cell, cells18_get L m hmL]
                  have hm18 : (m : Int) < 18 := by omega
                  obtain ⟨g1, g2⟩ := HDL.out L[m] (List.getElem_mem _)
                  have hQe := HQQ.out (by omega)
                  have hvd := val_drop L m hmL
                  rw [← hQe, ← HVV.out] at hvd
                  have hbd1 : 0 ≤ V ∧ V < 1000000000000000000 := by rw [HVV.out]; exact val_le18 _ (fun c hc => HDL.out c (List.mem_of_mem_drop hc)) (by simp; omega)
                  have hbd2 := val_le18 (L.drop m) (fun c hc => HDL.out c (List.mem_of_mem_drop hc)) (by simp; omega)
                  rw [hvd] at hbd2
                  have hq0 : 1 ≤ Q := by rw [hQe]; exact Int.pow_pos (by decide)
                  have hq1 : Q ≤ 100000000000000000 := by
                    have := pow_mono (show L.length - (m + 1) ≤ 17 by omega)
                    rw [pow17] at this
                    rw [hQe]; exact this
                  have hq2 : 0 < m → Q ≤ 10000000000000000 := by
                    intro h
                    have := pow_mono (show L.length - (m + 1) ≤ 16 by omega)
                    have e16 : (10 : Int) ^ 16 = 10000000000000000 := by decide
                    rw [e16] at this
                    rw [hQe]; exact this
                  have hQn : 0 < m → Q * 10 = 10 ^ (L.length - m) := by
                    intro h
                    rw [hQe, ← Int.pow_succ]
                    congr 1
                    omega
                  have HVD := hide hvd
                  have HQN := hide hQn
                  clear hvd hQn hQe
                  have hz : 0 ≤ ((L[m].toNat : Int) - 48) * Q := Int.mul_nonneg (by omega) (by omega)
                  obtain ⟨hb1, hb2⟩ := hbd1
                  obtain ⟨hb3, hb4⟩ := hbd2
                  have hz2 : ((L[m].toNat : Int) - 48) * Q < 1000000000000000000 := by omega
                  rcases Nat.eq_zero_or_pos m with hm0 | hmp
                  · subst hm0
                    clear hq2
                    go_wp2_with fail
                    go_round
                    case rel => exact ⟨0, _, Q, by omega, by go_num, rfl, rfl, HVD.out.symm, fun h => absurd h (by omega)⟩
                    case measure => simp [intOf]
                  · have hq3 := hq2 hmp
                    have hmi : (0 : Int) < (m : Int) := by omega
                    clear hq2
                    go_wp2_with fail
                    go_round
                    case rel => exact ⟨m, _, Q * 10, by omega, by go_num, rfl, rfl, HVD.out.symm, HQN.out⟩
                    case measure => simp [intOf]

      · have hDb : (D == 1) = false := by simpa using hD1
        have HRES := hide (res_plain (neg := true) hco hcd (by omega) (by rw [HLN.out]; omega))
        have HDIG := hide (good_dig hco)
        clear d5 hD1 hcd hco
        have hrow0 : RowAt (w.alloc (.cells #[.int .u8 0, .int .u8 0, .int .u8 0, .int .u8 0, .int .u8 0, .int .u8 0, .int .u8 0, .int .u8 0, .int .u8 0, .int .u8 0, .int .u8 0, .int .u8 0, .int .u8 0, .int .u8 0, .int .u8 0, .int .u8 0, .int .u8 0, .int .u8 0] 25)) w.heap.size 25 (cells18 (lead (bef t 0 0))) := by
          rw [bef_start]; exact heap_alloc_new w _
        have hb0 := (Below.refl w.heap.size w).alloc (Nat.le_refl _) (.cells #[.int .u8 0, .int .u8 0, .int .u8 0, .int .u8 0, .int .u8 0, .int .u8 0, .int .u8 0, .int .u8 0, .int .u8 0, .int .u8 0, .int .u8 0, .int .u8 0, .int .u8 0, .int .u8 0, .int .u8 0, .int .u8 0, .int .u8 0, .int .u8 0] 25)
        go_wp2_with fail
        generalize w.alloc (.cells #[.int .u8 0, .int .u8 0, .int .u8 0, .int .u8 0, .int .u8 0, .int .u8 0, .int .u8 0, .int .u8 0, .int .u8 0, .int .u8 0, .int .u8 0, .int .u8 0, .int .u8 0, .int .u8 0, .int .u8 0, .int .u8 0, .int .u8 0, .int .u8 0] 25) = w0 at *
        go_loopw [16, 17] (fun kk ii wr => ∃ i : Nat, i ≤ t.size ∧ ii = .int .i64 i ∧ kk = .int .i64 (lead (bef t 0 i)).length ∧ RowAt wr w.heap.size 25 (cells18 (lead (bef t 0 i))) ∧ Below w.heap.size w wr) (fun _ ii _ => t.size - (intOf ii).toNat)
        case atStart => exact ⟨0, Nat.zero_le _, rfl, by rw [bef_start]; rfl, hrow0, hb0⟩
        case round =>
          clear hrow0 hb0
          obtain ⟨i, hi, rfl, rfl, hrow, hbw⟩ := hrel
          have hl18 := lead_len (bef t 0 i)
          by_cases hgo : i < t.size ∧ (lead (bef t 0 i)).length < 18
          · obtain ⟨hlt, hl⟩ := hgo
            have hlti : (i : Int) < (t.size : Int) := by omega
            have hlL : ((lead (bef t 0 i)).length : Int) < 18 := by omega
            have HS := hide (bef_succ t 0 i hlt (Nat.zero_le _))
            have hb : t[i].toNat < 256 := t[i].toNat_lt
            by_cases hdot : t[i] = 46
            · have hdb : ((t[i].toNat : Int) != 46) = false := by rw [hdot]; rfl
              have HE : Hid (lead (bef t 0 (i + 1)) = lead (bef t 0 i)) := by show _ = _; rw [HS.out, hdot, lead_dot]
              clear hdot
              generalize lead (bef t 0 i) = L at *
              go_wp2_with fail
              go_roundw
              case rel => exact ⟨i + 1, by omega, by go_num, by rw [HE.out], by rw [HE.out]; exact hrow, hbw⟩
              case measure => simp [intOf]; omega
            · have hdb : ((t[i].toNat : Int) != 46) = true := by
                rw [bne_iff_ne]
                intro h
                exact hdot (UInt8.toNat_inj.1 (by show t[i].toNat = 46; omega))
              have HE : Hid (lead (bef t 0 (i + 1)) = lead (bef t 0 i) ++ [t[i]]) := by show _ = _; rw [HS.out, lead_more _ _ hdot hl]
              clear hdot
              generalize lead (bef t 0 i) = L at *
              have c0 : wr.cell? ⟨w.heap.size, L.length, none⟩ = some ((cells18 L)[L.length]'(by rw [cells18_len L hl18]; omega)) := by rw [hrow.cell, List.getElem?_eq_getElem]
              have f0 := hrow.frozen L.length
              have R := hrow.set L.length (.int .u8 (t[i].toNat : Int))
              rw [cells18_set L _ hl] at R
              have RB := hbw.setCell (p := ⟨w.heap.size, L.length, none⟩) (Nat.le_refl _) (.int .u8 (t[i].toNat : Int))
              clear hrow hbw
              go_wp2_with fail
              go_roundw
              case rel => exact ⟨i + 1, by omega, by go_num, by rw [HE.out]; simp, by rw [HE.out]; exact R, RB⟩
              case measure => simp [intOf]; omega
          · have HE : Hid (lead (bef t 0 i) = lead (bod t 0)) := by
              show _ = _
              by_cases hlt : i < t.size
              · have hl : ¬ (lead (bef t 0 i)).length < 18 := fun h => hgo ⟨hlt, h⟩
                have := bef_rest t 0 i hlt (Nat.zero_le _)
                unfold bod
                rw [this, lead_full _ _ hl]
              · rw [bef_all t 0 i (by omega)]; rfl
            have HDL : Hid (∀ c ∈ lead (bod t 0), Dig c) := fun c hc => HDIG.out c (List.mem_of_mem_take hc)
            have HV : Hid (val18 (bod t 0) = val (lead (bod t 0))) := rfl
            have hgo' : i < t.size ∧ ¬ (lead (bef t 0 i)).length < 18 ∨ ¬ i < t.size := by omega
            clear hgo
            rw [HE.out] at hrow hl18 hgo'
            rw [HE.out]
            generalize lead (bod t 0) = L at *
            clear HE
            rcases hgo' with ⟨hlt, hl⟩ | hlt
            · have hb18 : decide (((L.length : Nat) : Int) < 18) = false := by simp; omega
              go_wp2_with fail
              go_loop [18, 19, 20] (fun v q i => ∃ (j : Nat) (V Q : Int), j ≤ L.length ∧ i = .int .i64 ((j : Int) - 1) ∧ v = .int .i64 V ∧ q = .int .i64 Q ∧ V = val (L.drop j) ∧ (0 < j → Q = 10 ^ (L.length - j))) (fun _ _ i => (intOf i + 1).toNat)
              case atStart => exact ⟨L.length, 0, 1, Nat.le_refl _, rfl, rfl, rfl, by rw [List.drop_length]; rfl, fun _ => by rw [Nat.sub_self]; rfl⟩
              case round =>
                obtain ⟨j, V, Q, hj, rfl, rfl, rfl, hV, hQ⟩ := hrel
                have HVV := hide hV
                clear hV
                have HQQ := hide hQ
                clear hQ
                rcases Nat.eq_zero_or_pos j with h0j | hpos
                · subst h0j
                  have hV2 : V = val18 (bod t 0) := by rw [HV.out, HVV.out]; rfl
                  have hVb := val_le18 L HDL.out hl18
                  have hVb0 : 0 ≤ V ∧ V < 1000000000000000000 := by rw [HVV.out]; exact hVb
                  have HR2 := HRES.out
                  rw [← hV2, HLN.out] at HR2
                  have HR3 := hide HR2
                  clear HR2 hV2 hVb
                  obtain ⟨hv0, hv1⟩ := hVb0
                  go_wp2_with fail
                  (refine bodyPost_ret (results_tmp4 rfl _ _ _) rfl ?_; exact ⟨⟨_, _, _, _, rfl, HR3.out⟩, hbw⟩)
                · obtain ⟨m, rfl⟩ : ∃ m, j = m + 1 := ⟨j - 1, by omega⟩
                  have hmL : m < L.length := by omega
                  have em : ((m + 1 : Nat) : Int) - 1 = (m : Int) := by omega
                  rw [em]
                  have hcell : wr.cell? ⟨w.heap.size, m, none⟩ = some (.int .u8 (L[m].toNat : Int)) := by rw [hrow.cell, cells18_get L m hmL]
                  have hm18 : (m : Int) < 18 := by omega
                  obtain ⟨g1, g2⟩ := HDL.out L[m] (List.getElem_mem _)
                  have hQe := HQQ.out (by omega)
                  have hvd := val_drop L m hmL
                  rw [← hQe, ← HVV.out] at hvd
                  have hbd1 : 0 ≤ V ∧ V < 1000000000000000000 := by rw [HVV.out]; exact val_le18 _ (fun c hc => HDL.out c (List.mem_of_mem_drop hc)) (by simp; omega)
                  have hbd2 := val_le18 (L.drop m) (fun c hc => HDL.out c (List.mem_of_mem_drop hc)) (by simp; omega)
                  rw [hvd] at hbd2
                  have hq0 : 1 ≤ Q := by rw [hQe]; exact Int.pow_pos (by decide)
                  have hq1 : Q ≤ 100000000000000000 := by
                    have := pow_mono (show L.length - (m + 1) ≤ 17 by omega)
                    rw [pow17] at this
                    rw [hQe]; exact this
                  have hq2 : 0 < m → Q ≤ 10000000000000000 := by
                    intro h
                    have := pow_mono (show L.length - (m + 1) ≤ 16 by omega)
                    have e16 : (10 : Int) ^ 16 = 10000000000000000 := by decide
                    rw [e16] at this
                    rw [hQe]; exact this
                  have hQn : 0 < m → Q * 10 = 10 ^ (L.length - m) := by
                    intro h
                    rw [hQe, ← Int.pow_succ]
                    congr 1
                    omega
                  have HVD := hide hvd
                  have HQN := hide hQn
                  clear hvd hQn hQe
                  have hz : 0 ≤ ((L[m].toNat : Int) - 48) * Q := Int.mul_nonneg (by omega) (by omega)
                  obtain ⟨hb1, hb2⟩ := hbd1
                  obtain ⟨hb3, hb4⟩ := hbd2
                  have hz2 : ((L[m].toNat : Int) - 48) * Q < 1000000000000000000 := by omega
                  rcases Nat.eq_zero_or_pos m with hm0 | hmp
                  · subst hm0
                    clear hq2
                    go_wp2_with fail
                    go_round
                    case rel => exact ⟨0, _, Q, by omega, by go_num, rfl, rfl, HVD.out.symm, fun h => absurd h (by omega)⟩
                    case measure => simp [intOf]
                  · have hq3 := hq2 hmp
                    have hmi : (0 : Int) < (m : Int) := by omega
                    clear hq2
                    go_wp2_with fail
                    go_round
                    case rel => exact ⟨m, _, Q * 10, by omega, by go_num, rfl, rfl, HVD.out.symm, HQN.out⟩
                    case measure => simp [intOf]
            · go_wp2_with fail
              go_loop [18, 19, 20] (fun v q i => ∃ (j : Nat) (V Q : Int), j ≤ L.length ∧ i = .int .i64 ((j : Int) - 1) ∧ v = .int .i64 V ∧ q = .int .i64 Q ∧ V = val (L.drop j) ∧ (0 < j → Q = 10 ^ (L.length - j))) (fun _ _ i => (intOf i + 1).toNat)
              case atStart => exact ⟨L.length, 0, 1, Nat.le_refl _, rfl, rfl, rfl, by rw [List.drop_length]; rfl, fun _ => by rw [Nat.sub_self]; rfl⟩
              case round =>
                obtain ⟨j, V, Q, hj, rfl, rfl, rfl, hV, hQ⟩ := hrel
                have HVV := hide hV
                clear hV
                have HQQ := hide hQ
                clear hQ
                rcases Nat.eq_zero_or_pos j with h0j | hpos
                · subst h0j
                  have hV2 : V = val18 (bod t 0) := by rw [HV.out, HVV.out]; rfl
                  have hVb := val_le18 L HDL.out hl18
                  have hVb0 : 0 ≤ V ∧ V < 1000000000000000000 := by rw [HVV.out]; exact hVb
                  have HR2 := HRES.out
                  rw [← hV2, HLN.out] at HR2
                  have HR3 := hide HR2
                  clear HR2 hV2 hVb
                  obtain ⟨hv0, hv1⟩ := hVb0
                  go_wp2_with fail
                  (refine bodyPost_ret (results_tmp4 rfl _ _ _) rfl ?_; exact ⟨⟨_, _, _, _, rfl, HR3.out⟩, hbw⟩)
                · obtain ⟨m, rfl⟩ : ∃ m, j = m + 1 := ⟨j - 1, by omega⟩
                  have hmL : m < L.length := by omega
                  have em : ((m + 1 : Nat) : Int) - 1 = (m : Int) := by omega
                  rw [em]
                  have hcell : wr.cell? ⟨w.heap.size, m, none⟩ = some (.int .u8 (L[m].toNat : Int)) := by rw [hrow.cell, cells18_get L m hmL]
                  have hm18 : (m : Int) < 18 := by omega
                  obtain ⟨g1, g2⟩ := HDL.out L[m] (List.getElem_mem _)
                  have hQe := HQQ.out (by omega)
                  have hvd := val_drop L m hmL
                  rw [← hQe, ← HVV.out] at hvd
                  have hbd1 : 0 ≤ V ∧ V < 1000000000000000000 := by rw [HVV.out]; exact val_le18 _ (fun c hc => HDL.out c (List.mem_of_mem_drop hc)) (by simp; omega)
                  have hbd2 := val_le18 (L.drop m) (fun c hc => HDL.out c (List.mem_of_mem_drop hc)) (by simp; omega)
                  rw [hvd] at hbd2
                  have hq0 : 1 ≤ Q := by rw [hQe]; exact Int.pow_pos (by decide)
                  have hq1 : Q ≤ 100000000000000000 := by
                    have := pow_mono (show L.length - (m + 1) ≤ 17 by omega)
                    rw [pow17] at this
                    rw [hQe]; exact this
                  have hq2 : 0 < m → Q ≤ 10000000000000000 := by
                    intro h
                    have := pow_mono (show L.length - (m + 1) ≤ 16 by omega)
                    have e16 : (10 : Int) ^ 16 = 10000000000000000 := by decide
                    rw [e16] at this
                    rw [hQe]; exact this
                  have hQn : 0 < m → Q * 10 = 10 ^ (L.length - m) := by
                    intro h
                    rw [hQe, ← Int.pow_succ]
                    congr 1
                    omega
                  have HVD := hide hvd
                  have HQN := hide hQn
                  clear hvd hQn hQe
                  have hz : 0 ≤ ((L[m].toNat : Int) - 48) * Q := Int.mul_nonneg (by omega) (by omega)
                  obtain ⟨hb1, hb2⟩ := hbd1
                  obtain ⟨hb3, hb4⟩ := hbd2
                  have hz2 : ((L[m].toNat : Int) - 48) * Q < 1000000000000000000 := by omega
                  rcases Nat.eq_zero_or_pos m with hm0 | hmp
                  · subst hm0
                    clear hq2
                    go_wp2_with fail
                    go_round
                    case rel => exact ⟨0, _, Q, by omega, by go_num, rfl, rfl, HVD.out.symm, fun h => absurd h (by omega)⟩
                    case measure => simp [intOf]
                  · have hq3 := hq2 hmp
                    have hmi : (0 : Int) < (m : Int) := by omega
                    clear hq2
                    go_wp2_with fail
                    go_round
                    case rel => exact ⟨m, _, Q * 10, by omega, by go_num, rfl, rfl, HVD.out.symm, HQN.out⟩
                    case measure => simp [intOf]


end Go.Proofs.Qxb6604165a
