import Derived.Test.Qxb6604165aRows
import Derived.Test.Qxb6604165aPlain
import Derived.WalkKit
import Derived.ProofKit
import Derived.Below
namespace Go.Proofs.Qxb6604165a
open Go.ChangeShapes Go.WideShapes Go.ChangeAt Go.RowKit

def RetR (e : Ending) (l : List UInt8) (neg : Bool) : Prop := ∃ d f c ok, e = .returned (.tuple #[.int .i64 d, .int .i64 f, .int .i64 c, .bool ok]) ∧ Res l neg d f c ok

theorem results_tmp4 {fn : Func} {t u v x : Tmp} (h : fn.results = #[.tmp t, .tmp u, .tmp v, .tmp x]) (tmps : Array Value) (P : Program) (w : World) :
    (results fn tmps).run P w = .ok (.tuple #[tmps.getD t undef, tmps.getD u undef, tmps.getD v undef, tmps.getD x undef]) w := by
  simp [results, h]

theorem hide {p : Prop} (h : p) : Hid p := h

theorem drop_cons (s : ByteArray) (k : Nat) (h : k < s.size) : s.data.toList.drop k = s[k] :: s.data.toList.drop (k + 1) := by
  rw [List.drop_eq_getElem_cons (by simpa using h)]; rfl
theorem take_snoc (s : ByteArray) (k : Nat) (h : k < s.size) : s.data.toList.take (k + 1) = s.data.toList.take k ++ [s[k]] := by
  rw [List.take_succ_eq_append_getElem (by simpa using h)]; rfl

/-- The body's bytes before place k. -/
def bef (s : ByteArray) (st k : Nat) : List UInt8 := (s.data.toList.take k).drop st
theorem bef_succ (s : ByteArray) (st k : Nat) (h : k < s.size) (hs : st ≤ k) : bef s st (k + 1) = bef s st k ++ [s[k]] := by
  unfold bef
  rw [take_snoc s k h, List.drop_append_of_le_length (by simp; omega)]
theorem bef_all (s : ByteArray) (st k : Nat) (h : s.size ≤ k) : bef s st k = s.data.toList.drop st := by
  unfold bef; rw [List.take_of_length_le (by simpa using h)]
theorem bef_rest (s : ByteArray) (st k : Nat) (h : k < s.size) (hs : st ≤ k) : s.data.toList.drop st = bef s st k ++ s[k] :: s.data.toList.drop (k + 1) := by
  unfold bef
  rw [← drop_cons s k h]
  conv => lhs; rw [← List.take_append_drop k s.data.toList, List.drop_append_of_le_length (by simp; omega)]
theorem bef_start (s : ByteArray) (st : Nat) : bef s st st = [] := by
  unfold bef; rw [List.drop_eq_nil_of_le (by simp; omega)]
theorem bef_len (s : ByteArray) (st k : Nat) (h : k ≤ s.size) : (bef s st k).length = k - st := by
  unfold bef; simp; omega
/-- The body: the text from place st on. -/
def bod (s : ByteArray) (st : Nat) : List UInt8 := s.data.toList.drop st
theorem sta_nil : Sta [] 0 0 0 false := .inl ⟨fun _ h => absurd h List.not_mem_nil, rfl, rfl, rfl, rfl⟩

set_option maxHeartbeats 2000000 in
theorem scan_none (s : ByteArray) (w : World) (hs : s.size ≤ 1048576) (h0 : 0 < s.size) (h1 : ((s[0].toNat : Int) == 43) = false) (h2 : ((s[0].toNat : Int) == 45) = false) :
    Calls Try.prog 7 #[.string s] w fun e w' => RetR e (bod s 0) false ∧ w' = w := by
  have hp : (0 : Int) < (s.size : Int) := by omega
  go_enter Try.func7, Try.ntmps7
  go_wp2_with fail
  go_loop [2, 3, 4, 6, 8] (fun d f c i p => ∃ (k : Nat) (D F C : Int) (pt : Bool), k ≤ s.size ∧ 0 ≤ k ∧ d = .int .i64 D ∧ f = .int .i64 F ∧ c = .int .i64 C ∧ i = .int .i64 k ∧ p = .bool pt ∧ Sta (bef s 0 k) D F C pt) (fun _ _ _ i _ => s.size - (intOf i).toNat)
  case atStart => exact ⟨0, 0, 0, 0, false, by omega, by omega, rfl, rfl, rfl, rfl, rfl, by rw [bef_start]; exact sta_nil⟩
  case round =>
    obtain ⟨k, D, F, C, pt, hk, hk0, rfl, rfl, rfl, rfl, rfl, hst⟩ := hrel
    obtain ⟨f1, f2, f3, f4, f5, f6, f7⟩ := sta_facts hst
    have hlen := bef_len s 0 k hk
    have hnl : (nd (bef s 0 k)).length ≤ (bef s 0 k).length := List.length_filter_le _ _
    have hD0 : 0 ≤ D := by omega
    have hDk : D ≤ k := by omega
    have hFk : F ≤ k := by omega
    clear f1 f3 f4 hlen hnl
    by_cases hlt : k < s.size
    · have hlti : (k : Int) < (s.size : Int) := by omega
      have HR := hide (bef_rest s 0 k hlt hk0)
      have HS := hide (bef_succ s 0 k hlt hk0)
      have hb : s[k].toNat < 256 := s[k].toNat_lt
      by_cases hdig : Dig s[k]
      · have hsd := sta_dig hst hdig
        obtain ⟨hd1, hd2⟩ := hdig
        have hdot : ((s[k].toNat : Int) == 46) = false := by rw [beq_eq_false_iff_ne]; omega
        have HD := hide hsd
        clear hsd
        cases pt
        all_goals
          by_cases h18 : D < 18
          · have f8 := f7 h18
            clear f7
            rw [if_pos h18] at HD
            go_wp2_with fail
            go_round
            case rel => exact ⟨k + 1, D + 1, _, _, _, by omega, by omega, rfl, rfl, rfl, by go_num, rfl, by rw [HS.out]; simpa using HD.out⟩
            case measure => simp [intOf]; omega
          · clear f7
            rw [if_neg h18] at HD
            go_wp2_with fail
            go_round
            case rel => exact ⟨k + 1, D + 1, _, _, _, by omega, by omega, rfl, rfl, rfl, by go_num, rfl, by rw [HS.out]; simpa using HD.out⟩
            case measure => simp [intOf]; omega
      · clear f7
        by_cases hdot : s[k] = 46
        · have hdb : ((s[k].toNat : Int) == 46) = true := by rw [hdot]; rfl
          by_cases hpt : pt = true
          · subst hpt
            have R : RetR (.returned (.tuple #[.int .i64 0, .int .i64 0, .int .i64 0, .bool false])) (bod s 0) false := ⟨0, 0, 0, false, rfl, .inr (.inr ⟨by unfold bod; rw [HR.out]; exact sta_bad hst hdig (fun _ => .inl rfl), rfl, rfl, rfl, rfl⟩)⟩
            have hlo : (s[k].toNat : Int) < 48 := by rw [hdot]; decide
            clear hdot
            go_wp2_with fail
            (refine bodyPost_ret (results_tmp4 rfl _ _ _) rfl ?_; exact ⟨R, rfl⟩)
          · have hpf : pt = false := by simpa using hpt
            subst hpf
            by_cases hDp : 0 < D
            · have HD := hide (sta_dot hst hDp)
              have HE := hide hdot
              clear hdot
              go_wp2_with fail
              go_round
              case rel => exact ⟨k + 1, D, F, C, true, by omega, by omega, rfl, rfl, rfl, by go_num, rfl, by rw [HS.out, HE.out]; exact HD.out⟩
              case measure => simp [intOf]; omega
            · have R : RetR (.returned (.tuple #[.int .i64 0, .int .i64 0, .int .i64 0, .bool false])) (bod s 0) false := ⟨0, 0, 0, false, rfl, .inr (.inr ⟨by unfold bod; rw [HR.out]; exact sta_bad hst hdig (fun _ => .inr (by omega)), rfl, rfl, rfl, rfl⟩)⟩
              have hlo : (s[k].toNat : Int) < 48 := by rw [hdot]; decide
              clear hdot
              go_wp2_with fail
              (refine bodyPost_ret (results_tmp4 rfl _ _ _) rfl ?_; exact ⟨R, rfl⟩)
        · have hdb : ((s[k].toNat : Int) == 46) = false := by
            rw [beq_eq_false_iff_ne]
            intro h
            exact hdot (UInt8.toNat_inj.1 (by show s[k].toNat = 46; omega))
          have R : RetR (.returned (.tuple #[.int .i64 0, .int .i64 0, .int .i64 0, .bool false])) (bod s 0) false := ⟨0, 0, 0, false, rfl, .inr (.inr ⟨by unfold bod; rw [HR.out]; exact sta_bad hst hdig (fun h => absurd h hdot), rfl, rfl, rfl, rfl⟩)⟩
          clear hdot
          rcases Int.lt_or_le (s[k].toNat : Int) 48 with hlo | hhi
          · go_wp2_with fail
            (refine bodyPost_ret (results_tmp4 rfl _ _ _) rfl ?_; exact ⟨R, rfl⟩)
          · have hhi2 : 57 < (s[k].toNat : Int) := by unfold Dig at hdig; omega
            go_wp2_with fail
            (refine bodyPost_ret (results_tmp4 rfl _ _ _) rfl ?_; exact ⟨R, rfl⟩)
    · rw [bef_all s 0 k (by omega)] at hst
      replace hst : Sta (bod s 0) D F C pt := hst
      clear f7
      by_cases hD : D = 0
      · have hDb : (D == 0) = true := by simp [hD]
        have R : RetR (.returned (.tuple #[.int .i64 0, .int .i64 0, .int .i64 0, .bool false])) (bod s 0) false := ⟨0, 0, 0, false, rfl, sta_end_bad hst (.inl hD)⟩
        clear hD
        go_wp2_with fail
        (refine bodyPost_ret (results_tmp4 rfl _ _ _) rfl ?_; exact ⟨R, rfl⟩)
      · have hDb : (D == 0) = false := by simpa using hD
        by_cases hbad : pt = true ∧ F = 0
        · obtain ⟨hpt, hF⟩ := hbad
          have R : RetR (.returned (.tuple #[.int .i64 0, .int .i64 0, .int .i64 0, .bool false])) (bod s 0) false := ⟨0, 0, 0, false, rfl, sta_end_bad hst (.inr ⟨hpt, hF⟩)⟩
          have hFb : (F == 0) = true := by simp [hF]
          subst hpt
          clear hF
          go_wp2_with fail
          (refine bodyPost_ret (results_tmp4 rfl _ _ _) rfl ?_; exact ⟨R, rfl⟩)
        · have R := hide (sta_end_ok (neg := false) hst hD (fun h1 h2 => hbad ⟨h1, h2⟩))
          cases pt
          · clear hbad
            go_wp2_with fail
            (refine bodyPost_ret (results_tmp4 rfl _ _ _) rfl ?_; exact ⟨⟨_, _, _, _, rfl, R.out⟩, rfl⟩)
          · have hFb : (F == 0) = false := by simpa using hbad
            clear hbad
            go_wp2_with fail
            (refine bodyPost_ret (results_tmp4 rfl _ _ _) rfl ?_; exact ⟨⟨_, _, _, _, rfl, R.out⟩, rfl⟩)

set_option maxHeartbeats 2000000 in
theorem scan_plus (s : ByteArray) (w : World) (hs : s.size ≤ 1048576) (h0 : 0 < s.size) (h1 : ((s[0].toNat : Int) == 43) = true) (h2 : ((s[0].toNat : Int) == 45) = false) :
    Calls Try.prog 7 #[.string s] w fun e w' => RetR e (bod s 1) false ∧ w' = w := by
  have hp : (0 : Int) < (s.size : Int) := by omega
  go_enter Try.func7, Try.ntmps7
  go_wp2_with fail
  go_loop [2, 3, 4, 6, 8] (fun d f c i p => ∃ (k : Nat) (D F C : Int) (pt : Bool), k ≤ s.size ∧ 1 ≤ k ∧ d = .int .i64 D ∧ f = .int .i64 F ∧ c = .int .i64 C ∧ i = .int .i64 k ∧ p = .bool pt ∧ Sta (bef s 1 k) D F C pt) (fun _ _ _ i _ => s.size - (intOf i).toNat)
  case atStart => exact ⟨1, 0, 0, 0, false, by omega, by omega, rfl, rfl, rfl, rfl, rfl, by rw [bef_start]; exact sta_nil⟩
  case round =>
    obtain ⟨k, D, F, C, pt, hk, hk0, rfl, rfl, rfl, rfl, rfl, hst⟩ := hrel
    obtain ⟨f1, f2, f3, f4, f5, f6, f7⟩ := sta_facts hst
    have hlen := bef_len s 1 k hk
    have hnl : (nd (bef s 1 k)).length ≤ (bef s 1 k).length := List.length_filter_le _ _
    have hD0 : 0 ≤ D := by omega
    have hDk : D ≤ k := by omega
    have hFk : F ≤ k := by omega
    clear f1 f3 f4 hlen hnl
    by_cases hlt : k < s.size
    · have hlti : (k : Int) < (s.size : Int) := by omega
      have HR := hide (bef_rest s 1 k hlt hk0)
      have HS := hide (bef_succ s 1 k hlt hk0)
      have hb : s[k].toNat < 256 := s[k].toNat_lt
      by_cases hdig : Dig s[k]
      · have hsd := sta_dig hst hdig
        obtain ⟨hd1, hd2⟩ := hdig
        have hdot : ((s[k].toNat : Int) == 46) = false := by rw [beq_eq_false_iff_ne]; omega
        have HD := hide hsd
        clear hsd
        cases pt
        all_goals
          by_cases h18 : D < 18
          · have f8 := f7 h18
            clear f7
            rw [if_pos h18] at HD
            go_wp2_with fail
            go_round
            case rel => exact ⟨k + 1, D + 1, _, _, _, by omega, by omega, rfl, rfl, rfl, by go_num, rfl, by rw [HS.out]; simpa using HD.out⟩
            case measure => simp [intOf]; omega
          · clear f7
            rw [if_neg h18] at HD
            go_wp2_with fail
            go_round
            case rel => exact ⟨k + 1, D + 1, _, _, _, by omega, by omega, rfl, rfl, rfl, by go_num, rfl, by rw [HS.out]; simpa using HD.out⟩
            case measure => simp [intOf]; omega
      · clear f7
        by_cases hdot : s[k] = 46
        · have hdb : ((s[k].toNat : Int) == 46) = true := by rw [hdot]; rfl
          by_cases hpt : pt = true
          · subst hpt
            have R : RetR (.returned (.tuple #[.int .i64 0, .int .i64 0, .int .i64 0, .bool false])) (bod s 1) false := ⟨0, 0, 0, false, rfl, .inr (.inr ⟨by unfold bod; rw [HR.out]; exact sta_bad hst hdig (fun _ => .inl rfl), rfl, rfl, rfl, rfl⟩)⟩
            have hlo : (s[k].toNat : Int) < 48 := by rw [hdot]; decide
            clear hdot
            go_wp2_with fail
            (refine bodyPost_ret (results_tmp4 rfl _ _ _) rfl ?_; exact ⟨R, rfl⟩)
          · have hpf : pt = false := by simpa using hpt
            subst hpf
            by_cases hDp : 0 < D
            · have HD := hide (sta_dot hst hDp)
              have HE := hide hdot
              clear hdot
              go_wp2_with fail
              go_round
              case rel => exact ⟨k + 1, D, F, C, true, by omega, by omega, rfl, rfl, rfl, by go_num, rfl, by rw [HS.out, HE.out]; exact HD.out⟩
              case measure => simp [intOf]; omega
            · have R : RetR (.returned (.tuple #[.int .i64 0, .int .i64 0, .int .i64 0, .bool false])) (bod s 1) false := ⟨0, 0, 0, false, rfl, .inr (.inr ⟨by unfold bod; rw [HR.out]; exact sta_bad hst hdig (fun _ => .inr (by omega)), rfl, rfl, rfl, rfl⟩)⟩
              have hlo : (s[k].toNat : Int) < 48 := by rw [hdot]; decide
              clear hdot
              go_wp2_with fail
              (refine bodyPost_ret (results_tmp4 rfl _ _ _) rfl ?_; exact ⟨R, rfl⟩)
        · have hdb : ((s[k].toNat : Int) == 46) = false := by
            rw [beq_eq_false_iff_ne]
            intro h
            exact hdot (UInt8.toNat_inj.1 (by show s[k].toNat = 46; omega))
          have R : RetR (.returned (.tuple #[.int .i64 0, .int .i64 0, .int .i64 0, .bool false])) (bod s 1) false := ⟨0, 0, 0, false, rfl, .inr (.inr ⟨by unfold bod; rw [HR.out]; exact sta_bad hst hdig (fun h => absurd h hdot), rfl, rfl, rfl, rfl⟩)⟩
          clear hdot
          rcases Int.lt_or_le (s[k].toNat : Int) 48 with hlo | hhi
          · go_wp2_with fail
            (refine bodyPost_ret (results_tmp4 rfl _ _ _) rfl ?_; exact ⟨R, rfl⟩)
          · have hhi2 : 57 < (s[k].toNat : Int) := by unfold Dig at hdig; omega
            go_wp2_with fail
            (refine bodyPost_ret (results_tmp4 rfl _ _ _) rfl ?_; exact ⟨R, rfl⟩)
    · rw [bef_all s 1 k (by omega)] at hst
      replace hst : Sta (bod s 1) D F C pt := hst
      clear f7
      by_cases hD : D = 0
      · have hDb : (D == 0) = true := by simp [hD]
        have R : RetR (.returned (.tuple #[.int .i64 0, .int .i64 0, .int .i64 0, .bool false])) (bod s 1) false := ⟨0, 0, 0, false, rfl, sta_end_bad hst (.inl hD)⟩
        clear hD
        go_wp2_with fail
        (refine bodyPost_ret (results_tmp4 rfl _ _ _) rfl ?_; exact ⟨R, rfl⟩)
      · have hDb : (D == 0) = false := by simpa using hD
        by_cases hbad : pt = true ∧ F = 0
        · obtain ⟨hpt, hF⟩ := hbad
          have R : RetR (.returned (.tuple #[.int .i64 0, .int .i64 0, .int .i64 0, .bool false])) (bod s 1) false := ⟨0, 0, 0, false, rfl, sta_end_bad hst (.inr ⟨hpt, hF⟩)⟩
          have hFb : (F == 0) = true := by simp [hF]
          subst hpt
          clear hF
          go_wp2_with fail
          (refine bodyPost_ret (results_tmp4 rfl _ _ _) rfl ?_; exact ⟨R, rfl⟩)
        · have R := hide (sta_end_ok (neg := false) hst hD (fun h1 h2 => hbad ⟨h1, h2⟩))
          cases pt
          · clear hbad
            go_wp2_with fail
            (refine bodyPost_ret (results_tmp4 rfl _ _ _) rfl ?_; exact ⟨⟨_, _, _, _, rfl, R.out⟩, rfl⟩)
          · have hFb : (F == 0) = false := by simpa using hbad
            clear hbad
            go_wp2_with fail
            (refine bodyPost_ret (results_tmp4 rfl _ _ _) rfl ?_; exact ⟨⟨_, _, _, _, rfl, R.out⟩, rfl⟩)

set_option maxHeartbeats 2000000 in
theorem scan_minus (s : ByteArray) (w : World) (hs : s.size ≤ 1048576) (h0 : 0 < s.size) (h1 : ((s[0].toNat : Int) == 43) = false) (h2 : ((s[0].toNat : Int) == 45) = true) :
    Calls Try.prog 7 #[.string s] w fun e w' => RetR e (bod s 1) true ∧ w' = w := by
  have hp : (0 : Int) < (s.size : Int) := by omega
  go_enter Try.func7, Try.ntmps7
  go_wp2_with fail
  go_loop [2, 3, 4, 6, 8] (fun d f c i p => ∃ (k : Nat) (D F C : Int) (pt : Bool), k ≤ s.size ∧ 1 ≤ k ∧ d = .int .i64 D ∧ f = .int .i64 F ∧ c = .int .i64 C ∧ i = .int .i64 k ∧ p = .bool pt ∧ Sta (bef s 1 k) D F C pt) (fun _ _ _ i _ => s.size - (intOf i).toNat)
  case atStart => exact ⟨1, 0, 0, 0, false, by omega, by omega, rfl, rfl, rfl, rfl, rfl, by rw [bef_start]; exact sta_nil⟩
  case round =>
    obtain ⟨k, D, F, C, pt, hk, hk0, rfl, rfl, rfl, rfl, rfl, hst⟩ := hrel
    obtain ⟨f1, f2, f3, f4, f5, f6, f7⟩ := sta_facts hst
    have hlen := bef_len s 1 k hk
    have hnl : (nd (bef s 1 k)).length ≤ (bef s 1 k).length := List.length_filter_le _ _
    have hD0 : 0 ≤ D := by omega
    have hDk : D ≤ k := by omega
    have hFk : F ≤ k := by omega
    clear f1 f3 f4 hlen hnl
    by_cases hlt : k < s.size
    · have hlti : (k : Int) < (s.size : Int) := by omega
      have HR := hide (bef_rest s 1 k hlt hk0)
      have HS := hide (bef_succ s 1 k hlt hk0)
      have hb : s[k].toNat < 256 := s[k].toNat_lt
      by_cases hdig : Dig s[k]
      · have hsd := sta_dig hst hdig
        obtain ⟨hd1, hd2⟩ := hdig
        have hdot : ((s[k].toNat : Int) == 46) = false := by rw [beq_eq_false_iff_ne]; omega
        have HD := hide hsd
        clear hsd
        cases pt
        all_goals
          by_cases h18 : D < 18
          · have f8 := f7 h18
            clear f7
            rw [if_pos h18] at HD
            go_wp2_with fail
            go_round
            case rel => exact ⟨k + 1, D + 1, _, _, _, by omega, by omega, rfl, rfl, rfl, by go_num, rfl, by rw [HS.out]; simpa using HD.out⟩
            case measure => simp [intOf]; omega
          · clear f7
            rw [if_neg h18] at HD
            go_wp2_with fail
            go_round
            case rel => exact ⟨k + 1, D + 1, _, _, _, by omega, by omega, rfl, rfl, rfl, by go_num, rfl, by rw [HS.out]; simpa using HD.out⟩
            case measure => simp [intOf]; omega
      · clear f7
        by_cases hdot : s[k] = 46
        · have hdb : ((s[k].toNat : Int) == 46) = true := by rw [hdot]; rfl
          by_cases hpt : pt = true
          · subst hpt
            have R : RetR (.returned (.tuple #[.int .i64 0, .int .i64 0, .int .i64 0, .bool false])) (bod s 1) true := ⟨0, 0, 0, false, rfl, .inr (.inr ⟨by unfold bod; rw [HR.out]; exact sta_bad hst hdig (fun _ => .inl rfl), rfl, rfl, rfl, rfl⟩)⟩
            have hlo : (s[k].toNat : Int) < 48 := by rw [hdot]; decide
            clear hdot
            go_wp2_with fail
            (refine bodyPost_ret (results_tmp4 rfl _ _ _) rfl ?_; exact ⟨R, rfl⟩)
          · have hpf : pt = false := by simpa using hpt
            subst hpf
            by_cases hDp : 0 < D
            · have HD := hide (sta_dot hst hDp)
              have HE := hide hdot
              clear hdot
              go_wp2_with fail
              go_round
              case rel => exact ⟨k + 1, D, F, C, true, by omega, by omega, rfl, rfl, rfl, by go_num, rfl, by rw [HS.out, HE.out]; exact HD.out⟩
              case measure => simp [intOf]; omega
            · have R : RetR (.returned (.tuple #[.int .i64 0, .int .i64 0, .int .i64 0, .bool false])) (bod s 1) true := ⟨0, 0, 0, false, rfl, .inr (.inr ⟨by unfold bod; rw [HR.out]; exact sta_bad hst hdig (fun _ => .inr (by omega)), rfl, rfl, rfl, rfl⟩)⟩
              have hlo : (s[k].toNat : Int) < 48 := by rw [hdot]; decide
              clear hdot
              go_wp2_with fail
              (refine bodyPost_ret (results_tmp4 rfl _ _ _) rfl ?_; exact ⟨R, rfl⟩)
        · have hdb : ((s[k].toNat : Int) == 46) = false := by
            rw [beq_eq_false_iff_ne]
            intro h
            exact hdot (UInt8.toNat_inj.1 (by show s[k].toNat = 46; omega))
          have R : RetR (.returned (.tuple #[.int .i64 0, .int .i64 0, .int .i64 0, .bool false])) (bod s 1) true := ⟨0, 0, 0, false, rfl, .inr (.inr ⟨by unfold bod; rw [HR.out]; exact sta_bad hst hdig (fun h => absurd h hdot), rfl, rfl, rfl, rfl⟩)⟩
          clear hdot
          rcases Int.lt_or_le (s[k].toNat : Int) 48 with hlo | hhi
          · go_wp2_with fail
            (refine bodyPost_ret (results_tmp4 rfl _ _ _) rfl ?_; exact ⟨R, rfl⟩)
          · have hhi2 : 57 < (s[k].toNat : Int) := by unfold Dig at hdig; omega
            go_wp2_with fail
            (refine bodyPost_ret (results_tmp4 rfl _ _ _) rfl ?_; exact ⟨R, rfl⟩)
    · rw [bef_all s 1 k (by omega)] at hst
      replace hst : Sta (bod s 1) D F C pt := hst
      clear f7
      by_cases hD : D = 0
      · have hDb : (D == 0) = true := by simp [hD]
        have R : RetR (.returned (.tuple #[.int .i64 0, .int .i64 0, .int .i64 0, .bool false])) (bod s 1) true := ⟨0, 0, 0, false, rfl, sta_end_bad hst (.inl hD)⟩
        clear hD
        go_wp2_with fail
        (refine bodyPost_ret (results_tmp4 rfl _ _ _) rfl ?_; exact ⟨R, rfl⟩)
      · have hDb : (D == 0) = false := by simpa using hD
        by_cases hbad : pt = true ∧ F = 0
        · obtain ⟨hpt, hF⟩ := hbad
          have R : RetR (.returned (.tuple #[.int .i64 0, .int .i64 0, .int .i64 0, .bool false])) (bod s 1) true := ⟨0, 0, 0, false, rfl, sta_end_bad hst (.inr ⟨hpt, hF⟩)⟩
          have hFb : (F == 0) = true := by simp [hF]
          subst hpt
          clear hF
          go_wp2_with fail
          (refine bodyPost_ret (results_tmp4 rfl _ _ _) rfl ?_; exact ⟨R, rfl⟩)
        · have R := hide (sta_end_ok (neg := true) hst hD (fun h1 h2 => hbad ⟨h1, h2⟩))
          cases pt
          · clear hbad
            go_wp2_with fail
            (refine bodyPost_ret (results_tmp4 rfl _ _ _) rfl ?_; exact ⟨⟨_, _, _, _, rfl, R.out⟩, rfl⟩)
          · have hFb : (F == 0) = false := by simpa using hbad
            clear hbad
            go_wp2_with fail
            (refine bodyPost_ret (results_tmp4 rfl _ _ _) rfl ?_; exact ⟨⟨_, _, _, _, rfl, R.out⟩, rfl⟩)

theorem bad_nil : Bad [] := ⟨fun h => h.1 rfl, fun p hp => by have := hp.2.1; simp at this⟩

set_option maxHeartbeats 400000 in
theorem scan_empty (s : ByteArray) (w : World) (h0 : s.size = 0) :
    Calls Try.prog 7 #[.string s] w fun e w' => RetR e (bod s 0) false ∧ w' = w := by
  have hz : (s.size : Int) = 0 := by omega
  have hl : bod s 0 = [] := List.eq_nil_of_length_eq_zero (by unfold bod; simpa using h0)
  have R : RetR (.returned (.tuple #[.int .i64 0, .int .i64 0, .int .i64 0, .bool false])) (bod s 0) false := ⟨0, 0, 0, false, rfl, .inr (.inr ⟨by rw [hl]; exact bad_nil, rfl, rfl, rfl, rfl⟩)⟩
  generalize bod s 0 = l at *
  clear hl h0
  go_enter Try.func7, Try.ntmps7
  go_wp2_with fail
  refine wp_loop_rounds 1 ?_; rw [rounds_succ]
  go_wp2_with fail
  (refine bodyPost_ret (results_tmp4 rfl _ _ _) rfl ?_; exact ⟨R, rfl⟩)

/-- The sign of a text: where its body begins, and whether it is negative. -/
def Head (s : ByteArray) (st : Nat) (neg : Bool) : Prop :=
  (s.size = 0 ∧ st = 0 ∧ neg = false) ∨ (∃ h : 0 < s.size, (((s[0].toNat : Int) == 43) = false ∧ ((s[0].toNat : Int) == 45) = false ∧ st = 0 ∧ neg = false) ∨
    (((s[0].toNat : Int) == 43) = true ∧ ((s[0].toNat : Int) == 45) = false ∧ st = 1 ∧ neg = false) ∨ (((s[0].toNat : Int) == 43) = false ∧ ((s[0].toNat : Int) == 45) = true ∧ st = 1 ∧ neg = true))
theorem head_ex (s : ByteArray) : ∃ st neg, Head s st neg := by
  by_cases h : s.size = 0
  · exact ⟨0, false, .inl ⟨h, rfl, rfl⟩⟩
  · have h' : 0 < s.size := by omega
    by_cases h1 : (s[0].toNat : Int) = 43
    · exact ⟨1, false, .inr ⟨h', .inr (.inl ⟨by simpa using h1, by rw [beq_eq_false_iff_ne]; omega, rfl, rfl⟩)⟩⟩
    · by_cases h2 : (s[0].toNat : Int) = 45
      · exact ⟨1, true, .inr ⟨h', .inr (.inr ⟨by rw [beq_eq_false_iff_ne]; exact h1, by simpa using h2, rfl, rfl⟩)⟩⟩
      · exact ⟨0, false, .inr ⟨h', .inl ⟨by rw [beq_eq_false_iff_ne]; exact h1, by rw [beq_eq_false_iff_ne]; exact h2, rfl, rfl⟩⟩⟩

theorem scan_any (s : ByteArray) (st : Nat) (neg : Bool) (w : World) (hs : s.size ≤ 1048576) (hh : Head s st neg) :
    Calls Try.prog 7 #[.string s] w fun e w' => RetR e (bod s st) neg ∧ w' = w := by
  rcases hh with ⟨h0, rfl, rfl⟩ | ⟨h0, ⟨h1, h2, rfl, rfl⟩ | ⟨h1, h2, rfl, rfl⟩ | ⟨h1, h2, rfl, rfl⟩⟩
  · exact scan_empty s w h0
  · exact scan_none s w hs h0 h1 h2
  · exact scan_plus s w hs h0 h1 h2
  · exact scan_minus s w hs h0 h1 h2
/-- 'ZZscanB1' is 'scan'. -/
theorem zzscan_any (s : ByteArray) (st : Nat) (neg : Bool) (w : World) (hs : s.size ≤ 1048576) (hh : Head s st neg) :
    Calls Try.prog 5 #[.string s] w fun e w' => RetR e (bod s st) neg ∧ w' = w := by
  have C := scan_any s st neg w hs hh
  go_enter Try.func5, Try.ntmps5
  go_wp2_with fail
  refine C.mono ?_
  rintro e w' ⟨⟨d, f, c, ok, rfl, hr⟩, hw⟩
  obtain rfl := hw.symm
  clear hw C
  go_wp2_with fail
  (refine bodyPost_ret (results_tmp4 rfl _ _ _) rfl ?_; exact ⟨⟨d, f, c, ok, rfl, hr⟩, rfl⟩)

end Go.Proofs.Qxb6604165a
