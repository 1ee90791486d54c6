/- The contracts of zzs3340amodel and zzs3340afills. By an AI agent. -/
import Derived.Test.YbulkbqdmFmtCalls
namespace Go.Proofs.YbulkbqdmFmt
open Go.RowKit

set_option maxHeartbeats 800000 in
theorem model_any (n : Int) (w : World) (h0 : -1024 ≤ n) (h1 : n ≤ 1024) :
    Calls Ybaf.prog 6 #[.int .i64 n] w fun e w' => e = .returned (.tuple #[.int .i64 ((table n).getD 0), .bool (table n).isSome]) ∧ w' = w := by
  by_cases hs : n = 1 ∨ n = 4 ∨ n = 13 ∨ n = 40 ∨ n = 6 ∨ n = 31 ∨ n = 8 ∨ n = 57
  · rcases hs with rfl | rfl | rfl | rfl | rfl | rfl | rfl | rfl
    all_goals
      go_enter Ybaf.func6, Ybaf.ntmps6
      go_wp2
      go_ret2
      exact ⟨rfl, rfl⟩
  · have e1 : (n == 1) = false := by simp; omega
    have e2 : (n == 4) = false := by simp; omega
    have e3 : (n == 13) = false := by simp; omega
    have e4 : (n == 40) = false := by simp; omega
    have e5 : (n == 6) = false := by simp; omega
    have e6 : (n == 31) = false := by simp; omega
    have e7 : (n == 8) = false := by simp; omega
    have e8 : (n == 57) = false := by simp; omega
    have HT : Hid (table n = if 10 ≤ n ∧ n ≤ 64 ∧ n % 2 = 0 then some (n - 1) else none) := by
      show table n = _
      unfold table
      rw [if_neg (by omega), if_neg (by omega), if_neg (by omega)]
    clear hs
    by_cases h10 : 10 ≤ n
    · by_cases h64 : n ≤ 64
      · by_cases hm : n % 2 = 0
        · have hm' : (n % 2 == 0) = true := by simpa using hm
          have HM : Hid (n % 2 = 0) := hm
          clear hm
          go_enter Ybaf.func6, Ybaf.ntmps6
          go_wp2
          go_ret2
          rw [HT.out, if_pos ⟨h10, h64, HM.out⟩]
          exact ⟨rfl, rfl⟩
        · have hm' : (n % 2 == 0) = false := by simpa using hm
          have HM : Hid (¬ n % 2 = 0) := hm
          clear hm
          go_enter Ybaf.func6, Ybaf.ntmps6
          go_wp2
          go_ret2
          rw [HT.out, if_neg (fun h => HM.out h.2.2)]
          exact ⟨rfl, rfl⟩
      · go_enter Ybaf.func6, Ybaf.ntmps6
        go_wp2
        go_ret2
        rw [HT.out, if_neg (fun h => by omega)]
        exact ⟨rfl, rfl⟩
    · go_enter Ybaf.func6, Ybaf.ntmps6
      go_wp2
      go_ret2
      rw [HT.out, if_neg (fun h => by omega)]
      exact ⟨rfl, rfl⟩

set_option maxHeartbeats 800000 in
theorem fills_any (d n : Int) (w : World) (hd : 3 ≤ d) (hd2 : d ≤ 2000) (h0 : -1024 ≤ n) (h1 : n ≤ 1024) :
    Calls Ybaf.prog 7 #[.int .i64 d, .int .i64 n] w fun e w' => e = .returned (.bool (fillsB d n)) ∧ w' = w := by
  by_cases hbig : 64 < n
  · have HF : Hid (fillsB d n = false) := by
      show fillsB d n = false
      cases h : fillsB d n
      · rfl
      · have := (fills_iff d n hd).1 h; omega
    go_enter Ybaf.func7, Ybaf.ntmps7
    go_wp2
    go_ret
    exact ⟨ret_bool HF.out.symm, rfl⟩
  · go_enter Ybaf.func7, Ybaf.ntmps7
    go_wp2
    go_loop [5, 6] (fun s p => ∃ j : Nat, s = .int .i64 (gs d j) ∧ p = .int .i64 (pw d j) ∧ gs d j ≤ 200000 ∧ pw d j ≤ 200000 ∧ ∀ i, i < j → gs d i < n) (fun s _ => (65 - intOf s).toNat)
    case atStart => exact ⟨0, rfl, rfl, by simp [gs], by simp [pw], fun i hi => by omega⟩
    case round =>
      obtain ⟨j, rfl, rfl, b1, b2, hno⟩ := hrel
      have HNO : Hid (∀ i, i < j → gs d i < n) := hno
      clear hno
      have hG := gs_pos d hd j
      have hP := pw_pos d hd j
      have HS : Hid (gs d j + 3 ≤ gs d (j + 1)) := gs_step d hd j
      have HX : Hid (pw d (j + 1) = pw d j * d ∧ gs d (j + 1) = gs d j + pw d j * d) := ⟨rfl, rfl⟩
      have HPG : Hid (pw d j ≤ gs d j) := by
        show pw d j ≤ gs d j
        cases j with
        | zero => exact Int.le_refl _
        | succ j =>
          have := gs_pos d hd j
          show pw d (j + 1) ≤ gs d j + pw d (j + 1)
          omega
      by_cases hle : gs d j ≤ n
      · by_cases heq : gs d j = n
        · have HF : Hid (fillsB d n = true) := (fills_iff d n hd).2 ⟨by omega, j, heq⟩
          have hb : (gs d j == n) = true := by simpa using heq
          have HE : Hid (gs d j = n) := heq
          clear heq
          go_wp2
          go_ret
          exact ⟨ret_bool HF.out.symm, rfl⟩
        · have hb : (gs d j == n) = false := by simpa using heq
          have hlt : gs d j < n := by omega
          have hmul : pw d j * d ≤ 128000 := by
            have h2 := Int.mul_le_mul (show pw d j ≤ 64 by have := HPG.out; omega) hd2 (show 0 ≤ d by omega) (show (0 : Int) ≤ 64 by omega)
            omega
          have hmul0 : 0 ≤ pw d j * d := Int.mul_nonneg (by omega) (by omega)
          clear heq
          go_wp2
          go_round
          case rel =>
            refine ⟨j + 1, by rw [HX.out.2], by rw [HX.out.1], by rw [HX.out.2]; omega, by rw [HX.out.1]; omega, fun i hi => ?_⟩
            by_cases e : i = j
            · subst e; omega
            · exact HNO.out i (by omega)
          case measure =>
            have := HS.out
            have := HX.out.2
            simp [intOf]; omega
      · have HF : Hid (fillsB d n = false) := by
          show fillsB d n = false
          cases h : fillsB d n
          · rfl
          · obtain ⟨_, i, hi⟩ := (fills_iff d n hd).1 h
            by_cases e : i < j
            · have := HNO.out i e; omega
            · have := gs_mono d hd j (i - j)
              rw [show j + (i - j) = i by omega] at this
              omega
        go_wp2
        go_ret
        exact ⟨ret_bool HF.out.symm, rfl⟩
end Go.Proofs.YbulkbqdmFmt
