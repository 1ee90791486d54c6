/- LawS3340ALeast, walked. By an AI agent. -/
import Derived.Test.YbulkbqdmFmtTableWalk
namespace Go.Proofs.YbulkbqdmFmt
open Go.RowKit Go.Maps Go.Extern.Stop Go.Stop Go.Extern

theorem srch_hit {n d : Int} {f : Nat} (hc : d ≤ n - 1 ∨ d = 3) (hb : fillsB d n = true) : srch n (f + 1) d = some d := by
  unfold srch; rw [if_pos hc, hb]; rfl
theorem srch_miss {n d : Int} {f : Nat} (hc : d ≤ n - 1 ∨ d = 3) (hb : fillsB d n = false) : srch n (f + 1) d = srch n f (d + 2) := by
  rw [srch, if_pos hc, hb]; rfl
theorem srch_end {n d : Int} {f : Nat} (hc : ¬ (d ≤ n - 1 ∨ d = 3)) : srch n (f + 1) d = none := by
  unfold srch; rw [if_neg hc]

set_option maxRecDepth 100000 in
set_option maxHeartbeats 1000000 in
theorem least_walk (F : Interp) (n : Int) (w : World) (hF : F.answers w.tape) :
    Calls Ybaf.prog 4 #[.int .i64 n] w fun e w' => e = .returned (.bool true) ∧ Below w.heap.size w w' := by
  by_cases hlo : n < -1024
  · go_enter Ybaf.func4, Ybaf.ntmps4
    go_wp2
    go_ret
    exact ⟨rfl, Below.refl _ _⟩
  by_cases hhi : 1024 < n
  · go_enter Ybaf.func4, Ybaf.ntmps4
    go_wp2
    go_ret
    exact ⟨rfl, Below.refl _ _⟩
  go_enter Ybaf.func4, Ybaf.ntmps4
  go_wp2_with fail
  refine (standard_any F n w hF (by omega) (by omega)).mono ?_
  rintro e w1 ⟨hb, ⟨d0, m, hl, rfl, hown⟩ | ⟨a, hl, rfl⟩⟩
  · have hlk := fun o => look_plain (hown.alloc o)
    have hln := fun o ty => len_one (hown.alloc o) ty
    have HL : Hid (least n = some d0) := hl
    clear hl hown
    go_wp2
    go_loop [5, 6] (fun t i => ∃ (d : Int) (f : Nat), t = .int .i64 0 ∧ i = .int .i64 d ∧ 3 ≤ d ∧ d ≤ 1030 ∧ d % 2 = 1 ∧ d + 2 * (f : Int) ≤ 1203 ∧ 1203 ≤ d + 2 * (f : Int) ∧ srch n f d = some d0) (fun _ i => (1100 - intOf i).toNat)
    case atStart => exact ⟨3, 600, rfl, rfl, by omega, by omega, by omega, by omega, by omega, HL.out⟩
    case round =>
      obtain ⟨d, f, rfl, rfl, hd3, hdm, hodd, f1, f2, hs⟩ := hrel
      obtain ⟨f, rfl⟩ : ∃ f', f = f' + 1 := ⟨f - 1, by omega⟩
      have HS : Hid (srch n (f + 1) d = some d0) := hs
      have HO : Hid (d % 2 = 1) := hodd
      have hodd' : (d % 2 == 1) = true := by simpa using hodd
      clear hs hodd
      by_cases hc : d ≤ n - 1 ∨ d = 3
      · have hcond : (d ≤ n - 1) ∨ (¬ d ≤ n - 1 ∧ (d == 3) = true) := by
          by_cases h : d ≤ n - 1
          · exact .inl h
          · exact .inr ⟨h, by simpa using hc.resolve_left h⟩
        have HC : Hid (d ≤ n - 1 ∨ d = 3) := hc
        clear hc
        cases hbf : fillsB d n
        · rcases hcond with hcd | ⟨hcd, hcd3⟩
          all_goals
            go_wp2_with (go_at_call 7; refine (fills_any d n _ hd3 (by omega) (by omega) (by omega)).mono ?_; rw [hbf]; rintro e w2 ⟨rfl, rfl⟩)
            go_round
            case rel => exact ⟨d + 2, f, rfl, rfl, by omega, by have := HC.out; omega, by have := HO.out; omega, by omega, by omega, by rw [← srch_miss HC.out hbf]; exact HS.out⟩
            case measure => simp [intOf]; omega
        · obtain rfl : d = d0 := by
            have h := HS.out
            rw [srch_hit HC.out hbf] at h
            exact Option.some.inj h
          have hd0 : (d == 0) = false := by simp; omega
          rcases hcond with hcd | ⟨hcd, hcd3⟩
          all_goals
            go_wp2_with (go_at_call 7; refine (fills_any d n _ hd3 (by omega) (by omega) (by omega)).mono ?_; rw [hbf]; rintro e w2 ⟨rfl, rfl⟩)
            go_ret
            exact ⟨rfl, hb.alloc hb.size _⟩
      · exfalso
        have h := HS.out
        rw [srch_end hc] at h
        cases h
  · have HL : Hid (least n = none) := hl
    clear hl
    go_wp2
    go_loop [5, 6] (fun t i => ∃ (d : Int) (f : Nat), t = .int .i64 0 ∧ i = .int .i64 d ∧ 3 ≤ d ∧ d ≤ 1030 ∧ d + 2 * (f : Int) ≤ 1203 ∧ 1203 ≤ d + 2 * (f : Int) ∧ srch n f d = none) (fun _ i => (1100 - intOf i).toNat)
    case atStart => exact ⟨3, 600, rfl, rfl, by omega, by omega, by omega, by omega, HL.out⟩
    case round =>
      obtain ⟨d, f, rfl, rfl, hd3, hdm, f1, f2, hs⟩ := hrel
      obtain ⟨f, rfl⟩ : ∃ f', f = f' + 1 := ⟨f - 1, by omega⟩
      have HS : Hid (srch n (f + 1) d = none) := hs
      clear hs
      by_cases hc : d ≤ n - 1 ∨ d = 3
      · have hcond : (d ≤ n - 1) ∨ (¬ d ≤ n - 1 ∧ (d == 3) = true) := by
          by_cases h : d ≤ n - 1
          · exact .inl h
          · exact .inr ⟨h, by simpa using hc.resolve_left h⟩
        have HC : Hid (d ≤ n - 1 ∨ d = 3) := hc
        clear hc
        cases hbf : fillsB d n
        · rcases hcond with hcd | ⟨hcd, hcd3⟩
          all_goals
            go_wp2_with (go_at_call 7; refine (fills_any d n _ hd3 (by omega) (by omega) (by omega)).mono ?_; rw [hbf]; rintro e w2 ⟨rfl, rfl⟩)
            go_round
            case rel => exact ⟨d + 2, f, rfl, rfl, by omega, by have := HC.out; omega, by omega, by omega, by rw [← srch_miss HC.out hbf]; exact HS.out⟩
            case measure => simp [intOf]; omega
        · exfalso
          have h := HS.out
          rw [srch_hit HC.out hbf] at h
          cases h
      · have hc1 : ¬ d ≤ n - 1 := fun h => hc (.inl h)
        have hc3 : (d == 3) = false := by simpa using fun h => hc (.inr h)
        clear hc
        go_wp2
        go_ret
        exact ⟨rfl, hb.alloc hb.size _⟩
end Go.Proofs.YbulkbqdmFmt
