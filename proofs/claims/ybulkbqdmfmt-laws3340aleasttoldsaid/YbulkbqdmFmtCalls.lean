/- The contracts of slices.Index, slices.Contains, treeSizes, zzs3340afills, zzs3340amodel. By an AI agent. -/
import Derived.Test.YbulkbqdmFmtRows
import Derived.Test.YbulkbqdmFmtPlain
import Derived.WalkKit
import Derived.WalkLawsBesides
import Derived.Deep.AppendLies
namespace Go.Proofs.YbulkbqdmFmt
open Go.RowKit

theorem ret_int {k : IntKind} {a b : Int} (h : a = b) : Ending.returned (.int k a) = .returned (.int k b) := by rw [h]
theorem ret_bool {a b : Bool} (h : a = b) : Ending.returned (.bool a) = .returned (.bool b) := by rw [h]

set_option maxHeartbeats 400000 in
theorem index_any (g m cap : Nat) (n : Int) (xs : List Int) (w : World) (hm : m ≤ 10) (hl : xs.length = m) (hc : ∀ j, j < m → w.cell? ⟨g, j, none⟩ = some (.int .i64 (xs.getD j 0))) :
    Calls Ybaf.prog 11 #[.slice (some ⟨g, 0, none⟩) m cap, .int .i64 n] w fun e w' => (∃ r : Int, e = .returned (.int .i64 r) ∧ (0 ≤ r ↔ n ∈ xs)) ∧ w' = w := by
  have HC : Hid (∀ j, j < m → w.cell? ⟨g, j, none⟩ = some (.int .i64 (xs.getD j 0))) := hc
  clear hc
  have HL : Hid (xs.length = m) := hl
  clear hl
  go_enter Ybaf.func11, Ybaf.ntmps11
  go_wp2
  go_loop [8] (fun i => ∃ k : Nat, k ≤ m ∧ i = .int .i64 k ∧ ∀ j, j < k → xs.getD j 0 ≠ n) (fun i => m - (intOf i).toNat)
  case atStart => exact ⟨0, Nat.zero_le _, rfl, fun j hj => by omega⟩
  case round =>
    obtain ⟨k, hk, rfl, hno⟩ := hrel
    have HN : Hid (∀ j, j < k → xs.getD j 0 ≠ n) := hno
    clear hno
    by_cases hlt : k < m
    · have h1 := HC.out k hlt
      by_cases he : xs.getD k 0 = n
      · rw [he] at h1
        go_wp2
        go_ret
        refine ⟨⟨k, rfl, ?_⟩, rfl⟩
        constructor
        · intro _
          have hl := HL.out
          rw [← he, List.getD_eq_getElem?_getD, List.getElem?_eq_getElem (by omega)]
          simp
        · intro _; omega
      · generalize hX : xs.getD k 0 = X at h1 he
        have HX : Hid (xs.getD k 0 = X) := hX
        clear hX
        have hne : (n == X) = false := by simpa using fun e => he e.symm
        have HE : Hid (¬ X = n) := he
        clear he
        go_wp2
        go_round
        case rel =>
          refine ⟨k + 1, by omega, by go_num, fun j hj => ?_⟩
          by_cases e : j = k
          · subst e; rw [HX.out]; exact HE.out
          · exact HN.out j (by omega)
        case measure => simp [intOf]; omega
    · go_wp2
      go_ret
      refine ⟨⟨-1, rfl, ?_⟩, rfl⟩
      constructor
      · intro h; omega
      · intro h
        obtain ⟨j, hj, he⟩ := List.getElem_of_mem h
        have hl := HL.out
        have := HN.out j (by omega)
        rw [List.getD_eq_getElem?_getD, List.getElem?_eq_getElem hj] at this
        exact absurd he this

theorem contains_any (g m cap : Nat) (n : Int) (xs : List Int) (w : World) (hm : m ≤ 10) (hl : xs.length = m) (hc : ∀ j, j < m → w.cell? ⟨g, j, none⟩ = some (.int .i64 (xs.getD j 0))) (b : Bool) (hb : n ∈ xs ↔ b = true) :
    Calls Ybaf.prog 8 #[.slice (some ⟨g, 0, none⟩) m cap, .int .i64 n] w fun e w' => e = .returned (.bool b) ∧ w' = w := by
  have hi := index_any g m cap n xs w hm hl hc
  have HI : Hid (Calls Ybaf.prog 11 #[.slice (some ⟨g, 0, none⟩) m cap, .int .i64 n] w fun e w' => (∃ r : Int, e = .returned (.int .i64 r) ∧ (0 ≤ r ↔ n ∈ xs)) ∧ w' = w) := hi
  have HB : Hid (n ∈ xs ↔ b = true) := hb
  clear hi hb hc hl
  go_enter Ybaf.func8, Ybaf.ntmps8
  go_wp2_with fail
  refine HI.out.mono ?_
  rintro e w' ⟨⟨r, rfl, hr⟩, rfl⟩
  have HR : Hid (0 ≤ r ↔ n ∈ xs) := hr
  clear hr
  go_wp2
  go_ret
  refine ⟨ret_bool ?_, rfl⟩
  cases b
  · have : ¬ 0 ≤ r := fun h => by have := HB.out.1 (HR.out.1 h); cases this
    simpa using this
  · have : 0 ≤ r := HR.out.2 (HB.out.2 rfl)
    simpa using this
end Go.Proofs.YbulkbqdmFmt
