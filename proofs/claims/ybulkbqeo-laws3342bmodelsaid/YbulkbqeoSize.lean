/- The contract of zzs3342bsize. By an AI agent. -/
import Derived.Test.YbulkbqeoRows
import Derived.Test.YbulkbqeoTree
import Derived.WalkLawsBesides
namespace Go.Proofs.Ybulkbqeo
open Go.RowKit

theorem hide {p : Prop} (h : p) : Hid p := h

set_option maxHeartbeats 800000 in
theorem size_big (a : Option Addr) (n cap : Nat) (d : Int) (w : World) (hn : 1024 < n) (hM : n ≤ 17592186044416) :
    Calls Yba.prog 5 #[.slice a n cap, .int .i64 d] w fun e w' => e = .returned (.int .i64 n) ∧ w' = w := by
  go_enter Yba.func5, Yba.ntmps5
  go_wp2
  go_ret
  exact ⟨rfl, rfl⟩

set_option maxHeartbeats 800000 in
theorem size_flat (a : Option Addr) (n cap : Nat) (w : World) (hn : n ≤ 1024) :
    Calls Yba.prog 5 #[.slice a n cap, .int .i64 0] w fun e w' => e = .returned (.int .i64 n) ∧ w' = w := by
  go_enter Yba.func5, Yba.ntmps5
  go_wp2
  go_ret
  exact ⟨rfl, rfl⟩

set_option maxHeartbeats 800000 in
theorem size_any (M B : Nat) (hM : M ≤ 17592186044416) : ∀ (d : Nat), d ≤ 6 → ∀ (v : Value) (w : World), Nodes M B w d v →
    Calls Yba.prog 5 #[v, .int .i64 (d : Int)] w fun e w' => (∃ r : Int, e = .returned (.int .i64 r) ∧ 0 ≤ r ∧ r ≤ M + 1024 * d ∧ (r ≤ 1024 → Nodes 1024 B w d v)) ∧ w' = w := by
  intro d
  induction d with
  | zero =>
    intro hd v w h
    obtain ⟨a, n, cap, rfl, hn, hx⟩ := h
    by_cases hb : 1024 < n
    · refine (size_big a n cap _ w hb (by omega)).mono ?_
      rintro e w' ⟨rfl, rfl⟩
      exact ⟨⟨n, rfl, by omega, by omega, fun h => by omega⟩, rfl⟩
    · refine (size_flat a n cap w (by omega)).mono ?_
      rintro e w' ⟨rfl, rfl⟩
      exact ⟨⟨n, rfl, by omega, by omega, fun h => ⟨a, n, cap, rfl, by omega, hx⟩⟩, rfl⟩
  | succ d ih =>
    intro hd v w h
    have IH := hide (ih (by omega))
    clear ih
    obtain ⟨a, n, cap, rfl, hn, hx⟩ := h
    by_cases hb : 1024 < n
    · refine (size_big a n cap _ w hb (by omega)).mono ?_
      rintro e w' ⟨rfl, rfl⟩
      exact ⟨⟨n, rfl, by omega, by omega, fun h => by omega⟩, rfl⟩
    have HX := hide hx
    clear hx
    go_enter Yba.func5, Yba.ntmps5
    go_wp2
    go_loop [5, 18] (fun s i => ∃ (k : Nat) (r : Int), s = .int .i64 r ∧ i = .int .i64 k ∧ k ≤ n ∧ 0 ≤ r ∧ r ≤ 1024 ∧ ∀ j b off body, j < k → a = some ⟨b, off, none⟩ → w.cell? ⟨b, off + j * 4 + 3, none⟩ = some body → Nodes 1024 B w d body)
      (fun _ i => n - (intOf i).toNat)
    case atStart => exact ⟨0, n, rfl, rfl, by omega, by omega, by omega, fun j b off body hj => by omega⟩
    case round =>
      obtain ⟨k, r, rfl, rfl, hk, hr0, hr1, hno⟩ := hrel
      have HNO := hide hno
      clear hno
      by_cases hlt : k < n
      · obtain ⟨b, off, kd, us, ct, body, ha, hbB, _, _, _, _, c0, c1, c2, c3, hsub⟩ := HX.out k hlt
        subst ha
        have hcall := hide (IH.out body w hsub)
        clear hsub
        go_wp2_with fail
        refine hcall.out.mono ?_
        rintro e w' ⟨⟨q, rfl, hq0, hq1, hq2⟩, rfl⟩
        have HQ := hide hq2
        clear hq2 hcall
        by_cases hbig : 1024 < r + q
        · go_wp2
          go_ret
          exact ⟨⟨r + q, rfl, by omega, by omega, fun h => by omega⟩, rfl⟩
        · go_wp2
          go_round
          case rel =>
            refine ⟨k + 1, r + q, rfl, by go_num, by omega, by omega, by omega, fun j b' off' body' hj ha hc => ?_⟩
            by_cases e : j = k
            · subst e
              simp only [Option.some.injEq, Addr.mk.injEq, and_true] at ha
              obtain ⟨rfl, rfl⟩ := ha
              rw [c3] at hc
              simp only [Option.some.injEq] at hc
              subst hc
              exact HQ.out (by omega)
            · exact HNO.out j b' off' body' (by omega) ha hc
          case measure => simp [intOf]; omega
      · go_wp2
        go_ret
        refine ⟨⟨r, rfl, by omega, by omega, fun h => ⟨a, n, cap, rfl, by omega, fun i hi => ?_⟩⟩, rfl⟩
        obtain ⟨b, off, kd, us, ct, body, ha, hbB, k0, k1, u1, t1, c0, c1, c2, c3, hsub⟩ := HX.out i hi
        exact ⟨b, off, kd, us, ct, body, ha, hbB, k0, k1, u1, t1, c0, c1, c2, c3, HNO.out i b off body (by omega) ha c3⟩
end Go.Proofs.Ybulkbqeo
