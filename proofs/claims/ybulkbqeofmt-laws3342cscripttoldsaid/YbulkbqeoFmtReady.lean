/- run.wake, putRunnext, ready, park. By an AI agent. -/
import Derived.Test.YbulkbqeoFmtEmit
import Derived.StillTailTactics
namespace Go.Proofs.YbulkbqeoFmt
open Go Go.RowKit
theorem mixed : Ybaf.prog.follows .mixedOrders = true := by kernel_rfl

set_option maxRecDepth 100000 in
theorem wake_any {R : Nat} (w : World) (r9 : w.cell? ⟨R, 9, none⟩ = some (.slice none 0 0)) : Calls Ybaf.prog 18 #[.pointer (some ⟨R, 0, none⟩)] w fun e w' => (∃ v, e = .returned v) ∧ w' = w := by
  go_enter Ybaf.func18, Ybaf.ntmps18
  go_wp2
  refine bodyPost_ret (results_none rfl _ _ _) rfl ?_
  exact ⟨⟨_, rfl⟩, rfl⟩

set_option maxRecDepth 100000 in
theorem putRunnext_any {PP : Nat} (rv : Value) (gp : Addr) (w : World) (c9 : w.cell? ⟨PP, 9, none⟩ = some (.pointer none)) (fz : ∀ j, w.frozen? ⟨PP, j, none⟩ = false) :
    Calls Ybaf.prog 17 #[rv, .pointer (some ⟨PP, 0, none⟩), .pointer (some gp)] w fun e w' => (∃ v, e = .returned v) ∧ w' = w.setCell ⟨PP, 9, none⟩ (.pointer (some gp)) := by
  go_enter Ybaf.func17, Ybaf.ntmps17
  go_wp2
  go_end0
  exact ⟨⟨_, rfl⟩, rfl⟩

set_option maxRecDepth 100000 in
set_option maxHeartbeats 2000000 in
theorem ready_any {R S MP PP ME GP n : Nat} {eb : Option Nat} {xs : List Value} {pc : Array Value} (now pid gid gpid : Int) (w : World) (hev : Evs w S eb n xs) (hn : n ≤ 2000)
    (r0 : w.cell? ⟨R, 0, none⟩ = some (.iface 22 (.pointer (some ⟨S, 0, none⟩)))) (r1 : w.cell? ⟨R, 1, none⟩ = some (.int .i64 now)) (r9 : w.cell? ⟨R, 9, none⟩ = some (.slice none 0 0)) (r20 : w.cell? ⟨R, 20, none⟩ = some .nilIface)
    (m1 : w.cell? ⟨MP, 1, none⟩ = some (.pointer (some ⟨PP, 0, none⟩))) (m2 : w.cell? ⟨MP, 2, none⟩ = some (.pointer (some ⟨ME, 0, none⟩))) (e0 : w.cell? ⟨ME, 0, none⟩ = some (.int .i64 gid)) (g0 : w.cell? ⟨GP, 0, none⟩ = some (.int .i64 gpid))
    (hP : w.heap[PP]? = some (.cells pc 60 (0, 0))) (p0 : pc[0]? = some (.int .i64 pid)) (p9 : pc[9]? = some (.pointer none)) (hPS : PP ≠ S) (hPE : eb ≠ some PP) (hRS : R ≠ S) (hRE : eb ≠ some R) (hMS : MP ≠ S) (hME : eb ≠ some MP) (hRP : R ≠ PP) :
    Calls Ybaf.prog 12 #[.pointer (some ⟨R, 0, none⟩), .pointer (some ⟨MP, 0, none⟩), .pointer (some ⟨GP, 0, none⟩)] w fun e w' => (∃ v, e = .returned v) ∧
      ∃ eb', Evs w' S eb' (n + 1) (xs ++ evc 17 now pid 0 gpid 0 gid 0 0 ⟨#[]⟩) ∧ (eb' = eb ∨ ∃ b, eb' = some b ∧ w.heap.size ≤ b) ∧ w'.heap[PP]? = some (.cells (pc.setIfInBounds 9 (.pointer (some ⟨GP, 0, none⟩))) 60 (0, 0)) ∧ Kept (fun b => b = S ∨ eb = some b ∨ b = PP) w w' := by
  have c0 : w.cell? ⟨PP, 0, none⟩ = some (.int .i64 pid) := (cell_at hP 0).trans p0
  have hem := hide (emit_any 17 now pid 0 gpid 0 gid 0 0 ⟨#[]⟩ w.drew hev hn r0 r20)
  have HEV := hide hev
  have HP := hide hP
  clear hev hP
  go_enter Ybaf.func12, Ybaf.ntmps12
  go_wp2
  go_still_tail 24, mixed
  go_wp2_with fail
  refine hem.out.mono ?_
  rintro e w1 ⟨⟨v1, rfl⟩, eb', a1, a2, a3⟩
  have kR : w1.heap[R]? = w.heap[R]? := a3.2 R (World.block_lt_of_cell? w _ r0) (fun h => h.elim hRS hRE)
  have kM : w1.heap[MP]? = w.heap[MP]? := a3.2 MP (World.block_lt_of_cell? w _ m1) (fun h => h.elim hMS hME)
  have kP : w1.heap[PP]? = w.heap[PP]? := a3.2 PP (block_lt HP.out) (fun h => h.elim hPS hPE)
  have hP1 := kP.trans HP.out
  have s1 : w1.cell? ⟨MP, 1, none⟩ = some (.pointer (some ⟨PP, 0, none⟩)) := (World.cell?_of_block (w := w) kM).trans m1
  have s9 : w1.cell? ⟨PP, 9, none⟩ = some (.pointer none) := (cell_at hP1 9).trans p9
  have sz := frozen_at hP1
  have k9 : (w1.setCell ⟨PP, 9, none⟩ (.pointer (some ⟨GP, 0, none⟩))).cell? ⟨R, 9, none⟩ = some (.slice none 0 0) := (World.cell?_of_block (w := w1) (Below.heap_setCell _ _ _ _ hRP)).trans ((World.cell?_of_block (w := w) kR).trans r9)
  have HA := hide (And.intro a1 (And.intro a2 (And.intro a3 hP1)))
  clear a1 a2 a3 hP1 kR kM kP hem r0 r1 r9 r20 m1 m2 e0 g0 c0
  go_wp2_with (first | (go_at_call 17; refine (putRunnext_any _ ⟨GP, 0, none⟩ w1 s9 sz).mono ?_; rintro e w2 ⟨⟨v2, rfl⟩, rfl⟩) | (go_at_call 18; refine (wake_any _ k9).mono ?_; rintro e w3 ⟨⟨v3, rfl⟩, rfl⟩))
  go_end0
  obtain ⟨a1, a2, a3, a4⟩ := HA.out
  obtain ⟨l1, l2, l3⟩ := a1.lt
  refine ⟨⟨_, rfl⟩, eb', a1.same (Below.heap_setCell _ _ _ _ (Ne.symm hPS)) (fun b hb => Below.heap_setCell _ _ _ _ ?_), a2, heap_setCell_at a4 _, (a3.1.setCell (Nat.zero_le _) _ |> fun h => (Below.refl 0 w).drew.trans h), fun b hb hD => ?_⟩
  · intro e
    have hbP : b = PP := e
    rcases a2 with h | ⟨k, h, hk⟩
    · exact hPE (by rw [← h, hb, hbP])
    · have h1 := block_lt HP.out
      have h2 : k = PP := by rw [hb, hbP] at h; exact (Option.some.inj h).symm
      have h3 : w.drew.heap.size = w.heap.size := rfl
      omega
  · rw [Below.heap_setCell _ _ _ _ (fun e => hD (Or.inr (Or.inr e)))]
    exact a3.2 b hb (fun h => h.elim (fun h => hD (Or.inl h)) (fun h => hD (Or.inr (Or.inl h))))
end Go.Proofs.YbulkbqeoFmt
