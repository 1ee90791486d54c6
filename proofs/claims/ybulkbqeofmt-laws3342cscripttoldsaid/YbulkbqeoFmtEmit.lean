/- run.emit. By an AI agent. -/
import Derived.Test.YbulkbqeoFmtEvent
import Derived.Deep.RegionWith
namespace Go.Proofs.YbulkbqeoFmt
open Go Go.RowKit
theorem Evs.same {w w' : World} {S : Nat} {eb : Option Nat} {n : Nat} {xs : List Value} (h : Evs w S eb n xs) (hS : w'.heap[S]? = w.heap[S]?) (hb : ∀ b, eb = some b → w'.heap[b]? = w.heap[b]?) : Evs w' S eb n xs := by
  obtain ⟨ev, h1, h2, rfl⟩ := h
  exact ⟨ev, hS.trans h1, owns_same h2 fun g hg => hb g hg, rfl⟩
theorem Evs.lt {w : World} {S : Nat} {eb : Option Nat} {n : Nat} {xs : List Value} (h : Evs w S eb n xs) : S < w.heap.size ∧ (∀ b, eb = some b → b < w.heap.size) ∧ eb ≠ some S := by
  obtain ⟨ev, h1, h2, rfl⟩ := h
  refine ⟨block_lt h1, fun b hb => ?_, fun e => own_other h2 h1 (by decide) e.symm⟩
  rcases h2.2 with ⟨rfl, _⟩ | ⟨g, cap, cur, rfl, _, hg, _⟩
  · cases hb
  · obtain rfl : g = b := by simpa [Value.ownBlock] using hb
    exact block_lt hg

set_option maxRecDepth 100000 in
set_option maxHeartbeats 2000000 in
theorem emit_any {R S n : Nat} {eb : Option Nat} {xs : List Value} (kd t p m g fr b vi nn : Int) (ch : ByteArray) (w : World) (hev : Evs w S eb n xs) (hn : n ≤ 2000)
    (r0 : w.cell? ⟨R, 0, none⟩ = some (.iface 22 (.pointer (some ⟨S, 0, none⟩)))) (r20 : w.cell? ⟨R, 20, none⟩ = some .nilIface) :
    Calls Ybaf.prog 16 #[.pointer (some ⟨R, 0, none⟩), .agg #[.int .u8 kd, .int .i64 t, .int .i64 p, .int .i64 m, .int .i64 g, .int .u8 fr, .int .i64 b, .int .i64 vi, .int .i64 nn, .string ch]] w fun e w' => (∃ v, e = .returned v) ∧
      ∃ eb', Evs w' S eb' (n + 1) (xs ++ evc kd t p m g fr b vi nn ch) ∧ (eb' = eb ∨ ∃ b, eb' = some b ∧ w.heap.size ≤ b) ∧ Kept (fun b => b = S ∨ eb = some b) w w' := by
  obtain ⟨l1, l2, l3⟩ := hev.lt
  have hRw : R < w.heap.size := World.block_lt_of_cell? w _ r0
  have HEV := hide hev
  clear hev
  go_enter Ybaf.func16, Ybaf.ntmps16
  go_wp2
  generalize hW : w.alloc (Obj.cells #[.int .u8 kd, .int .i64 t, .int .i64 p, .int .i64 m, .int .i64 g, .int .u8 fr, .int .i64 b, .int .i64 vi, .int .i64 nn, .string ch] 78) = W
  have hE : W.heap[w.heap.size]? = some (.cells #[.int .u8 kd, .int .i64 t, .int .i64 p, .int .i64 m, .int .i64 g, .int .u8 fr, .int .i64 b, .int .i64 vi, .int .i64 nn, .string ch] 78 (0, 0)) := by rw [← hW]; exact heap_alloc_new _ _
  have hold : ∀ k, k < w.heap.size → W.heap[k]? = w.heap[k]? := fun k hk => by rw [← hW]; exact Below.heap_alloc _ _ _ hk
  have d0 : W.cell? ⟨R, 0, none⟩ = some (.iface 22 (.pointer (some ⟨S, 0, none⟩))) := (World.cell?_of_block (w := w) (hold R hRw)).trans r0
  have hevW : Evs W S eb n xs := HEV.out.same (hold S l1) (fun k hk => hold k (l2 k hk))
  have hbW : Below 0 w W := by rw [← hW]; exact (Below.refl 0 w).alloc (Nat.zero_le _) _
  have hsW : W.heap.size = w.heap.size + 1 := by
    rw [← hW]
    show (w.heap.push _).size = _
    rw [Array.size_push]
  have hcall : Calls Ybaf.prog 51 #[.pointer (some ⟨S, 0, none⟩), .agg #[.int .u8 kd, .int .i64 t, .int .i64 p, .int .i64 m, .int .i64 g, .int .u8 fr, .int .i64 b, .int .i64 vi, .int .i64 nn, .string ch]] W.drew _ := event_any kd t p m g fr b vi nn ch W.drew hevW hn
  have HC := hide hcall
  have HH := hide hold
  have HB := hide (And.intro hbW hsW)
  obtain ⟨e0, e1, e2, e3, e4, e5, e6, e7, e8, e9⟩ := ten_cells hE
  clear hW hE hold hevW hbW hsW hcall
  have q1 : ∀ (a : Addr) (w : World), (method 249 22 (.pointer (some a)) "Event").run Ybaf.prog w = .ok (51, .pointer (some a)) w := fun _ _ => by kernel_rfl
  generalize hEE : w.heap.size = E at *
  go_region_with (go_at_call 51; refine HC.out.mono ?_; rintro e w1 ⟨rfl, hq⟩)
  all_goals
    have HQ := hide hq
    clear hq
    go_wp2
    go_end0
    obtain ⟨eb', a1, a2, a3⟩ := HQ.out
    have hs2 := HB.out.2
    have hsd : W.drew.heap.size = W.heap.size := rfl
    refine ⟨⟨_, rfl⟩, eb', a1, ?_, HB.out.1.trans ((Below.refl 0 W).drew.trans a3.1), fun k hk hD => ?_⟩
    · rcases a2 with h | ⟨k, h, h'⟩
      · exact Or.inl h
      · exact Or.inr ⟨k, h, by omega⟩
    · exact (a3.2 k (by omega) hD).trans (HH.out k (by omega))
end Go.Proofs.YbulkbqeoFmt
