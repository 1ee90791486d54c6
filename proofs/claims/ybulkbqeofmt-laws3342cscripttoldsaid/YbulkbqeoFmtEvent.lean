/- The sink's Event, run.emit. By an AI agent. -/
import Derived.Test.YbulkbqeoFmtDrain
import Derived.Deep.RegionLaw
import Derived.Deep.RegionHeld3
import Derived.WalkSpells
namespace Go.Proofs.YbulkbqeoFmt
open Go Go.RowKit
theorem Ybaf.info78 : (Ybaf.prog.info? 78).map (fun i => (i.zero, i.size, i.bytes)) = some (some (.agg #[.int .u8 0, .int .i64 0, .int .i64 0, .int .i64 0, .int .i64 0, .int .u8 0, .int .i64 0, .int .i64 0, .int .i64 0, .string ⟨#[]⟩]), 10, 88) := by kernel_rfl

/-- An event's ten cells. -/
def evc (kd t p m g fr b vi nn : Int) (ch : ByteArray) : List Value := [.int .u8 kd, .int .i64 t, .int .i64 p, .int .i64 m, .int .i64 g, .int .u8 fr, .int .i64 b, .int .i64 vi, .int .i64 nn, .string ch]

theorem evc_one (kd t p m g fr b vi nn : Int) (ch : ByteArray) : ∀ u ∈ evc kd t p m g fr b vi nn ch, u.oneCell' = true := by
  intro u hu
  simp only [evc, List.mem_cons, List.not_mem_nil, or_false] at hu
  rcases hu with rfl | rfl | rfl | rfl | rfl | rfl | rfl | rfl | rfl | rfl <;> rfl

theorem ten_cells {W : World} {E : Nat} {v0 v1 v2 v3 v4 v5 v6 v7 v8 v9 : Value} {t : TypeId} {f : Nat × Nat} (h : W.heap[E]? = some (.cells #[v0, v1, v2, v3, v4, v5, v6, v7, v8, v9] t f)) :
    W.cell? ⟨E, 0, none⟩ = some v0 ∧ W.cell? ⟨E, 1, none⟩ = some v1 ∧ W.cell? ⟨E, 2, none⟩ = some v2 ∧ W.cell? ⟨E, 3, none⟩ = some v3 ∧ W.cell? ⟨E, 4, none⟩ = some v4 ∧ W.cell? ⟨E, 5, none⟩ = some v5 ∧ W.cell? ⟨E, 6, none⟩ = some v6 ∧ W.cell? ⟨E, 7, none⟩ = some v7 ∧ W.cell? ⟨E, 8, none⟩ = some v8 ∧ W.cell? ⟨E, 9, none⟩ = some v9 :=
  ⟨cell_at h 0, cell_at h 1, cell_at h 2, cell_at h 3, cell_at h 4, cell_at h 5, cell_at h 6, cell_at h 7, cell_at h 8, cell_at h 9⟩

theorem far_row {W' w1 : World} {row : Option Nat} {S : Nat} {cs : Array Value} {t : TypeId} (hg : W'.grownBy w1 row) (hS : W'.heap[S]? = some (.cells cs t (0, 0))) (hne : some S ≠ row) : w1.heap[S]? = some (.cells cs t (0, 0)) :=
  (hg.block S (block_lt hS) hne).trans hS

theorem own_other {w : World} {base size n S : Nat} {e e' : TypeId} {v : Value} {xs : List Value} {cs : Array Value} {fr : Nat × Nat} (h : w.ownsRow base e size v n xs) (hS : w.heap[S]? = some (.cells cs e' fr)) (hne : e ≠ e') : some S ≠ v.ownBlock := by
  rcases h.2 with ⟨rfl, _⟩ | ⟨g, cap, cur, rfl, hb, hg, rest⟩
  · intro h; cases h
  · intro h
    have : S = g := by simpa [Value.ownBlock] using h
    subst this
    rw [hg] at hS
    simp only [Option.some.injEq, Obj.cells.injEq] at hS
    exact hne hS.2.1

/-- THE SINK's EVENTS: the sink in block S, its row in block eb: n events, whose cells are xs. -/
def Evs (w : World) (S : Nat) (eb : Option Nat) (n : Nat) (xs : List Value) : Prop := ∃ ev, w.heap[S]? = some (.cells #[ev] 25 (0, 0)) ∧ w.ownsRow 0 78 10 ev n xs ∧ ev.ownBlock = eb

theorem event_end {w W w1 w' : World} {S n g cap : Nat} {ev : Value} {ys : List Value} {o1 o2 : Obj} (hW : w.alloc o1 = W) (hF : w1.heap[S]? = some (.cells #[ev] 25 (0, 0))) (hg : (W.alloc o2).grownBy w1 ev.ownBlock) (hat : ev.ownBlock = some g ∨ g = W.heap.size + 1)
    (hown : w1.ownsRow 0 78 10 (.slice (some ⟨g, 0, none⟩) (n + 1) cap) (n + 1) ys) (hw' : w' = w1.setCell ⟨S, 0, none⟩ (.slice (some ⟨g, 0, none⟩) (n + 1) cap)) :
    ∃ eb', Evs w' S eb' (n + 1) ys ∧ (eb' = ev.ownBlock ∨ ∃ b, eb' = some b ∧ w.heap.size ≤ b) ∧ Kept (fun b => b = S ∨ ev.ownBlock = some b) w w' := by
  subst hw'
  have hsW : W.heap.size = w.heap.size + 1 := by
    rw [← hW]
    show (w.heap.push o1).size = _
    rw [Array.size_push]
  have hsW2 : (W.alloc o2).heap.size = w.heap.size + 2 := by
    show (W.heap.push o2).size = _
    rw [Array.size_push]; omega
  have hgS : g ≠ S := fun e => by
    have := own_other hown hF (by decide)
    rw [e] at this
    exact this rfl
  refine ⟨some g, ⟨_, heap_setCell_at hF _, owns_same hown fun g' hg' => ?_, rfl⟩, ?_, ⟨⟨hg.os.trans ?_, hg.tape.trans ?_, hg.output.trans ?_, ?_, fun k hk => absurd hk (Nat.not_lt_zero _)⟩, fun b hb hD => ?_⟩⟩
  · obtain rfl : g = g' := by simpa [Value.ownBlock] using hg'
    exact Below.heap_setCell _ _ _ _ hgS
  · rcases hat with h | h
    · exact Or.inl h.symm
    · exact Or.inr ⟨g, rfl, by omega⟩
  · rw [← hW]; rfl
  · rw [← hW]; rfl
  · rw [← hW]; rfl
  · have := hg.size
    have e : (w1.setCell ⟨S, 0, none⟩ (.slice (some ⟨g, 0, none⟩) (n + 1) cap)).heap.size = w1.heap.size := by simp [World.setCell]
    omega
  · rw [Below.heap_setCell _ _ _ _ (fun e => hD (Or.inl e)), hg.block b (by omega) (fun e => hD (Or.inr e.symm)), Below.heap_alloc _ _ _ (by omega), ← hW, Below.heap_alloc _ _ _ hb]

set_option maxRecDepth 100000 in
set_option maxHeartbeats 2000000 in
theorem event_any {S n : Nat} {eb : Option Nat} {xs : List Value} (kd t p m g fr b vi nn : Int) (ch : ByteArray) (w : World) (hev : Evs w S eb n xs) (hn : n ≤ 2000) :
    Calls Ybaf.prog 51 #[.pointer (some ⟨S, 0, none⟩), .agg #[.int .u8 kd, .int .i64 t, .int .i64 p, .int .i64 m, .int .i64 g, .int .u8 fr, .int .i64 b, .int .i64 vi, .int .i64 nn, .string ch]] w fun e w' => e = .returned .nilIface ∧
      ∃ eb', Evs w' S eb' (n + 1) (xs ++ evc kd t p m g fr b vi nn ch) ∧ (eb' = eb ∨ ∃ b, eb' = some b ∧ w.heap.size ≤ b) ∧ Kept (fun b => b = S ∨ eb = some b) w w' := by
  obtain ⟨ev, hS, hown, rfl⟩ := hev
  obtain ⟨i0, hi, hz0, hz1, hz2⟩ := info_parts Ybaf.info78
  have hSw := block_lt hS
  have c0 : w.cell? ⟨S, 0, none⟩ = some ev := cell_at hS 0
  have f0 := frozen_at hS
  have HOWN := hide hown
  have HS := hide hS
  clear hown hS
  go_enter Ybaf.func51, Ybaf.ntmps51
  go_wp2
  generalize hW : w.alloc (Obj.cells #[.int .u8 kd, .int .i64 t, .int .i64 p, .int .i64 m, .int .i64 g, .int .u8 fr, .int .i64 b, .int .i64 vi, .int .i64 nn, .string ch] 78) = W
  have hE : W.heap[w.heap.size]? = some (.cells #[.int .u8 kd, .int .i64 t, .int .i64 p, .int .i64 m, .int .i64 g, .int .u8 fr, .int .i64 b, .int .i64 vi, .int .i64 nn, .string ch] 78 (0, 0)) := by rw [← hW]; exact heap_alloc_new _ _
  have d0 : W.cell? ⟨S, 0, none⟩ = some ev := by rw [← hW]; exact (World.cell?_of_block (w := w) (Below.heap_alloc _ _ _ hSw)).trans c0
  have d1 : ∀ j, W.frozen? ⟨S, j, none⟩ = false := fun j => by rw [← hW]; exact (World.frozen?_of_block (w := w) (Below.heap_alloc _ _ _ hSw)).trans (f0 j)
  have how : W.ownsRow 0 78 10 ev n xs := by rw [← hW]; exact HOWN.out.alloc _
  have hSne := hide (own_other HOWN.out HS.out (by decide))
  have HSA : Hid (∀ o, (W.alloc o).heap[S]? = some (.cells #[ev] 25 (0, 0))) := fun o => by rw [← hW]; exact (Below.heap_alloc _ _ _ (by show S < (w.heap.push _).size; rw [Array.size_push]; omega)).trans ((Below.heap_alloc _ _ _ hSw).trans HS.out)
  have HOW := hide how
  have d0' : ∀ o, (W.alloc o).cell? ⟨S, 0, none⟩ = some ev := fun o => cell_at (HSA.out o) 0
  have HW := hide hW
  obtain ⟨e0, e1, e2, e3, e4, e5, e6, e7, e8, e9⟩ := ten_cells hE
  clear hW how hE c0 f0
  generalize hEE : w.heap.size = E at *
  go_region_law (refine step_append_lies _ rfl (.tmp 9) (.tmp 11) 23 rfl 0 78 i0 _ 10 88 Ybaf.underlying23 hi hz0 hz1 hz2 rfl (by decide) ev n xs (by simp [Act.eval]) (HOW.out.alloc _) ⟨W.heap.size, 0, none⟩ 1 1 (evc kd t p m g fr b vi nn ch) (by simp [Act.eval]) rfl (World.news_of_block (heap_alloc_new W _)) (evc_one _ _ _ _ _ _ _ _ _ _) (by omega) (by unfold maxLen; omega) (by omega) (Nat.zero_le _) (W.heap.size + 1) (by simp) ?_; intro g1 cap1 w1 hown1 hgrow1 hat hglt; have hfar := far_row hgrow1 (HSA.out _) hSne.out; have k1 : w1.cell? ⟨S, 0, none⟩ = some ev := cell_at hfar 0; have k2 := frozen_at hfar 0; have HF := hide hfar; clear hfar)
  all_goals
    have HG := hide hgrow1
    have HO := hide hown1
    clear hgrow1 hown1
    go_wp2
    go_ret
    rw [← hEE]
    exact ⟨rfl, event_end HW.out HF.out ⟨HG.out.os, HG.out.tape, HG.out.output, HG.out.size, HG.out.block⟩ hat HO.out rfl⟩
end Go.Proofs.YbulkbqeoFmt
