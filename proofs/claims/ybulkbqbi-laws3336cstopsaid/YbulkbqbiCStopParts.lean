/- LawS3336CStop: the plain part. By an AI agent. -/
import Derived.Test.YbulkbqbiStop
import Derived.Deep.AppendLies
namespace Go.Proofs.Ybulkbqbi
open Go.RowKit Go.Conc

theorem hide {p : Prop} (h : p) : Hid p := h

/-- The queue's cells after k rounds: a function and a mark each. -/
def xsOf (F : Value) : Nat → List Value
  | 0 => []
  | k + 1 => xsOf F k ++ [F, .bool ((k : Int) % 2 == 0)]

theorem xsOf_length (F : Value) : ∀ k, (xsOf F k).length = k * 2
  | 0 => rfl
  | k + 1 => by simp [xsOf, xsOf_length F k]; omega

theorem xsOf_at (F : Value) : ∀ k i, i < k → (xsOf F k)[i * 2]? = some F ∧ (xsOf F k)[i * 2 + 1]? = some (.bool ((i : Int) % 2 == 0))
  | 0, _, h => by omega
  | k + 1, i, h => by
    unfold xsOf
    have hl := xsOf_length F k
    by_cases e : i = k
    · subst e
      rw [List.getElem?_append_right (by omega), List.getElem?_append_right (by omega), hl]
      simp
    · rw [List.getElem?_append_left (by omega), List.getElem?_append_left (by omega)]
      exact xsOf_at F k i (by omega)

/-- The counting variable and the callbacks, in the middle of the law. -/
structure Cb (w wr : World) (v wk dn : Value) (nt : Int) (cl : Bool) : Prop where
  calls : wr.heap[w.heap.size]? = some (.cells #[.int .i64 0] 3 (0, 0))
  cb : wr.heap[w.heap.size + 1]? = some (.cells #[.int .i32 0, .int .u32 0, v, .int .i64 nt, wk, .bool cl, dn] 59 (0, 0))
  below : Below w.heap.size w wr
  size : w.heap.size + 2 ≤ wr.heap.size

/-- A store into a block that is known whole. -/
theorem heap_setCell_at {w : World} {b i : Nat} {cs : Array Value} {t : TypeId} {fr : Nat × Nat} (h : w.heap[b]? = some (.cells cs t fr)) (u : Value) :
    (w.setCell ⟨b, i, none⟩ u).heap[b]? = some (.cells (cs.setIfInBounds i u) t fr) := by
  simp [World.setCell, Array.getElem?_modify, h]

theorem cell_at {w : World} {b : Nat} {cs : Array Value} {t : TypeId} {fr : Nat × Nat} (h : w.heap[b]? = some (.cells cs t fr)) (i : Nat) : w.cell? ⟨b, i, none⟩ = cs[i]? := cell_of_row w b i cs t fr h
theorem frozen_at {w : World} {b : Nat} {cs : Array Value} {t : TypeId} (h : w.heap[b]? = some (.cells cs t (0, 0))) (i : Nat) : w.frozen? ⟨b, i, none⟩ = false := frozen_of_row w b i cs t h

theorem own_far {w wr : World} {v : Value} {k : Nat} {xs : List Value} (hown : wr.ownsRow (w.heap.size + 2) 90 2 v k xs) : some (w.heap.size + 1) ≠ v.ownBlock := by
  intro h
  have := hown.lt _ h.symm
  omega
theorem cb_far {w wr w1 : World} {v wk dn x : Value} {nt : Int} {cl : Bool} {k : Nat} {xs : List Value} {o : Obj} (hcb : Cb w wr v wk dn nt cl) (hown : wr.ownsRow (w.heap.size + 2) 90 2 v k xs) (hg : (wr.alloc o).grownBy w1 v.ownBlock)
    {i : Nat} (h : wr.cell? ⟨w.heap.size + 1, i, none⟩ = some x) : w1.cell? ⟨w.heap.size + 1, i, none⟩ = some x := by
  have hs := hcb.size
  rw [hg.cell_far _ (by simp; omega) (own_far hown), World.cell?_alloc_past _ _ _ (by show _ < _; omega)]
  exact h
theorem cb_far_frozen {w wr w1 : World} {v wk dn : Value} {nt : Int} {cl : Bool} {k : Nat} {xs : List Value} {o : Obj} (hcb : Cb w wr v wk dn nt cl) (hown : wr.ownsRow (w.heap.size + 2) 90 2 v k xs) (hg : (wr.alloc o).grownBy w1 v.ownBlock) :
    ∀ i, w1.frozen? ⟨w.heap.size + 1, i, none⟩ = false := by
  intro i
  have hs := hcb.size
  rw [hg.frozen_far _ (by simp; omega) (own_far hown), World.frozen?_alloc_past _ _ _ (by show _ < _; omega)]
  exact frozen_at hcb.cb i

theorem cb_step {w wr w1 : World} {v wk dn : Value} {nt : Int} {cl : Bool} {k g cap : Nat} {xs news : List Value} {o : Obj} (hcb : Cb w wr v wk dn nt cl) (hown : wr.ownsRow (w.heap.size + 2) 90 2 v k xs)
    (hown1 : w1.ownsRow (w.heap.size + 2) 90 2 (.slice (some ⟨g, 0, none⟩) (k + 1) cap) (k + 1) (xs ++ news)) (hg : (wr.alloc o).grownBy w1 v.ownBlock) :
    Cb w (w1.setCell ⟨w.heap.size + 1, 2, none⟩ (.slice (some ⟨g, 0, none⟩) (k + 1) cap)) (.slice (some ⟨g, 0, none⟩) (k + 1) cap) wk dn nt cl ∧
      (w1.setCell ⟨w.heap.size + 1, 2, none⟩ (.slice (some ⟨g, 0, none⟩) (k + 1) cap)).ownsRow (w.heap.size + 2) 90 2 (.slice (some ⟨g, 0, none⟩) (k + 1) cap) (k + 1) (xs ++ news) := by
  have hs := hcb.size
  have hs1 := hg.size
  simp only [World.size_alloc] at hs1
  have far : ∀ b, b < w.heap.size + 2 → w1.heap[b]? = wr.heap[b]? := fun b hb => by
    rw [hg.block b (by simp; omega) (fun e => by have := hown.lt _ e.symm; omega), Below.heap_alloc _ _ _ (by omega)]
  refine ⟨⟨?_, ?_, ?_, ?_⟩, ownsRow_setCell_below hown1 (by show w.heap.size + 1 < w.heap.size + 2; omega) _⟩
  · rw [Below.heap_setCell _ _ _ _ (by show w.heap.size ≠ w.heap.size + 1; omega), far _ (by omega)]; exact hcb.calls
  · rw [heap_setCell_at ((far _ (by omega)).trans hcb.cb)]; rfl
  · exact ((hcb.below.alloc (by omega) _).grown hg (by simp; omega) (fun j hj => by have := hown.lt _ hj; omega)).setCell (by show w.heap.size ≤ w.heap.size + 1; omega) _
  · simp [World.setCell]; omega

theorem Yba.mk1 (w : World) : (Instr.makeChan 57 (.int .i64 1)).run Yba.prog w = .ok (.chan (some w.heap.size)) (w.alloc (.chan 1 #[] false 0 0 false)) := by kernel_rfl
theorem Yba.mk0 (w : World) : (Instr.makeChan 57 (.int .i64 0)).run Yba.prog w = .ok (.chan (some w.heap.size)) (w.alloc (.chan 0 #[] false 0 0 false)) := by kernel_rfl


theorem But.grown {c : Nat} {w w' : World} (h : But c w w') : w.grownBy w' (some c) :=
  ⟨h.os, h.tape, h.output, Nat.le_of_eq h.size.symm, fun k _ hk => h.block k (fun e => hk (by rw [e]))⟩

/-- The callbacks and their queue of k calls. -/
structure St (w W : World) (v wk dn : Value) (nt : Int) (cl : Bool) (k : Nat) : Prop where
  cb : Cb w W v wk dn nt cl
  own : W.ownsRow (w.heap.size + 2) 90 2 v k (xsOf (.func (.func 10) #[] #[.pointer (some ⟨w.heap.size, 0, none⟩)]) k)

section
variable {w W : World} {v wk dn : Value} {nt : Int} {cl : Bool} {k : Nat}

theorem St.alloc (h : St w W v wk dn nt cl k) (o : Obj) : St w (W.alloc o) v wk dn nt cl k := by
  have hs := h.cb.size
  refine ⟨⟨?_, ?_, h.cb.below.alloc (by omega) _, by simp; omega⟩, h.own.alloc _⟩
  · rw [Below.heap_alloc _ _ _ (by omega)]; exact h.cb.calls
  · rw [Below.heap_alloc _ _ _ (by omega)]; exact h.cb.cb

/-- A store into the callbacks' own block. -/
theorem St.set (h : St w W v wk dn nt cl k) (i : Nat) (u wk' dn' : Value) (cl' : Bool)
    (he : #[.int .i32 0, .int .u32 0, v, .int .i64 nt, wk, .bool cl, dn].setIfInBounds i u = #[.int .i32 0, .int .u32 0, v, .int .i64 nt, wk', .bool cl', dn']) : St w (W.setCell ⟨w.heap.size + 1, i, none⟩ u) v wk' dn' nt cl' k := by
  have hs := h.cb.size
  refine ⟨⟨?_, ?_, h.cb.below.setCell (by show w.heap.size ≤ w.heap.size + 1; omega) _, by simpa [World.setCell] using hs⟩, ownsRow_setCell_below h.own (by show w.heap.size + 1 < w.heap.size + 2; omega) _⟩
  · rw [Below.heap_setCell _ _ _ _ (by show w.heap.size ≠ w.heap.size + 1; omega)]; exact h.cb.calls
  · rw [heap_setCell_at h.cb.cb, he]

theorem St.but {c : Nat} {W' : World} (h : St w W v wk dn nt cl k) (h3 : w.heap.size + 2 ≤ c) {cap s r : Nat} {buf : Array Value} {sh tm : Bool} (hc : W.heap[c]? = some (.chan cap buf sh s r tm)) (hb : But c W W') : St w W' v wk dn nt cl k := by
  have h1 : c ≠ w.heap.size := by omega
  have h2 : c ≠ w.heap.size + 1 := by omega
  refine ⟨⟨?_, ?_, h.cb.below.grown hb.grown (by have := h.cb.size; omega) (fun j hj => by cases hj; omega), by rw [hb.size]; exact h.cb.size⟩, h.own.kept hb.grown ?_⟩
  · rw [hb.block _ (fun e => h1 e.symm)]; exact h.cb.calls
  · rw [hb.block _ (fun e => h2 e.symm)]; exact h.cb.cb
  · rcases h.own.2 with ⟨rfl, _⟩ | ⟨g, cap', cur, rfl, _, hg, _⟩
    · exact .inl rfl
    · refine .inr (fun e => ?_)
      simp [Value.ownBlock] at e
      rw [e] at hg
      rw [hg] at hc
      simp at hc

theorem St.stop (h : St w W v wk dn nt cl k) : St w (W3 W (w.heap.size + 1)) v wk dn nt true k := by
  have hs := h.cb.size
  unfold W3
  refine ⟨⟨?_, ?_, ?_, by simpa [World.setCell] using hs⟩, ownsRow_setCell_below (ownsRow_setCell_below (ownsRow_setCell_below h.own ?_ _) ?_ _) ?_ _⟩
  · rw [Below.heap_setCell _ _ _ _ (by show w.heap.size ≠ w.heap.size + 1; omega), Below.heap_setCell _ _ _ _ (by show w.heap.size ≠ w.heap.size + 1; omega), Below.heap_setCell _ _ _ _ (by show w.heap.size ≠ w.heap.size + 1; omega)]
    exact h.cb.calls
  · rw [heap_setCell_at (heap_setCell_at (heap_setCell_at h.cb.cb _) _) _]; rfl
  · exact ((h.cb.below.setCell (by show w.heap.size ≤ w.heap.size + 1; omega) _).setCell (by show w.heap.size ≤ w.heap.size + 1; omega) _).setCell (by show w.heap.size ≤ w.heap.size + 1; omega) _
  all_goals (show w.heap.size + 1 < w.heap.size + 2; omega)
end
end Go.Proofs.Ybulkbqbi
