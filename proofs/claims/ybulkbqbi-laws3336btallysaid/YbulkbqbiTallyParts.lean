/- LawS3336BTally: the plain part, and what holds in the middle of its loops. By an AI agent. -/
import Derived.Test.YbulkbqbiDrops
namespace Go.Proofs.Ybulkbqbi
open Go.RowKit Go.Maps

/-- How many of the first k numbers leave i by ten. -/
def cnt (zs : List Int) : Nat → Nat → Int
  | 0, _ => 0
  | k + 1, i => cnt zs k i + if i = (zs.getD k 0 % 10).toNat then 1 else 0

theorem cnt_bound (zs : List Int) (i : Nat) : ∀ k, 0 ≤ cnt zs k i ∧ cnt zs k i ≤ k
  | 0 => by simp [cnt]
  | k + 1 => by
    have := cnt_bound zs i k
    unfold cnt
    split <;> omega

/-- The tally in block T, the node in block N: both hold d. -/
def Held (w wr : World) (T N : Nat) (d : Nat → Int) : Prop :=
  T < wr.heap.size ∧ (∀ i, i < 10 → wr.cell? ⟨T, i, none⟩ = some (.int .u64 (d i)) ∧ wr.frozen? ⟨T, i, none⟩ = false) ∧ Counts wr N d ∧ Below w.heap.size w wr

theorem held_below {w wr w1 : World} {T N B : Nat} {d : Nat → Int} (h : Held w wr T N d) (hb : Below B wr w1) (hT : T < B) (hN : N < B) (hB : w.heap.size ≤ B) : Held w w1 T N d :=
  ⟨Nat.lt_of_lt_of_le h.1 hb.size, fun i hi => ⟨(hb.cell (p := ⟨T, i, none⟩) hT).trans (h.2.1 i hi).1, (hb.frozen (p := ⟨T, i, none⟩) hT).trans (h.2.1 i hi).2⟩, h.2.2.1.below hb hN, h.2.2.2.trans (hb.mono hB)⟩

theorem held_drew {w wr : World} {T N : Nat} {d : Nat → Int} (h : Held w wr T N d) (n : Nat) : Held w (wr.drewN n) T N d := by
  induction n with
  | zero => exact h
  | succ n ih => exact ⟨ih.1, ih.2.1, ih.2.2.1, ih.2.2.2.drew⟩

theorem owns_drew {wr : World} {M n : Nat} {D : DataW Unit} (h : wr.ownsMap Yba.prog 79 (plainElem Yba.prog 22) M n D) (q : Nat) : (wr.drewN q).ownsMap Yba.prog 79 (plainElem Yba.prog 22) M n D := by
  induction q with
  | zero => exact h
  | succ q ih => exact ih

theorem wf_cnt {zs : List Int} {k i : Nat} (hk : k ≤ 4096) : (Lit.int .u64 (cnt zs k i)).wf = true := by
  have := cnt_bound zs i k
  exact WalkArith.wf_u64 (by omega)

theorem held_step {w wr : World} {zs : List Int} {k r : Nat} (h : Held w wr (w.heap.size + 1) w.heap.size (cnt zs k)) (hr : r = (zs.getD k 0 % 10).toNat) (hr10 : r < 10) (hk : k < 4096) :
    Held w ((wr.setCell ⟨w.heap.size, 38 + r, none⟩ (.int .u64 (cnt zs k r + 1))).setCell ⟨w.heap.size + 1, r, none⟩ (.int .u64 (cnt zs k r + 1))) (w.heap.size + 1) w.heap.size (cnt zs (k + 1)) := by
  obtain ⟨hT, h1, h2, h3⟩ := h
  have es : cnt zs (k + 1) r = cnt zs k r + 1 := by simp [cnt, hr]
  have eo : ∀ i, i ≠ r → cnt zs (k + 1) i = cnt zs k i := by
    intro i hi
    show cnt zs k i + (if i = (zs.getD k 0 % 10).toNat then 1 else 0) = cnt zs k i
    rw [if_neg (by omega)]
    omega
  refine ⟨by simpa [World.setCell] using hT, fun i hi => ?_, ⟨by simpa [World.setCell] using h2.1, fun i hi => ?_⟩, (h3.setCell (by simp) _).setCell (by simp) _⟩
  · obtain ⟨g1, g2⟩ := h1 i hi
    have g3 : (wr.setCell ⟨w.heap.size, 38 + r, none⟩ (.int .u64 (cnt zs k r + 1))).cell? ⟨w.heap.size + 1, i, none⟩ = some (.int .u64 (cnt zs k i)) := by
      rw [World.cell?_setCell_other _ _ _ _ (by simp)]; exact g1
    refine ⟨?_, by rw [World.frozen?_setCell, World.frozen?_setCell]; exact g2⟩
    by_cases e : i = r
    · subst e
      rw [World.cell?_setCell_same _ _ _ g3, es]
    · rw [World.cell?_setCell_other _ _ _ _ (by intro he; injection he with _ e2 _; omega), g3, eo i e]
  · obtain ⟨g1, g2, _⟩ := h2.2 i hi
    refine ⟨?_, by rw [World.frozen?_setCell, World.frozen?_setCell]; exact g2, wf_cnt (by omega)⟩
    rw [World.cell?_setCell_other _ _ _ _ (by simp)]
    by_cases e : i = r
    · subst e
      rw [World.cell?_setCell_same _ _ _ g1, es]
    · rw [World.cell?_setCell_other _ _ _ _ (by intro he; injection he with _ e2 _; omega), g1, eo i e]
end Go.Proofs.Ybulkbqbi
