/- The slice of operations that zzs3342bbuild fills, in the middle of its loop. By an AI agent. -/
import Derived.Test.YbulkbqeoSmall
namespace Go.Proofs.Ybulkbqeo
open Go.RowKit

theorem heap_setCell_at {w : World} {b i : Nat} {cs : Array Value} {t : TypeId} {fr : Nat × Nat} (h : w.heap[b]? = some (.cells cs t fr)) (u : Value) :
    (w.setCell ⟨b, i, none⟩ u).heap[b]? = some (.cells (cs.setIfInBounds i u) t fr) := by
  simp [World.setCell, Array.getElem?_modify, h]
theorem cell_at {w : World} {b : Nat} {cs : Array Value} {t : TypeId} {fr : Nat × Nat} (h : w.heap[b]? = some (.cells cs t fr)) (i : Nat) : w.cell? ⟨b, i, none⟩ = cs[i]? := cell_of_row w b i cs t fr h
theorem frozen_at {w : World} {b : Nat} {cs : Array Value} {t : TypeId} (h : w.heap[b]? = some (.cells cs t (0, 0))) (i : Nat) : w.frozen? ⟨b, i, none⟩ = false := frozen_of_row w b i cs t h

def Built (N n : Nat) (wr : World) (d : Nat) (t : List (Int × Int × Int × Tr d)) : Prop :=
  ∃ cs, wr.heap[N]? = some (.cells cs 34 (0, 0)) ∧ cs.size = n * 6 ∧ ∀ i x, itm t i = some x → ∃ body, Fine x ∧ cs[i * 6]? = some (.int .u8 x.1) ∧ cs[i * 6 + 1]? = some (.int .i64 x.2.1) ∧ cs[i * 6 + 2]? = some (.int .i64 x.2.2.1) ∧
    cs[i * 6 + 3]? = some (.int .i64 0) ∧ cs[i * 6 + 4]? = some body ∧ cs[i * 6 + 5]? = some .nilIface ∧ Ops (N + 1) wr.heap.size wr d body x.2.2.2

/-- Six cells of the row N, from o on. -/
def six (w : World) (N o : Nat) (v0 v1 v2 v3 v4 v5 : Value) : World :=
  (((((w.setCell ⟨N, o, none⟩ v0).setCell ⟨N, o + 1, none⟩ v1).setCell ⟨N, o + 2, none⟩ v2).setCell ⟨N, o + 3, none⟩ v3).setCell ⟨N, o + 4, none⟩ v4).setCell ⟨N, o + 5, none⟩ v5

theorem six_size (w : World) (N o : Nat) (v0 v1 v2 v3 v4 v5 : Value) : (six w N o v0 v1 v2 v3 v4 v5).heap.size = w.heap.size := by simp [six, World.setCell]
theorem six_other (w : World) (N o : Nat) (v0 v1 v2 v3 v4 v5 : Value) (b : Nat) (hb : b ≠ N) : (six w N o v0 v1 v2 v3 v4 v5).heap[b]? = w.heap[b]? := by
  unfold six
  rw [Below.heap_setCell _ _ _ _ hb, Below.heap_setCell _ _ _ _ hb, Below.heap_setCell _ _ _ _ hb, Below.heap_setCell _ _ _ _ hb, Below.heap_setCell _ _ _ _ hb, Below.heap_setCell _ _ _ _ hb]
theorem six_below {B : Nat} {a w : World} (h : Below B a w) {N : Nat} (hN : B ≤ N) (o : Nat) (v0 v1 v2 v3 v4 v5 : Value) : Below B a (six w N o v0 v1 v2 v3 v4 v5) :=
  (((((h.setCell hN _).setCell hN _).setCell hN _).setCell hN _).setCell hN _).setCell hN _

theorem get_six {cs : Array Value} {o j : Nat} (v0 v1 v2 v3 v4 v5 : Value) (hj : j < o ∨ o + 6 ≤ j) :
    ((((((cs.setIfInBounds o v0).setIfInBounds (o + 1) v1).setIfInBounds (o + 2) v2).setIfInBounds (o + 3) v3).setIfInBounds (o + 4) v4).setIfInBounds (o + 5) v5)[j]? = cs[j]? := by
  rw [Array.getElem?_setIfInBounds_ne (by omega), Array.getElem?_setIfInBounds_ne (by omega), Array.getElem?_setIfInBounds_ne (by omega), Array.getElem?_setIfInBounds_ne (by omega), Array.getElem?_setIfInBounds_ne (by omega), Array.getElem?_setIfInBounds_ne (by omega)]

/-- The six cells, in the array. -/
def sixA (cs : Array Value) (o : Nat) (v0 v1 v2 v3 v4 v5 : Value) : Array Value :=
  (((((cs.setIfInBounds o v0).setIfInBounds (o + 1) v1).setIfInBounds (o + 2) v2).setIfInBounds (o + 3) v3).setIfInBounds (o + 4) v4).setIfInBounds (o + 5) v5
theorem six_block {w : World} {N : Nat} {cs : Array Value} {t : TypeId} {fr : Nat × Nat} (h : w.heap[N]? = some (.cells cs t fr)) (o : Nat) (v0 v1 v2 v3 v4 v5 : Value) :
    (six w N o v0 v1 v2 v3 v4 v5).heap[N]? = some (.cells (sixA cs o v0 v1 v2 v3 v4 v5) t fr) :=
  heap_setCell_at (heap_setCell_at (heap_setCell_at (heap_setCell_at (heap_setCell_at (heap_setCell_at h _) _) _) _) _) _

theorem built_step {N n : Nat} {wr w4 : World} {d : Nat} {t : List (Int × Int × Int × Tr d)} {x : Int × Int × Int × Tr d} {body : Value} (h : Built N n wr d t) (hk : t.length < n)
    (hblk : ∀ cs, wr.heap[N]? = some (.cells cs 34 (0, 0)) → w4.heap[N]? = some (.cells (sixA cs (t.length * 6) (.int .u8 x.1) (.int .i64 x.2.1) (.int .i64 x.2.2.1) (.int .i64 0) body .nilIface) 34 (0, 0)))
    (hsame : ∀ b, N < b → b < wr.heap.size → w4.heap[b]? = wr.heap[b]?) (hsz : wr.heap.size ≤ w4.heap.size) (hf : Fine x) (ho : Ops (N + 1) w4.heap.size w4 d body x.2.2.2) :
    Built N n w4 d (t ++ [x]) := by
  obtain ⟨cs, hcs, hsize, hx⟩ := h
  refine ⟨_, hblk cs hcs, by simpa [sixA] using hsize, fun i y hy => ?_⟩
  by_cases e : i < t.length
  · have hy' : itm t i = some y := by
      unfold itm at hy ⊢
      rwa [List.getElem?_append_left e] at hy
    obtain ⟨body', hf', c0, c1, c2, c3, c4, c5, ho'⟩ := hx i y hy'
    refine ⟨body', hf', ?_, ?_, ?_, ?_, ?_, ?_, Ops.mono (Nat.le_refl _) hsz d body' _ (Ops.same (fun b hb hb2 => hsame b (by omega) hb2) d body' _ ho')⟩
    · unfold sixA; rw [get_six _ _ _ _ _ _ (by omega)]; exact c0
    · unfold sixA; rw [get_six _ _ _ _ _ _ (by omega)]; exact c1
    · unfold sixA; rw [get_six _ _ _ _ _ _ (by omega)]; exact c2
    · unfold sixA; rw [get_six _ _ _ _ _ _ (by omega)]; exact c3
    · unfold sixA; rw [get_six _ _ _ _ _ _ (by omega)]; exact c4
    · unfold sixA; rw [get_six _ _ _ _ _ _ (by omega)]; exact c5
  · have hi : i = t.length := by
      unfold itm at hy
      have := (List.getElem?_eq_some_iff.1 hy).1
      simp at this
      omega
    subst hi
    have hxy : x = y := by
      unfold itm at hy
      rw [List.getElem?_append_right (Nat.le_refl _)] at hy
      simpa using hy
    subst hxy
    refine ⟨body, hf, ?_, ?_, ?_, ?_, ?_, ?_, ho⟩
    all_goals
      unfold sixA
      simp only [Array.getElem?_setIfInBounds]
      simp; omega

theorem built_room {N n k : Nat} {wr : World} {d : Nat} {t : List (Int × Int × Int × Tr d)} (h : Built N n wr d t) (hlt : k < n) :
    ∃ v0 v1 v2 v3 v4 v5, wr.cell? ⟨N, k * 6, none⟩ = some v0 ∧ wr.cell? ⟨N, k * 6 + 1, none⟩ = some v1 ∧ wr.cell? ⟨N, k * 6 + 2, none⟩ = some v2 ∧ wr.cell? ⟨N, k * 6 + 3, none⟩ = some v3 ∧
      wr.cell? ⟨N, k * 6 + 4, none⟩ = some v4 ∧ wr.cell? ⟨N, k * 6 + 5, none⟩ = some v5 ∧ ∀ j, wr.frozen? ⟨N, j, none⟩ = false := by
  obtain ⟨cs, hcs, hsize, _⟩ := h
  have g : ∀ j (hj : k * 6 + j < cs.size), wr.cell? ⟨N, k * 6 + j, none⟩ = some (cs[k * 6 + j]) := fun j hj => by
    rw [cell_at hcs, Array.getElem?_eq_getElem hj]
  exact ⟨_, _, _, _, _, _, g 0 (by omega), g 1 (by omega), g 2 (by omega), g 3 (by omega), g 4 (by omega), g 5 (by omega), fun j => frozen_at hcs j⟩

theorem built_done {N n cap : Nat} {wr : World} {d : Nat} {t : List (Int × Int × Int × Tr d)} (h : Built N n wr d t) (ht : t.length = n) (hn : n ≤ 1024) (hNs : N < wr.heap.size) : Ops N wr.heap.size wr (d + 1) (.slice (some ⟨N, 0, none⟩) n cap) t := by
  obtain ⟨cs, hcs, hsize, hx⟩ := h
  refine ⟨some ⟨N, 0, none⟩, cap, by rw [ht], by rw [ht]; exact hn, fun i x hi => ?_⟩
  obtain ⟨body, hf, c0, c1, c2, c3, c4, c5, ho⟩ := hx i x hi
  refine ⟨N, 0, body, rfl, Nat.le_refl _, hNs, hf, ?_, ?_, ?_, ?_, ?_, ?_, Ops.mono (by omega) (Nat.le_refl _) d body _ ho⟩
  · rw [Nat.zero_add, cell_at hcs]; exact c0
  · rw [Nat.zero_add, cell_at hcs]; exact c1
  · rw [Nat.zero_add, cell_at hcs]; exact c2
  · rw [Nat.zero_add, cell_at hcs]; exact c3
  · rw [Nat.zero_add, cell_at hcs]; exact c4
  · rw [Nat.zero_add, cell_at hcs]; exact c5

theorem built_start {N n : Nat} {w1 : World} {base : Nat} {xs : List Value} (d : Nat) (h : w1.ownsRow base 34 6 (.slice (some ⟨N, 0, none⟩) n n) n xs) : Built N n w1 d [] := by
  rcases h.2 with ⟨hv, _⟩ | ⟨g, c, cur, hv, _, hg, _, _, hs, _⟩
  · cases hv
  · simp only [Value.slice.injEq, Option.some.injEq, Addr.mk.injEq, and_true, true_and] at hv
    obtain ⟨rfl, rfl⟩ := hv
    exact ⟨cur, hg, hs, fun i x hi => by simp [itm] at hi⟩
end Go.Proofs.Ybulkbqeo
