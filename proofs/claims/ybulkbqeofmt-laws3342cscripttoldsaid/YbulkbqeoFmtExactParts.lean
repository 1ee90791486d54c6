/- Small parts of LawS3342CExact. By an AI agent. -/
import Derived.Test.YbulkbqeoFmtFin
namespace Go.Proofs.YbulkbqeoFmt
open Go Go.RowKit
theorem Holds.drewN {w : World} {v : Value} {xs : List Addr} (h : Holds w v xs) (q : Nat) : Holds (w.drewN q) v xs := h
theorem own_holds {w : World} {base n : Nat} {v : Value} {xs : List Addr} (h : w.ownsRow base 57 1 v n (ptrs xs)) (hn : n = xs.length) : Holds w v xs := by
  subst hn
  rcases h.2 with ⟨rfl, h0⟩ | ⟨g, cap, cur, rfl, _, hg, _, _, hs, ht⟩
  · obtain rfl : xs = [] := List.eq_nil_of_length_eq_zero h0
    exact ⟨none, 0, rfl, fun j x hx => by simp at hx⟩
  · refine ⟨_, cap, rfl, fun j x hx => ⟨g, 0, rfl, ?_⟩⟩
    have hj := (List.getElem?_eq_some_iff.1 hx).1
    rw [Nat.zero_add, cell_at hg]
    have e : (cur.toList.take (xs.length * 1))[j]? = (ptrs xs)[j]? := by rw [ht]
    rw [List.getElem?_take, if_pos (by omega)] at e
    rw [← Array.getElem?_toList, e]
    simp [ptrs, hx]
theorem want_end {W7 w8 w9 : World} {o o2 : Obj} {v8 : Value} {g9 cap9 qq : Nat} {ss : List Addr} {me : Addr} (hg8 : (W7.alloc o).grownBy w8 (some W7.heap.size)) (hat8 : v8.ownBlock = some W7.heap.size ∨ v8.ownBlock = some (W7.alloc o).heap.size)
    (hg9 : (w8.alloc o2).grownBy w9 v8.ownBlock) (hown9 : w9.ownsRow W7.heap.size 57 1 (.slice (some ⟨g9, 0, none⟩) (qq + 1) cap9) (qq + 1) (ptrs ss ++ [.pointer (some me)])) (hq : ss.length = qq) :
    (∀ b, b < W7.heap.size → w9.heap[b]? = W7.heap[b]?) ∧ (∀ w, Below w.heap.size w W7 → Below w.heap.size w w9) ∧ Holds w9 (.slice (some ⟨g9, 0, none⟩) (qq + 1) cap9) (ss ++ [me]) := by
  have s1 := alloc_size W7 o
  have s2 := hg8.size
  have s3 := alloc_size w8 o2
  have s4 := hg9.size
  have old : ∀ b, b < W7.heap.size → w9.heap[b]? = W7.heap[b]? := fun b hb => by
    rw [hg9.block b (by omega) (fun e => by
      rcases hat8 with h | h
      · rw [h] at e
        have := Option.some.inj e
        omega
      · rw [h] at e
        have := Option.some.inj e
        omega), Below.heap_alloc _ _ _ (by omega), hg8.block b (by omega) (fun e => by
      have := Option.some.inj e
      omega), Below.heap_alloc _ _ _ hb]
  refine ⟨old, fun w hb => ⟨hg9.os.trans (hg8.os.trans hb.os), hg9.tape.trans (hg8.tape.trans hb.tape), hg9.output.trans (hg8.output.trans hb.output), by have := hb.size; omega, fun b h => (old b (Nat.lt_of_lt_of_le h hb.size)).trans (hb.block b h)⟩, ?_⟩
  exact own_holds (by rw [show ptrs (ss ++ [me]) = ptrs ss ++ [.pointer (some me)] by simp [ptrs]]; exact hown9) (by simp [hq])
end Go.Proofs.YbulkbqeoFmt
