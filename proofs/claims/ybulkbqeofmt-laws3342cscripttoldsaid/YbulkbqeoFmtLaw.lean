/- The state of LawS3342CExact. By an AI agent. -/
import Derived.Test.YbulkbqeoFmtSend
namespace Go.Proofs.YbulkbqeoFmt
open Go Go.RowKit
/-- Each of xs is a G of its own block, numbered from base on. -/
def Gs (w : World) (base : Int) (xs : List Addr) : Prop := ∀ (j : Nat) (x : Addr), xs[j]? = some x → ∃ b, x = ⟨b, 0, none⟩ ∧ GSt w b ((j : Int) + base)
/-- A row of n pointers that begins with xs. -/
def Row (w : World) (V n : Nat) (xs : List Addr) : Prop := ∃ cs, w.heap[V]? = some (.cells cs 57 (0, 0)) ∧ cs.size = n ∧ ∀ (j : Nat) (x : Addr), xs[j]? = some x → cs[j]? = some (Value.pointer (some x))

structure Law (w wr : World) (S R PP ME MP C : Nat) (now pid mid gid cap items : Int) (nm : ByteArray) (sb rb : Option Nat) (ss rs : List Addr) : Prop where
  run : RunSt wr R S now
  evs : Evs wr S none 0 []
  p : PSt wr PP pid (.pointer none)
  me : GSt wr ME gid
  m : MSt wr MP PP (.pointer (some ⟨ME, 0, none⟩)) mid
  c : CSt wr C nm cap items sb rb ss rs
  below : Below w.heap.size w wr
  up : w.heap.size ≤ S ∧ w.heap.size ≤ PP ∧ w.heap.size ≤ MP ∧ w.heap.size ≤ C ∧ ∀ b, sb = some b ∨ rb = some b → w.heap.size ≤ b

theorem Gs.same {w w' : World} {base : Int} {xs : List Addr} (h : Gs w base xs) (hw : ∀ b, Ty w b 65 → w'.heap[b]? = w.heap[b]?) : Gs w' base xs := by
  intro j x hx
  obtain ⟨b, rfl, hg⟩ := h j x hx
  exact ⟨b, rfl, hg.same (hw b hg.ty)⟩
theorem Row.same {w w' : World} {V n : Nat} {xs : List Addr} (h : Row w V n xs) (hw : w'.heap[V]? = w.heap[V]?) : Row w' V n xs := by
  obtain ⟨cs, h1, h2⟩ := h
  exact ⟨cs, hw.trans h1, h2⟩
theorem Row.holds {w : World} {V : Nat} {xs : List Addr} (h : Row w V xs.length xs) : Holds w (.slice (some ⟨V, 0, none⟩) xs.length xs.length) xs := by
  obtain ⟨cs, h1, h2, h3⟩ := h
  exact ⟨_, _, rfl, fun j x hx => ⟨V, 0, rfl, by rw [Nat.zero_add]; exact (cell_at h1 j).trans (h3 j x hx)⟩⟩
theorem Row.tail {w : World} {V : Nat} {x : Addr} {xs : List Addr} (h : Row w V (xs.length + 1) (x :: xs)) (c : Nat) : Holds w (.slice (some ⟨V, 1, none⟩) xs.length c) xs := by
  obtain ⟨cs, h1, h2, h3⟩ := h
  exact ⟨_, _, rfl, fun j y hy => ⟨V, 1, rfl, by rw [cell_at h1, Nat.add_comm]; exact h3 (j + 1) y (by simpa using hy)⟩⟩
theorem Mine.holds {w : World} {lo : Nat} {v : Value} {xs : List Addr} (h : Mine w lo v xs) : Holds w v xs := by
  obtain ⟨h1, _⟩ := h
  rcases h1.2 with ⟨rfl, h0⟩ | ⟨g, cap, cur, rfl, _, hg, _, _, hs, ht⟩
  · obtain rfl : xs = [] := List.eq_nil_of_length_eq_zero h0
    exact ⟨none, 0, rfl, fun j x hx => by simp at hx⟩
  · refine ⟨_, cap, rfl, fun j x hx => ⟨g, 0, rfl, ?_⟩⟩
    have hj := (List.getElem?_eq_some_iff.1 hx).1
    rw [Nat.zero_add, cell_at hg]
    have e : (cur.toList.take (xs.length * 1))[j]? = (ptrs xs)[j]? := by rw [ht]
    rw [List.getElem?_take, if_pos (by omega)] at e
    rw [← Array.getElem?_toList, e]
    simp [ptrs, hx]

theorem alloc_size (w : World) (o : Obj) : (w.alloc o).heap.size = w.heap.size + 1 := by
  show (w.heap.push o).size = _
  rw [Array.size_push]
theorem chain_get (w : World) (o1 o2 o3 o4 o5 o6 : Obj) :
    ((((((w.alloc o1).alloc o2).alloc o3).alloc o4).alloc o5).alloc o6).heap[w.heap.size]? = some o1 ∧ ((((((w.alloc o1).alloc o2).alloc o3).alloc o4).alloc o5).alloc o6).heap[w.heap.size + 1]? = some o2 ∧
    ((((((w.alloc o1).alloc o2).alloc o3).alloc o4).alloc o5).alloc o6).heap[w.heap.size + 1 + 1]? = some o3 ∧ ((((((w.alloc o1).alloc o2).alloc o3).alloc o4).alloc o5).alloc o6).heap[w.heap.size + 1 + 1 + 1]? = some o4 ∧
    ((((((w.alloc o1).alloc o2).alloc o3).alloc o4).alloc o5).alloc o6).heap[w.heap.size + 1 + 1 + 1 + 1]? = some o5 ∧ ((((((w.alloc o1).alloc o2).alloc o3).alloc o4).alloc o5).alloc o6).heap[w.heap.size + 1 + 1 + 1 + 1 + 1]? = some o6 ∧
    ((((((w.alloc o1).alloc o2).alloc o3).alloc o4).alloc o5).alloc o6).heap.size = w.heap.size + 6 ∧ Below w.heap.size w ((((((w.alloc o1).alloc o2).alloc o3).alloc o4).alloc o5).alloc o6) := by
  have s1 := alloc_size w o1
  have s2 := alloc_size (w.alloc o1) o2
  have s3 := alloc_size ((w.alloc o1).alloc o2) o3
  have s4 := alloc_size (((w.alloc o1).alloc o2).alloc o3) o4
  have s5 := alloc_size ((((w.alloc o1).alloc o2).alloc o3).alloc o4) o5
  have s6 := alloc_size (((((w.alloc o1).alloc o2).alloc o3).alloc o4).alloc o5) o6
  refine ⟨?_, ?_, ?_, ?_, ?_, ?_, by omega, ?_⟩
  · rw [Below.heap_alloc _ _ _ (by omega), Below.heap_alloc _ _ _ (by omega), Below.heap_alloc _ _ _ (by omega), Below.heap_alloc _ _ _ (by omega), Below.heap_alloc _ _ _ (by omega)]; exact heap_alloc_new _ _
  · rw [Below.heap_alloc _ _ _ (by omega), Below.heap_alloc _ _ _ (by omega), Below.heap_alloc _ _ _ (by omega), Below.heap_alloc _ _ _ (by omega), ← s1]; exact heap_alloc_new _ _
  · rw [Below.heap_alloc _ _ _ (by omega), Below.heap_alloc _ _ _ (by omega), Below.heap_alloc _ _ _ (by omega), ← s1, ← s2]; exact heap_alloc_new _ _
  · rw [Below.heap_alloc _ _ _ (by omega), Below.heap_alloc _ _ _ (by omega), ← s1, ← s2, ← s3]; exact heap_alloc_new _ _
  · rw [Below.heap_alloc _ _ _ (by omega), ← s1, ← s2, ← s3, ← s4]; exact heap_alloc_new _ _
  · rw [← s1, ← s2, ← s3, ← s4, ← s5]; exact heap_alloc_new _ _
  · exact ((((((Below.refl _ w).alloc (Nat.le_refl _) _).alloc (by omega) _).alloc (by omega) _).alloc (by omega) _).alloc (by omega) _).alloc (by omega) _

set_option maxRecDepth 100000 in
set_option maxHeartbeats 1000000 in
theorem start_law {w w1 : World} {now pid mid gid cap items : Int} {nm : ByteArray} {o1 o2 o3 o4 o5 o6 : Obj} (hg : ((((((w.alloc o1).alloc o2).alloc o3).alloc o4).alloc o5).alloc o6).grownBy w1 none)
    (e1 : o1 = .cells #[.slice none 0 0] 25) (e2 : ∃ a b c d e f g h i j k l m n o p q, o2 = .cells #[.iface 22 (.pointer (some ⟨w.heap.size, 0, none⟩)), .int .i64 now, a, b, c, d, e, f, g, .slice none 0 0, h, i, j, k, l, m, n, o, p, q, .nilIface] 52)
    (e3 : ∃ a b c d e f g h, o3 = .cells #[.int .i64 pid, .pointer none, a, b, c, d, e, f, g, .pointer none, h] 60) (e4 : ∃ a b c, o4 = .cells #[.int .i64 gid, a, b, c] 65)
    (e5 : ∃ a b, o5 = .cells #[.int .i64 mid, .pointer (some ⟨w.heap.size + 1 + 1, 0, none⟩), .pointer (some ⟨w.heap.size + 1 + 1 + 1, 0, none⟩), a, b] 67)
    (e6 : o6 = .cells #[.string nm, .int .i64 cap, .int .i64 items, .slice none 0 0, .int .i64 0, .int .i64 0, .slice none 0 0, .int .i64 0, .int .i64 0] 70) :
    Law w w1 w.heap.size (w.heap.size + 1) (w.heap.size + 1 + 1) (w.heap.size + 1 + 1 + 1) (w.heap.size + 1 + 1 + 1 + 1) (w.heap.size + 1 + 1 + 1 + 1 + 1) now pid mid gid cap items nm none none [] [] ∧ w.heap.size + 6 ≤ w1.heap.size := by
  obtain ⟨a, b, c, d, e, f, g, h, i, j, k, l, m, n, o, p, q, rfl⟩ := e2
  obtain ⟨a', b', c', d', e', f', g', h', rfl⟩ := e3
  obtain ⟨a2, b2, c2, rfl⟩ := e4
  obtain ⟨a3, b3, rfl⟩ := e5
  subst e1 e6
  obtain ⟨k1, k2, k3, k4, k5, k6, k7, k8⟩ := chain_get w (.cells #[.slice none 0 0] 25) (.cells #[.iface 22 (.pointer (some ⟨w.heap.size, 0, none⟩)), .int .i64 now, a, b, c, d, e, f, g, .slice none 0 0, h, i, j, k, l, m, n, o, p, q, .nilIface] 52)
    (.cells #[.int .i64 pid, .pointer none, a', b', c', d', e', f', g', .pointer none, h'] 60) (.cells #[.int .i64 gid, a2, b2, c2] 65) (.cells #[.int .i64 mid, .pointer (some ⟨w.heap.size + 1 + 1, 0, none⟩), .pointer (some ⟨w.heap.size + 1 + 1 + 1, 0, none⟩), a3, b3] 67)
    (.cells #[.string nm, .int .i64 cap, .int .i64 items, .slice none 0 0, .int .i64 0, .int .i64 0, .slice none 0 0, .int .i64 0, .int .i64 0] 70)
  have go : ∀ b ob, _ = some ob → w1.heap[b]? = some ob := fun b ob hb => (hg.block b (block_lt hb) (fun e => by cases e)).trans hb
  have hs := hg.size
  refine ⟨⟨⟨_, go _ _ k2, rfl, rfl, rfl, rfl⟩, ⟨_, go _ _ k1, ⟨rfl, Or.inl ⟨rfl, rfl⟩⟩, rfl⟩, ⟨_, go _ _ k3, rfl, rfl, rfl⟩, ⟨_, go _ _ k4, rfl⟩, ⟨_, go _ _ k5, rfl, rfl, rfl⟩, ⟨_, _, 0, 0, go _ _ k6, Or.inl ⟨rfl, rfl, rfl, rfl⟩, Or.inl ⟨rfl, rfl, rfl, rfl⟩, fun b hb => by cases hb⟩, ?_, ⟨Nat.le_refl _, by omega, by omega, by omega, fun b hb => by rcases hb with h | h <;> cases h⟩⟩, by omega⟩
  exact k8.grown hg (by omega) (fun k hk => by cases hk)
end Go.Proofs.YbulkbqeoFmt
