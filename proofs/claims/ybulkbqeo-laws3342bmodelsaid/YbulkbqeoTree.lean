/- The operations as a tree of bounded depth; what they come to; how nodes and operations lie in memory. By an AI agent. -/
import Derived.WalkKit
import Derived.Below
namespace Go.Proofs.Ybulkbqeo
open Go Go.RowKit

/-- A tree of operations, d levels deep: kind, time, count and the body of each. -/
def Tr : Nat → Type
  | 0 => Unit
  | d + 1 => List (Int × Int × Int × Tr d)

def lim : Int := 4611686018427387904

/-- The running sum over a list of operations: 'lim + 1' once it is past 'lim'. -/
def valL {α : Type} (f : α → Int) : List (Int × Int × Int × α) → Int → Int
  | [], tot => tot
  | x :: r, tot =>
    if x.1 = 1 ∨ x.1 = 5 then (if lim < tot + x.2.1 then lim + 1 else valL f r (tot + x.2.1))
    else if x.1 = 2 then (if lim < tot + x.2.2.1 * f x.2.2.2 then lim + 1 else valL f r (tot + x.2.2.1 * f x.2.2.2))
    else if x.1 = 3 then tot
    else valL f r tot

def valF : (d : Nat) → Tr d → Int
  | 0, _ => 0
  | d + 1, t => valL (valF d) t 0

/-- An operation's own numbers are in range. -/
def Fine {α : Type} (x : Int × Int × Int × α) : Prop := 0 ≤ x.1 ∧ x.1 ≤ 255 ∧ 0 ≤ x.2.1 ∧ x.2.1 ≤ 9223372036854775807 ∧ 1 ≤ x.2.2.1 ∧ x.2.2.1 ≤ 9223372036854775807

theorem lim_pos : 0 ≤ lim := by unfold lim; omega

theorem valL_bound {α : Type} (f : α → Int) : ∀ (l : List (Int × Int × Int × α)) (tot : Int), (∀ x ∈ l, Fine x ∧ 0 ≤ f x.2.2.2) → 0 ≤ tot → tot ≤ lim → 0 ≤ valL f l tot ∧ valL f l tot ≤ lim + 1
  | [], tot, _, h0, h1 => by simp only [valL]; omega
  | x :: r, tot, hx, h0, h1 => by
    have hlim := lim_pos
    obtain ⟨⟨_, _, a3, _, a5, _⟩, hf⟩ := hx x (by simp)
    have hr : ∀ y ∈ r, Fine y ∧ 0 ≤ f y.2.2.2 := fun y hy => hx y (by simp [hy])
    have hm : 0 ≤ x.2.2.1 * f x.2.2.2 := Int.mul_nonneg (by omega) hf
    unfold valL
    split
    · split
      · omega
      · exact valL_bound f r _ hr (by omega) (by omega)
    · split
      · split
        · omega
        · exact valL_bound f r _ hr (by omega) (by omega)
      · split
        · omega
        · exact valL_bound f r _ hr h0 h1

def itm {α : Type} (l : List α) (i : Nat) : Option α := l[i]?

/-- OPERATIONS IN MEMORY: the slice u leads, in blocks from lo on and below hi, to the tree t. -/
def Ops (lo hi : Nat) (w : World) : (d : Nat) → Value → Tr d → Prop
  | 0, u, _ => u = .slice none 0 0
  | d + 1, u, t => ∃ a cap, u = .slice a (List.length t) cap ∧ List.length t ≤ 1024 ∧ ∀ (i : Nat) (x : Int × Int × Int × Tr d), itm t i = some x →
      ∃ b off body, a = some ⟨b, off, none⟩ ∧ lo ≤ b ∧ b < hi ∧ Fine x ∧ w.cell? ⟨b, off + i * 6, none⟩ = some (.int .u8 x.1) ∧ w.cell? ⟨b, off + i * 6 + 1, none⟩ = some (.int .i64 x.2.1) ∧
        w.cell? ⟨b, off + i * 6 + 2, none⟩ = some (.int .i64 x.2.2.1) ∧ w.cell? ⟨b, off + i * 6 + 3, none⟩ = some (.int .i64 0) ∧ w.cell? ⟨b, off + i * 6 + 4, none⟩ = some body ∧ w.cell? ⟨b, off + i * 6 + 5, none⟩ = some .nilIface ∧ Ops lo hi w d body x.2.2.2

theorem cell_same {w w' : World} {b o : Nat} (h : w'.heap[b]? = w.heap[b]?) : w'.cell? ⟨b, o, none⟩ = w.cell? ⟨b, o, none⟩ := World.cell?_of_block (w := w) h

theorem Ops.same {lo hi : Nat} {w w' : World} (hw : ∀ b, lo ≤ b → b < hi → w'.heap[b]? = w.heap[b]?) : ∀ (d : Nat) (u : Value) (t : Tr d), Ops lo hi w d u t → Ops lo hi w' d u t
  | 0, _, _, h => h
  | d + 1, u, t, h => by
    obtain ⟨a, cap, hu, hl, hx⟩ := h
    refine ⟨a, cap, hu, hl, fun i x hi' => ?_⟩
    obtain ⟨b, off, body, ha, h1, h2, hf, c0, c1, c2, c3, c4, c5, ho⟩ := hx i x hi'
    have e := hw b h1 h2
    exact ⟨b, off, body, ha, h1, h2, hf, (cell_same e).trans c0, (cell_same e).trans c1, (cell_same e).trans c2, (cell_same e).trans c3, (cell_same e).trans c4, (cell_same e).trans c5, Ops.same hw d body x.2.2.2 ho⟩

theorem Ops.mono {lo hi lo' hi' : Nat} {w : World} (h1 : lo' ≤ lo) (h2 : hi ≤ hi') : ∀ (d : Nat) (u : Value) (t : Tr d), Ops lo hi w d u t → Ops lo' hi' w d u t
  | 0, _, _, h => h
  | d + 1, u, t, h => by
    obtain ⟨a, cap, hu, hl, hx⟩ := h
    refine ⟨a, cap, hu, hl, fun i x hi' => ?_⟩
    obtain ⟨b, off, body, ha, g1, g2, hf, c0, c1, c2, c3, c4, c5, ho⟩ := hx i x hi'
    exact ⟨b, off, body, ha, by omega, by omega, hf, c0, c1, c2, c3, c4, c5, Ops.mono h1 h2 d body x.2.2.2 ho⟩

theorem Ops.val {lo hi : Nat} {w : World} : ∀ (d : Nat) (u : Value) (t : Tr d), Ops lo hi w d u t → 0 ≤ valF d t ∧ valF d t ≤ lim + 1
  | 0, _, _, _ => by have := lim_pos; simp only [valF]; omega
  | d + 1, u, t, h => by
    obtain ⟨a, cap, hu, hl, hx⟩ := h
    refine valL_bound (valF d) t 0 (fun x hm => ?_) (Int.le_refl _) lim_pos
    obtain ⟨i, hi', he⟩ := List.getElem_of_mem hm
    obtain ⟨b, off, body, _, _, _, hf, _, _, _, _, _, _, ho⟩ := hx i x (by unfold itm; rw [List.getElem?_eq_getElem hi', he])
    exact ⟨hf, (Ops.val d body x.2.2.2 ho).1⟩

/-- NODES IN MEMORY: the slice v leads, in blocks below B, to nodes whose lists are at most M long, d levels of bodies below it. -/
def Nodes (M B : Nat) (w : World) : Nat → Value → Prop
  | 0, v => ∃ a n cap, v = .slice a n cap ∧ n ≤ M ∧ ∀ i, i < n → ∃ b off kd us ct body, a = some ⟨b, off, none⟩ ∧ b < B ∧ 0 ≤ kd ∧ kd ≤ 255 ∧ (Lit.int .i64 us).wf = true ∧ (Lit.int .i64 ct).wf = true ∧ w.cell? ⟨b, off + i * 4, none⟩ = some (.int .u8 kd) ∧
      w.cell? ⟨b, off + i * 4 + 1, none⟩ = some (.int .i64 us) ∧ w.cell? ⟨b, off + i * 4 + 2, none⟩ = some (.int .i64 ct) ∧ w.cell? ⟨b, off + i * 4 + 3, none⟩ = some body
  | d + 1, v => ∃ a n cap, v = .slice a n cap ∧ n ≤ M ∧ ∀ i, i < n → ∃ b off kd us ct body, a = some ⟨b, off, none⟩ ∧ b < B ∧ 0 ≤ kd ∧ kd ≤ 255 ∧ (Lit.int .i64 us).wf = true ∧ (Lit.int .i64 ct).wf = true ∧ w.cell? ⟨b, off + i * 4, none⟩ = some (.int .u8 kd) ∧
      w.cell? ⟨b, off + i * 4 + 1, none⟩ = some (.int .i64 us) ∧ w.cell? ⟨b, off + i * 4 + 2, none⟩ = some (.int .i64 ct) ∧ w.cell? ⟨b, off + i * 4 + 3, none⟩ = some body ∧ Nodes M B w d body

theorem Nodes.below {M B : Nat} {w w' : World} (hw : Below B w w') : ∀ (d : Nat) (v : Value), Nodes M B w d v → Nodes M B w' d v
  | 0, v, h => by
    obtain ⟨a, n, cap, hv, hn, hx⟩ := h
    refine ⟨a, n, cap, hv, hn, fun i hi => ?_⟩
    obtain ⟨b, off, kd, us, ct, body, ha, hb, k0, k1, u1, t1, c0, c1, c2, c3⟩ := hx i hi
    have e := hw.block b hb
    exact ⟨b, off, kd, us, ct, body, ha, hb, k0, k1, u1, t1, (cell_same e).trans c0, (cell_same e).trans c1, (cell_same e).trans c2, (cell_same e).trans c3⟩
  | d + 1, v, h => by
    obtain ⟨a, n, cap, hv, hn, hx⟩ := h
    refine ⟨a, n, cap, hv, hn, fun i hi => ?_⟩
    obtain ⟨b, off, kd, us, ct, body, ha, hb, k0, k1, u1, t1, c0, c1, c2, c3, ho⟩ := hx i hi
    have e := hw.block b hb
    exact ⟨b, off, kd, us, ct, body, ha, hb, k0, k1, u1, t1, (cell_same e).trans c0, (cell_same e).trans c1, (cell_same e).trans c2, (cell_same e).trans c3, Nodes.below hw d body ho⟩
end Go.Proofs.Ybulkbqeo
