/- The ring of runq in memory; pop. By an AI agent. -/
import Derived.Test.YbulkbqeoFmtRows
import Derived.WalkKit
import Derived.WalkLawsBesides
import Derived.BigQuiet
import Derived.BigRegion
import Derived.Below
namespace Go.Proofs.YbulkbqeoFmt
open Go Go.RowKit

theorem hide {p : Prop} (h : p) : Hid p := h
theorem cell_at {w : World} {b : Nat} {cs : Array Value} {t : TypeId} {fr : Nat × Nat} (h : w.heap[b]? = some (.cells cs t fr)) (i : Nat) : w.cell? ⟨b, i, none⟩ = cs[i]? := cell_of_row w b i cs t fr h
theorem frozen_at {w : World} {b : Nat} {cs : Array Value} {t : TypeId} (h : w.heap[b]? = some (.cells cs t (0, 0))) (i : Nat) : w.frozen? ⟨b, i, none⟩ = false := frozen_of_row w b i cs t h
theorem heap_setCell_at {w : World} {b i : Nat} {cs : Array Value} {t : TypeId} {fr : Nat × Nat} (h : w.heap[b]? = some (.cells cs t fr)) (u : Value) :
    (w.setCell ⟨b, i, none⟩ u).heap[b]? = some (.cells (cs.setIfInBounds i u) t fr) := by
  simp [World.setCell, Array.getElem?_modify, h]

theorem below_drewN' {B : Nat} {a w : World} (h : Below B a w) (n : Nat) : Below B a (w.drewN n) := h.trans ⟨rfl, rfl, rfl, Nat.le_refl _, fun _ _ => rfl⟩
/-- What a call keeps: all blocks that stood, but for those of D. -/
def Kept (D : Nat → Prop) (w w' : World) : Prop := Below 0 w w' ∧ ∀ b, b < w.heap.size → ¬ D b → w'.heap[b]? = w.heap[b]?

/-- A RING IN MEMORY: its slots' slice sl (in block rb), its head h, its elements xs from the head on. -/
def Ring (w : World) (rb : Option Nat) (sl : Value) (h : Nat) (xs : List Addr) : Prop :=
  (rb = none ∧ sl = .slice none 0 0 ∧ h = 0 ∧ xs = []) ∨
  ∃ B L cs, rb = some B ∧ sl = .slice (some ⟨B, 0, none⟩) L L ∧ w.heap[B]? = some (.cells cs 57 (0, 0)) ∧ cs.size = L ∧ 0 < L ∧ L ≤ 4096 ∧ h < L ∧ xs.length ≤ L ∧
    ∀ j x, xs[j]? = some x → cs[(h + j) % L]? = some (.pointer (some x))

theorem pop_empty {C o : Nat} (w : World) (h2 : w.cell? ⟨C, o + 2, none⟩ = some (.int .i64 0)) :
    Calls Ybaf.prog 15 #[.pointer (some ⟨C, o, none⟩)] w fun e w' => e = .returned (.tuple #[.pointer none, .bool false]) ∧ w' = w := by
  go_enter Ybaf.func15, Ybaf.ntmps15
  go_wp2
  go_ret2
  exact ⟨rfl, rfl⟩

set_option maxRecDepth 100000 in
set_option maxHeartbeats 1000000 in
theorem pop_walk {C o B L : Nat} (h n : Nat) (x : Addr) (w : World) (hn : 0 < n) (hn2 : n ≤ 4096) (hh : h < L) (hL : L ≤ 4096) (hCB : C ≠ B)
    (c0 : w.cell? ⟨C, o, none⟩ = some (.slice (some ⟨B, 0, none⟩) L L)) (c1 : w.cell? ⟨C, o + 1, none⟩ = some (.int .i64 h)) (c2 : w.cell? ⟨C, o + 2, none⟩ = some (.int .i64 n))
    (fz : ∀ j, w.frozen? ⟨C, j, none⟩ = false) (fb : ∀ j, w.frozen? ⟨B, j, none⟩ = false) (cb : w.cell? ⟨B, h, none⟩ = some (.pointer (some x))) :
    Calls Ybaf.prog 15 #[.pointer (some ⟨C, o, none⟩)] w fun e w' => e = .returned (.tuple #[.pointer (some x), .bool true]) ∧
      w'.heap = ((((w.setCell ⟨B, h, none⟩ (.pointer none)).setCell ⟨C, o + 1, none⟩ (.int .i64 (((h + 1) % L : Nat) : Int))).setCell ⟨C, o + 2, none⟩ (.int .i64 ((n - 1 : Nat) : Int)))).heap ∧ Below 0 w w' := by
  have hne : (n : Int) ≠ 0 := by omega
  have i1 : (0 : Int) ≤ (h : Int) := by omega
  have i2 : (h : Int) < (L : Int) := by omega
  have hL0 : ((L : Int) == 0) = false := by simp; omega
  have hL1 : ¬ (L : Int) = 0 := by omega
  have hrem : (((h : Int) + 1)).tmod (L : Int) = (((h + 1) % L : Nat) : Int) := rfl
  have n1 : ((n : Int) == 0) = false := by simp; omega
  go_enter Ybaf.func15, Ybaf.ntmps15
  go_wp2
  go_quiet (fail)
  go_wp2
  go_region
  go_wp2
  go_region
  go_wp2
  go_ret2
  have e1 : ((h : Int) + 1) % (L : Int) = (((h + 1) % L : Nat) : Int) := rfl
  have e2 : (n : Int) - 1 = ((n - 1 : Nat) : Int) := by omega
  rw [e1, e2]
  exact ⟨rfl, rfl, ((((below_drewN' (Below.refl 0 w) _).setCell (Nat.zero_le _) _).setCell (Nat.zero_le _) _).setCell (Nat.zero_le _) _).drew⟩

/-- ring.pop at a ring that holds x and then r. -/
theorem pop_any {C o h : Nat} {t : TypeId} {cc : Array Value} {rb : Option Nat} {sl : Value} {x : Addr} {r : List Addr} (w : World) (hC : w.heap[C]? = some (.cells cc t (0, 0)))
    (h0 : cc[o]? = some sl) (h1 : cc[o + 1]? = some (.int .i64 h)) (h2 : cc[o + 2]? = some (.int .i64 ((r.length + 1 : Nat) : Int))) (hr : Ring w rb sl h (x :: r)) (hCB : rb ≠ some C) :
    Calls Ybaf.prog 15 #[.pointer (some ⟨C, o, none⟩)] w fun e w' => e = .returned (.tuple #[.pointer (some x), .bool true]) ∧
      ∃ h' : Nat, Ring w' rb sl h' r ∧ w'.heap[C]? = some (.cells ((cc.setIfInBounds (o + 1) (.int .i64 h')).setIfInBounds (o + 2) (.int .i64 r.length)) t (0, 0)) ∧ Kept (fun b => b = C ∨ rb = some b) w w' := by
  rcases hr with ⟨_, _, _, hx⟩ | ⟨B, L, cs, rfl, rfl, hB, hsz, hL0, hL, hh, hlen, hx⟩
  · cases hx
  have hne : C ≠ B := fun e => hCB (by rw [e])
  simp only [List.length_cons] at hlen
  have x0 := hx 0 x rfl
  rw [Nat.add_zero, Nat.mod_eq_of_lt hh] at x0
  refine (pop_walk h (r.length + 1) x w (by omega) (by omega) hh hL hne ((cell_at hC o).trans h0) ((cell_at hC (o + 1)).trans h1) ((cell_at hC (o + 2)).trans h2) (frozen_at hC) (frozen_at hB) ((cell_at hB h).trans x0)).mono ?_
  rintro e w' ⟨rfl, hw, hbl⟩
  refine ⟨rfl, (h + 1) % L, Or.inr ⟨B, L, cs.setIfInBounds h (.pointer none), rfl, rfl, ?_, by simpa using hsz, hL0, hL, Nat.mod_lt _ hL0, by omega, fun j y hy => ?_⟩, ?_, hbl, fun b hb hD => ?_⟩
  · rw [hw, Below.heap_setCell _ _ _ _ (Ne.symm hne), Below.heap_setCell _ _ _ _ (Ne.symm hne)]
    exact heap_setCell_at hB _
  · have hj : j < r.length := (List.getElem?_eq_some_iff.1 hy).1
    have := hx (j + 1) y (by simpa using hy)
    have e1 : ((h + 1) % L + j) % L = (h + (j + 1)) % L := by rw [Nat.mod_add_mod]; congr 1; omega
    rw [e1, Array.getElem?_setIfInBounds_ne ?_]
    · exact this
    · intro e2
      have hd : (h + (j + 1)) % L = h := e2.symm
      rcases Nat.lt_or_ge (h + (j + 1)) L with hlt | hge
      · rw [Nat.mod_eq_of_lt hlt] at hd; omega
      · rw [Nat.mod_eq_sub_mod hge, Nat.mod_eq_of_lt (by omega)] at hd; omega
  · rw [hw]
    have e3 : (w.setCell ⟨B, h, none⟩ (.pointer none)).heap[C]? = some (.cells cc t (0, 0)) := by rw [Below.heap_setCell _ _ _ _ hne]; exact hC
    exact heap_setCell_at (heap_setCell_at e3 _) _
  · have hbC : b ≠ C := fun e => hD (Or.inl e)
    have hbB : b ≠ B := fun e => hD (Or.inr (by rw [e]))
    rw [hw, Below.heap_setCell _ _ _ _ hbC, Below.heap_setCell _ _ _ _ hbC, Below.heap_setCell _ _ _ _ hbB]

set_option maxRecDepth 100000 in
/-- Queue.Pop. -/
theorem Pop_any {C o h : Nat} {t : TypeId} {cc : Array Value} {rb : Option Nat} {sl : Value} {x : Addr} {r : List Addr} (w : World) (hC : w.heap[C]? = some (.cells cc t (0, 0)))
    (h0 : cc[o]? = some sl) (h1 : cc[o + 1]? = some (.int .i64 h)) (h2 : cc[o + 2]? = some (.int .i64 ((r.length + 1 : Nat) : Int))) (hr : Ring w rb sl h (x :: r)) (hCB : rb ≠ some C) :
    Calls Ybaf.prog 11 #[.pointer (some ⟨C, o, none⟩)] w fun e w' => e = .returned (.tuple #[.pointer (some x), .bool true]) ∧
      ∃ h' : Nat, Ring w' rb sl h' r ∧ w'.heap[C]? = some (.cells ((cc.setIfInBounds (o + 1) (.int .i64 h')).setIfInBounds (o + 2) (.int .i64 r.length)) t (0, 0)) ∧ Kept (fun b => b = C ∨ rb = some b) w w' := by
  have hp := hide (pop_any w hC h0 h1 h2 hr hCB)
  clear hC h0 h1 h2 hr hCB
  go_enter Ybaf.func11, Ybaf.ntmps11
  go_wp2_with (go_at_call 15; refine hp.out.mono ?_; rintro e w' ⟨rfl, hq⟩)
  go_ret2
  exact ⟨rfl, hq⟩

set_option maxRecDepth 100000 in
theorem Pop_empty {C o : Nat} (w : World) (h2 : w.cell? ⟨C, o + 2, none⟩ = some (.int .i64 0)) :
    Calls Ybaf.prog 11 #[.pointer (some ⟨C, o, none⟩)] w fun e w' => e = .returned (.tuple #[.pointer none, .bool false]) ∧ w' = w := by
  go_enter Ybaf.func11, Ybaf.ntmps11
  go_wp2_with (go_at_call 15; refine (pop_empty (C := C) (o := o) w h2).mono ?_; rintro e w' ⟨rfl, rfl⟩)
  go_ret2
  exact ⟨rfl, rfl⟩
end Go.Proofs.YbulkbqeoFmt
