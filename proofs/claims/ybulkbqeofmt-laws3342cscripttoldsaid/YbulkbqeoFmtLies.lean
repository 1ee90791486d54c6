/- A slice of pointers that was cut and appended to, in a block of its own. By an AI agent. -/
import Derived.Test.YbulkbqeoFmtExactParts
import Derived.ArgAppend
namespace Go.Proofs.YbulkbqeoFmt
open Go Go.RowKit

/-- xs lies in v: nil, or a part of the block qb. -/
def Lies (w : World) (v : Value) (xs : List Addr) (qb : Option Nat) : Prop :=
  (v = .slice none 0 0 ∧ xs = [] ∧ qb = none) ∨
  ∃ g off cap cs, v = .slice (some ⟨g, off, none⟩) xs.length cap ∧ qb = some g ∧ w.heap[g]? = some (.cells cs 57 (0, 0)) ∧ xs.length ≤ cap ∧ off + cap ≤ cs.size ∧ ∀ (j : Nat) (x : Addr), xs[j]? = some x → cs[off + j]? = some (Value.pointer (some x))

theorem Lies.same {w w' : World} {v : Value} {xs : List Addr} {qb : Option Nat} (h : Lies w v xs qb) (hw : ∀ b, qb = some b → w'.heap[b]? = w.heap[b]?) : Lies w' v xs qb := by
  rcases h with h0 | ⟨g, off, cap, cs, rfl, rfl, hg, rest⟩
  · exact Or.inl h0
  · exact Or.inr ⟨g, off, cap, cs, rfl, rfl, (hw g rfl).trans hg, rest⟩
theorem Lies.ty {w : World} {v : Value} {xs : List Addr} {qb : Option Nat} (h : Lies w v xs qb) : ∀ b, qb = some b → Ty w b 57 := by
  rcases h with ⟨_, _, rfl⟩ | ⟨g, off, cap, cs, rfl, rfl, hg, rest⟩
  · intro b hb; cases hb
  · intro b hb; cases hb; exact ⟨cs, hg⟩
theorem Lies.form {w : World} {v : Value} {xs : List Addr} {qb : Option Nat} (h : Lies w v xs qb) : ∃ a cap, v = .slice a xs.length cap := by
  rcases h with ⟨rfl, rfl, rfl⟩ | ⟨g, off, cap, cs, rfl, rfl, hg, rest⟩
  · exact ⟨none, 0, rfl⟩
  · exact ⟨_, cap, rfl⟩
theorem Lies.holds {w : World} {v : Value} {xs : List Addr} {qb : Option Nat} (h : Lies w v xs qb) : Holds w v xs := by
  rcases h with ⟨rfl, rfl, rfl⟩ | ⟨g, off, cap, cs, rfl, rfl, hg, _, _, hx⟩
  · exact ⟨none, 0, rfl, fun j x hx => by simp at hx⟩
  · exact ⟨_, cap, rfl, fun j x hj => ⟨g, off, rfl, (cell_at hg _).trans (hx j x hj)⟩⟩
/-- The first and the cut. -/
theorem Lies.first {w : World} {v : Value} {x : Addr} {xs : List Addr} {qb : Option Nat} (h : Lies w v (x :: xs) qb) : ∃ g off cap, v = .slice (some ⟨g, off, none⟩) (xs.length + 1) cap ∧ w.cell? ⟨g, off, none⟩ = some (.pointer (some x)) ∧ xs.length + 1 ≤ cap ∧
    Lies w (.slice (some ⟨g, off + 1, none⟩) xs.length (cap - 1)) xs qb ∧ (cap = 1 → Lies w (.slice (some ⟨g, off, none⟩) 0 0) xs qb) := by
  rcases h with ⟨_, h0, _⟩ | ⟨g, off, cap, cs, rfl, rfl, hg, h1, h2, hx⟩
  · cases h0
  simp only [List.length_cons] at h1
  refine ⟨g, off, cap, rfl, (cell_at hg _).trans (hx 0 x rfl), h1, Or.inr ⟨g, off + 1, cap - 1, cs, rfl, rfl, hg, by omega, by omega, fun j y hy => ?_⟩, fun hc => ?_⟩
  · rw [show off + 1 + j = off + (j + 1) by omega]
    exact hx (j + 1) y (by simpa using hy)
  · obtain rfl : xs = [] := List.eq_nil_of_length_eq_zero (by omega)
    exact Or.inr ⟨g, off, 0, cs, rfl, rfl, hg, Nat.le_refl _, by omega, fun j y hy => by simp at hy⟩

/-- append(v, x). -/
theorem run_append_cut {w : World} {v : Value} {xs : List Addr} {qb : Option Nat} (h : Lies w v xs qb) (ty : TypeId) (hl : xs.length ≤ 2000) (ad : Addr) (x : Addr) (hx : w.cell? ad = some (.pointer (some x))) (hp : ad.spot = none) :
    ∃ v' w' qb', (Builtin.append_ #[30, 30] ty #[v, .slice (some ad) 1 1]).run Ybaf.prog w = .ok v' w' ∧ Lies w' v' (xs ++ [x]) qb' ∧ (qb' = qb ∨ ∃ b, qb' = some b ∧ w.heap.size ≤ b) ∧ Kept (fun b => qb = some b) w w' := by
  obtain ⟨i0, hi, hz0, hz1, hz2⟩ := info_parts Ybaf.info57
  have hc : ∀ (j : Nat) (u : Value), [Value.pointer (some x)][j]? = some u → w.cell? (ad.add j) = some u := fun j u hu => by
    cases j with
    | zero =>
      obtain rfl : Value.pointer (some x) = u := by simpa using hu
      obtain ⟨b, o, s⟩ := ad
      subst hp
      rw [add_plain, Nat.add_zero]
      exact hx
    | succ j => simp at hu
  have one : ∀ u ∈ [Value.pointer (some x)], u.oneCell' = true := fun u hu => by
    obtain rfl : u = Value.pointer (some x) := by simpa using hu
    rfl
  have new : ∀ (w' : World) (v' : Value), w'.ownsRow w.heap.size 57 1 v' (xs.length + 1) (ptrs xs ++ [Value.pointer (some x)]) → w.grownBy w' none →
      Lies w' v' (xs ++ [x]) v'.ownBlock ∧ (v'.ownBlock = qb ∨ ∃ b, v'.ownBlock = some b ∧ w.heap.size ≤ b) ∧ Kept (fun b => qb = some b) w w' := fun w' v' ho hg => by
    rcases ho.2 with ⟨_, h0⟩ | ⟨g, cap, cur, rfl, hb, hgc, h1, h2, h3, h4⟩
    · omega
    refine ⟨Or.inr ⟨g, 0, cap, cur, by rw [List.length_append]; rfl, rfl, hgc, by rw [List.length_append]; exact h1, by omega, fun j y hy => ?_⟩, Or.inr ⟨g, rfl, hb⟩, ⟨hg.os, hg.tape, hg.output, hg.size, fun k hk => absurd hk (Nat.not_lt_zero _)⟩, fun b hb hD => hg.block b hb (fun e => by cases e)⟩
    have hj := (List.getElem?_eq_some_iff.1 hy).1
    rw [List.length_append, List.length_singleton] at hj
    have e : (cur.toList.take ((xs.length + 1) * 1))[j]? = (ptrs xs ++ [Value.pointer (some x)])[j]? := by rw [h4]
    rw [List.getElem?_take, if_pos (by omega)] at e
    rw [Nat.zero_add, ← Array.getElem?_toList, e, show ptrs xs ++ [Value.pointer (some x)] = ptrs (xs ++ [x]) by simp [ptrs]]
    rw [show (ptrs (xs ++ [x]))[j]? = ((xs ++ [x])[j]?).map (fun x => Value.pointer (some x)) from List.getElem?_map, hy]
    rfl
  rcases h with ⟨rfl, rfl, rfl⟩ | ⟨g, off, cap, cs, rfl, rfl, hg, h1, h2, hxs⟩
  · obtain ⟨v', w', hrun, r1, r2, _⟩ := run_append_own (P := Ybaf.prog) w w.heap.size 30 ty 57 i0 (.pointer none) 1 8 Ybaf.underlying30 hi hz0 hz1 hz2 rfl (by decide) (.slice none 0 0) 0 [] (World.ownsRow_nil w _ 57 1) ad 1 1 [.pointer (some x)] rfl hc one (by unfold maxLen; omega) (by omega) (Nat.le_refl _)
    obtain ⟨n1, n2, n3⟩ := new w' v' r1 r2
    exact ⟨v', w', _, hrun, n1, n2, n3⟩
  · by_cases hr : xs.length + 1 ≤ cap
    · have hcell : w.cell? ⟨g, off + xs.length * i0.size, none⟩ = cs[off + xs.length]? := by rw [hz1, Nat.mul_one]; exact cell_at hg _
      have hrun := run_append_room_cells (P := Ybaf.prog) w 30 ty 57 i0 Ybaf.underlying30 hi g off xs.length cap ad 1 1 [.pointer (some x)] (by rw [hz1]; rfl) hc one hr (fun j hj => by
        obtain rfl : j = 0 := by simpa using hj
        rw [Nat.add_zero, hcell, Array.getElem?_eq_getElem (show off + xs.length < cs.size by omega)]
        rfl) (fun j _ => frozen_at hg _)
      refine ⟨_, _, some g, hrun, Or.inr ⟨g, off, cap, cs.setIfInBounds (off + xs.length) (.pointer (some x)), by rw [List.length_append]; rfl, rfl, ?_, by rw [List.length_append]; exact hr, by simpa using h2, fun j y hy => ?_⟩, Or.inl rfl, ?_, fun b hb hD => ?_⟩
      · rw [hz1, Nat.mul_one]
        exact heap_setCell_at hg _
      · have hj := (List.getElem?_eq_some_iff.1 hy).1
        rw [List.length_append, List.length_singleton] at hj
        by_cases e : j = xs.length
        · subst e
          rw [List.getElem?_append_right (Nat.le_refl _)] at hy
          simp at hy
          subst hy
          rw [Array.getElem?_setIfInBounds_self_of_lt (by omega)]
        · rw [List.getElem?_append_left (by omega)] at hy
          rw [Array.getElem?_setIfInBounds_ne (by omega)]
          exact hxs j y hy
      · exact (Below.refl 0 w).setCell (Nat.zero_le _) _
      · exact Below.heap_setCell _ _ _ _ (fun e => hD (by rw [e]))
    · obtain ⟨v', w', hrun, r1, r2⟩ := run_append_arg_grows (P := Ybaf.prog) w 30 ty 57 i0 (.pointer none) 1 8 Ybaf.underlying30 hi hz0 hz1 hz2 rfl (by decide) ⟨g, off, none⟩ xs.length cap (ptrs xs) (by rw [Nat.mul_one]; exact List.length_map _) (fun j u hu => by
        obtain ⟨y, hy, rfl⟩ : ∃ y, xs[j]? = some y ∧ Value.pointer (some y) = u := by simpa [ptrs, List.getElem?_map] using hu
        rw [add_plain]
        exact (cell_at hg _).trans (hxs j y hy)) ad 1 1 [.pointer (some x)] rfl hc (by omega) (by unfold maxLen; omega) (by omega)
      obtain ⟨n1, n2, n3⟩ := new w' v' r1 r2
      exact ⟨v', w', _, hrun, n1, n2, n3⟩

theorem wpList_append_cut {w : World} {ops : Array Oper} {rest : List Oper} {o : Oper} {a : Act} {Q : Exit → Act → World → Prop} (hgd : o.guard = none) (s x : Operand)
    (ho : o.op = .call { callee := .builtin .append, args := #[s, x], argTypes := #[30, 30] }) {v : Value} {xs : List Addr} {qb : Option Nat} (hs : a.eval s = v) (hv : Lies w v xs qb) (hl : xs.length ≤ 2000) (b : Nat) (y : Addr) (hx : a.eval x = .slice (some ⟨b, 0, none⟩) 1 1) (hy : w.cell? ⟨b, 0, none⟩ = some (.pointer (some y)))
    (hK : ∀ v' w' qb', Lies w' v' (xs ++ [y]) qb' → (qb' = qb ∨ ∃ b, qb' = some b ∧ w.heap.size ≤ b) → Kept (fun b => qb = some b) w w' → wpList Ybaf.prog ops Q rest (a.put o.dst v') w') : wpList Ybaf.prog ops Q (o :: rest) a w := by
  refine wpList_plain hgd fun K hK' => ?_
  obtain ⟨v', w', qb', hrun, r1, r2, r3⟩ := run_append_cut hv o.type hl ⟨b, 0, none⟩ y hy rfl
  unfold Oper.wp
  simp [execOp, ho, resolve, invoke, builtin, hs, hx, hrun, Result.andThen]
  exact hK' _ _ (hK v' w' qb' r1 r2 r3)
end Go.Proofs.YbulkbqeoFmt
