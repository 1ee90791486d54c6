/- The steps of LawS3342CExact on its state. By an AI agent. -/
import Derived.Test.YbulkbqeoFmtLaw
namespace Go.Proofs.YbulkbqeoFmt
open Go Go.RowKit
section
variable {w wr W : World} {S R PP ME MP C : Nat} {now pid mid gid cap items : Int} {nm : ByteArray} {sb rb : Option Nat} {ss rs : List Addr}

/-- The state where blocks of its own types, and its rings' rows, stay. -/
theorem Law.same (h : Law w wr S R PP ME MP C now pid mid gid cap items nm sb rb ss rs) (hw : ∀ b, (Ty wr b 25 ∨ Ty wr b 52 ∨ Ty wr b 60 ∨ Ty wr b 65 ∨ Ty wr b 67 ∨ Ty wr b 70) → W.heap[b]? = wr.heap[b]?) (hr : ∀ b, sb = some b ∨ rb = some b → W.heap[b]? = wr.heap[b]?) (hb : Below w.heap.size w W) :
    Law w W S R PP ME MP C now pid mid gid cap items nm sb rb ss rs := by
  obtain ⟨s0, r0, hs, hr', c1, c2, c3, c4⟩ := h.c
  exact ⟨h.run.same (hw R (Or.inr (Or.inl h.run.ty))), h.evs.same (hw S (Or.inl h.evs.tyS)) (fun b hb => by cases hb), h.p.same (hw PP (Or.inr (Or.inr (Or.inl h.p.ty)))), h.me.same (hw ME (Or.inr (Or.inr (Or.inr (Or.inl h.me.ty))))), h.m.same (hw MP (Or.inr (Or.inr (Or.inr (Or.inr (Or.inl h.m.ty)))))),
    ⟨s0, r0, hs, hr', (hw C (Or.inr (Or.inr (Or.inr (Or.inr (Or.inr h.c.ty)))))).trans c1, c2.same (fun b hb => hr b (Or.inl hb)), c3.same (fun b hb => hr b (Or.inr hb)), c4⟩, hb, h.up⟩

theorem box_row {V k : Nat} {id : Int} {a b c : Value} {cs : Array Value} (hW : (wr.setCell ⟨V, k, none⟩ (.pointer (some ⟨wr.heap.size, 0, none⟩))).alloc (.cells #[.int .i64 id, a, b, c] 65) = W)
    (hL : Law w wr S R PP ME MP C now pid mid gid cap items nm sb rb ss rs) (hsV : sb ≠ some V) (hrV : rb ≠ some V) (hVb : wr.heap[V]? = some (.cells cs 57 (0, 0))) (hV : w.heap.size ≤ V) :
    Law w W S R PP ME MP C now pid mid gid cap items nm sb rb ss rs ∧ GSt W wr.heap.size id ∧ W.heap[V]? = some (.cells (cs.setIfInBounds k (.pointer (some ⟨wr.heap.size, 0, none⟩))) 57 (0, 0)) ∧
      (∀ b, b < wr.heap.size → b ≠ V → W.heap[b]? = wr.heap[b]?) ∧ W.heap.size = wr.heap.size + 1 := by
  have hsz : (wr.setCell ⟨V, k, none⟩ (.pointer (some ⟨wr.heap.size, 0, none⟩))).heap.size = wr.heap.size := by simp [World.setCell]
  have hs : W.heap.size = wr.heap.size + 1 := by rw [← hW, alloc_size, hsz]
  have hold : ∀ b, b < wr.heap.size → b ≠ V → W.heap[b]? = wr.heap[b]? := fun b hb hne => by
    rw [← hW, Below.heap_alloc _ _ _ (by omega), Below.heap_setCell _ _ _ _ hne]
  have tV : Ty wr V 57 := ⟨_, hVb⟩
  refine ⟨hL.same (fun b hb => hold b ?_ ?_) (fun b hb => hold b ?_ ?_) ?_, ⟨#[.int .i64 id, a, b, c], ?_, rfl⟩, ?_, hold, hs⟩
  · rcases hb with h | h | h | h | h | h <;> exact h.lt
  · rcases hb with h | h | h | h | h | h <;> exact Ty.ne h tV (by decide)
  · obtain ⟨s0, r0, h1, h2, c1, c2, c3, c4⟩ := hL.c
    rcases hb with h | h
    · exact c2.lt b h
    · exact c3.lt b h
  · rintro rfl
    rcases hb with h | h
    · exact hsV h
    · exact hrV h
  · rw [← hW]
    exact (hL.below.setCell (show w.heap.size ≤ V from hV) _).alloc (by have := hL.below.size; omega) _
  · have e : (wr.setCell ⟨V, k, none⟩ (.pointer (some ⟨wr.heap.size, 0, none⟩))).heap.size = wr.heap.size := hsz
    have := heap_alloc_new (wr.setCell ⟨V, k, none⟩ (.pointer (some ⟨wr.heap.size, 0, none⟩))) (.cells #[.int .i64 id, a, b, c] 65)
    rw [e, hW] at this
    exact this
  · rw [← hW, Below.heap_alloc _ _ _ (by rw [hsz]; exact tV.lt)]
    exact heap_setCell_at hVb _

theorem law_push_r (x : Addr) (hL : Law w W S R PP ME MP C now pid mid gid cap items nm sb rb ss rs) (hlen : rs.length ≤ 2000) :
    Calls Ybaf.prog 5 #[.pointer (some ⟨C, 6, none⟩), .pointer (some x)] W.drew fun e w2 => (∃ v, e = .returned v) ∧ ∃ rb', Law w w2 S R PP ME MP C now pid mid gid cap items nm sb rb' ss (rs ++ [x]) ∧ (rb' = rb ∨ ∃ b, rb' = some b ∧ W.heap.size ≤ b) ∧ Kept (fun b => b = C ∨ rb = some b) W w2 := by
  obtain ⟨s0, r0, hs, hr', c1, c2, c3, c4⟩ := hL.c
  have tC := hL.c.ty
  refine (Push_any (o := 6) x W.drew c1 rfl rfl rfl c3 (fun e => Ty.ne tC (c3.ty C e) (by decide) rfl) hlen).mono ?_
  rintro e w2 ⟨hv, rb', sl', h', b1, b2, b3, b4⟩
  replace b4 := b4.of_drew
  have no : ∀ (b : Nat) (t : TypeId), Ty W b t → t ≠ 70 → t ≠ 57 → w2.heap[b]? = W.heap[b]? := fun b t hb h1 h2 => b4.2 b hb.lt (c3.not tC hb h1 h2)
  have hs2 : ∀ b, sb = some b → w2.heap[b]? = W.heap[b]? := fun b hb => b4.2 b (c2.lt b hb) (by
    rintro (e | e)
    · exact Ty.ne (c2.ty b hb) tC (by decide) e
    · exact c4 b hb e)
  refine ⟨hv, rb', ⟨hL.run.same (no R 52 hL.run.ty (by decide) (by decide)), hL.evs.same (no S 25 hL.evs.tyS (by decide) (by decide)) (fun b hb => by cases hb), hL.p.same (no PP 60 hL.p.ty (by decide) (by decide)), hL.me.same (no ME 65 hL.me.ty (by decide) (by decide)), hL.m.same (no MP 67 hL.m.ty (by decide) (by decide)),
    ⟨s0, sl', hs, h', ?_, c2.same hs2, b1, fun b hb e => ?_⟩, ?_, ⟨hL.up.1, hL.up.2.1, hL.up.2.2.1, hL.up.2.2.2.1, fun b hb => ?_⟩⟩, b2, b4⟩
  · rw [b3]; simp [three]
  · rcases b2 with e' | ⟨k, e', hk⟩
    · exact c4 b hb (by rw [← e', e])
    · have := c2.lt b hb
      have : k = b := by rw [e] at e'; exact (Option.some.inj e').symm
      have : W.drew.heap.size = W.heap.size := rfl
      omega
  · refine ⟨b4.1.os.trans hL.below.os, b4.1.tape.trans hL.below.tape, b4.1.output.trans hL.below.output, Nat.le_trans hL.below.size b4.1.size, fun b hb => ?_⟩
    rw [b4.2 b (Nat.lt_of_lt_of_le hb hL.below.size) (by
      rintro (e | e)
      · have := hL.up.2.2.2.1; omega
      · have := hL.up.2.2.2.2 b (Or.inr e); omega)]
    exact hL.below.block b hb
  · rcases hb with h | h
    · exact hL.up.2.2.2.2 b (Or.inl h)
    · rcases b2 with e' | ⟨k, e', hk⟩
      · exact hL.up.2.2.2.2 b (Or.inr (by rw [← e', h]))
      · have : k = b := by rw [h] at e'; exact (Option.some.inj e').symm
        have h1 := hL.below.size
        have h2 : W.drew.heap.size = W.heap.size := rfl
        omega
theorem law_push_s (x : Addr) (hL : Law w W S R PP ME MP C now pid mid gid cap items nm sb rb ss rs) (hlen : ss.length ≤ 2000) :
    Calls Ybaf.prog 5 #[.pointer (some ⟨C, 3, none⟩), .pointer (some x)] W.drew fun e w2 => (∃ v, e = .returned v) ∧ ∃ sb', Law w w2 S R PP ME MP C now pid mid gid cap items nm sb' rb (ss ++ [x]) rs ∧ (sb' = sb ∨ ∃ b, sb' = some b ∧ W.heap.size ≤ b) ∧ Kept (fun b => b = C ∨ sb = some b) W w2 := by
  obtain ⟨s0, r0, hs, hr', c1, c2, c3, c4⟩ := hL.c
  have tC := hL.c.ty
  refine (Push_any (o := 3) x W.drew c1 rfl rfl rfl c2 (fun e => Ty.ne tC (c2.ty C e) (by decide) rfl) hlen).mono ?_
  rintro e w2 ⟨hv, rb', sl', h', b1, b2, b3, b4⟩
  replace b4 := b4.of_drew
  have no : ∀ (b : Nat) (t : TypeId), Ty W b t → t ≠ 70 → t ≠ 57 → w2.heap[b]? = W.heap[b]? := fun b t hb h1 h2 => b4.2 b hb.lt (c2.not tC hb h1 h2)
  have hs2 : ∀ b, rb = some b → w2.heap[b]? = W.heap[b]? := fun b hb => b4.2 b (c3.lt b hb) (by
    rintro (e | e)
    · exact Ty.ne (c3.ty b hb) tC (by decide) e
    · exact c4 b e hb)
  refine ⟨hv, rb', ⟨hL.run.same (no R 52 hL.run.ty (by decide) (by decide)), hL.evs.same (no S 25 hL.evs.tyS (by decide) (by decide)) (fun b hb => by cases hb), hL.p.same (no PP 60 hL.p.ty (by decide) (by decide)), hL.me.same (no ME 65 hL.me.ty (by decide) (by decide)), hL.m.same (no MP 67 hL.m.ty (by decide) (by decide)),
    ⟨sl', r0, h', hr', ?_, b1, c3.same hs2, fun b hb e => ?_⟩, ?_, ⟨hL.up.1, hL.up.2.1, hL.up.2.2.1, hL.up.2.2.2.1, fun b hb => ?_⟩⟩, b2, b4⟩
  · rw [b3]; simp [three]
  · rcases b2 with e' | ⟨k, e', hk⟩
    · exact c4 b (by rw [← e', hb]) e
    · have := c3.lt b e
      have : k = b := by rw [hb] at e'; exact (Option.some.inj e').symm
      have : W.drew.heap.size = W.heap.size := rfl
      omega
  · refine ⟨b4.1.os.trans hL.below.os, b4.1.tape.trans hL.below.tape, b4.1.output.trans hL.below.output, Nat.le_trans hL.below.size b4.1.size, fun b hb => ?_⟩
    rw [b4.2 b (Nat.lt_of_lt_of_le hb hL.below.size) (by
      rintro (e | e)
      · have := hL.up.2.2.2.1; omega
      · have := hL.up.2.2.2.2 b (Or.inl e); omega)]
    exact hL.below.block b hb
  · rcases hb with h | h
    case inr => exact hL.up.2.2.2.2 b (Or.inr h)
    · rcases b2 with e' | ⟨k, e', hk⟩
      · exact hL.up.2.2.2.2 b (Or.inl (by rw [← e', h]))
      · have : k = b := by rw [h] at e'; exact (Option.some.inj e').symm
        have h1 := hL.below.size
        have h2 : W.drew.heap.size = W.heap.size := rfl
        omega

/-- A row and its Gs, behind one more. -/
theorem row_step {wr W w2 : World} {V n k : Nat} {base : Int} {rs : List Addr} {cs : Array Value} {D : Nat → Prop} (hG : Gs wr base rs) (hVb : wr.heap[V]? = some (.cells cs 57 (0, 0))) (hVs : cs.size = n) (hVx : ∀ (j : Nat) (x : Addr), rs[j]? = some x → cs[j]? = some (Value.pointer (some x))) (hK : rs.length = k) (hlt : k < n)
    (g : GSt W wr.heap.size ((k : Int) + base)) (hV : W.heap[V]? = some (.cells (cs.setIfInBounds k (.pointer (some ⟨wr.heap.size, 0, none⟩))) 57 (0, 0))) (hold : ∀ b, b < wr.heap.size → b ≠ V → W.heap[b]? = wr.heap[b]?)
    (hk : Kept D W w2) (hDV : ¬ D V) (hD : ∀ b, Ty W b 65 → ¬ D b) : Gs w2 base (rs ++ [⟨wr.heap.size, 0, none⟩]) ∧ Row w2 V n (rs ++ [⟨wr.heap.size, 0, none⟩]) ∧ V < w2.heap.size := by
  have tV : Ty wr V 57 := ⟨_, hVb⟩
  have tVW : Ty W V 57 := ⟨_, hV⟩
  have hGW : Gs W base rs := hG.same fun b hb => hold b hb.lt (Ty.ne hb tV (by decide))
  have hG2 : Gs w2 base rs := hGW.same fun b hb => hk.2 b hb.lt (hD b hb)
  have hV2 := (hk.2 V tVW.lt hDV).trans hV
  refine ⟨fun j x hx => ?_, ⟨_, hV2, by simpa using hVs, fun j x hx => ?_⟩, block_lt hV2⟩
  · by_cases e : j = rs.length
    · subst e
      rw [List.getElem?_append_right (Nat.le_refl _)] at hx
      simp at hx
      subst hx
      exact ⟨_, rfl, by rw [hK]; exact g.same (hk.2 _ g.ty.lt (hD _ g.ty))⟩
    · have hj := (List.getElem?_eq_some_iff.1 hx).1
      simp at hj
      rw [List.getElem?_append_left (by omega)] at hx
      exact hG2 j x hx
  · by_cases e : j = rs.length
    · subst e
      rw [List.getElem?_append_right (Nat.le_refl _)] at hx
      simp at hx
      subst hx
      rw [hK, Array.getElem?_setIfInBounds_self_of_lt (by omega)]
    · have hj := (List.getElem?_eq_some_iff.1 hx).1
      simp at hj
      rw [List.getElem?_append_left (by omega)] at hx
      rw [Array.getElem?_setIfInBounds_ne (by omega)]
      exact hVx j x hx

/-- What a push onto a channel's queue leaves alone. -/
theorem push_apart {W : World} {C V : Nat} {rb : Option Nat} (tC : Ty W C 70) (hr : ∀ b, rb = some b → Ty W b 57) (tV : Ty W V 57) (hV : rb ≠ some V) : ¬ (V = C ∨ rb = some V) ∧ ∀ b, Ty W b 65 → ¬ (b = C ∨ rb = some b) := by
  refine ⟨?_, fun b hb => ?_⟩
  · rintro (e | e)
    · exact Ty.ne tV tC (by decide) e
    · exact hV e
  · rintro (e | e)
    · exact Ty.ne hb tC (by decide) e
    · exact Ty.ne hb (hr b e) (by decide) rfl
theorem Law.rings {w wr : World} {S R PP ME MP C : Nat} {now pid mid gid cap items : Int} {nm : ByteArray} {sb rb : Option Nat} {ss rs : List Addr} (h : Law w wr S R PP ME MP C now pid mid gid cap items nm sb rb ss rs) : (∀ b, sb = some b → Ty wr b 57) ∧ ∀ b, rb = some b → Ty wr b 57 := by
  obtain ⟨s0, r0, h1, h2, c1, c2, c3, c4⟩ := h.c
  exact ⟨c2.ty, c3.ty⟩
end
end Go.Proofs.YbulkbqeoFmt
