/- Draining a channel's queues; what stays. By an AI agent. -/
import Derived.Test.YbulkbqeoFmtSteps
namespace Go.Proofs.YbulkbqeoFmt
open Go Go.RowKit
theorem stay {w w' : World} {C : Nat} {rb : Option Nat} (hk : Kept (fun b => b = C ∨ rb = some b) w w') (tC : Ty w C 70) (hr : ∀ b, rb = some b → Ty w b 57) :
    (∀ b t, Ty w b t → t ≠ 70 → t ≠ 57 → w'.heap[b]? = w.heap[b]?) ∧ ∀ b, Ty w b 57 → rb ≠ some b → w'.heap[b]? = w.heap[b]? := by
  refine ⟨fun b t hb h1 h2 => hk.2 b hb.lt ?_, fun b hb hn => hk.2 b hb.lt ?_⟩
  · rintro (e | e)
    · exact Ty.ne hb tC h1 e
    · exact Ty.ne hb (hr b e) h2 rfl
  · rintro (e | e)
    · exact Ty.ne hb tC (by decide) e
    · exact hn e
theorem CSt.rings {w : World} {C : Nat} {nm : ByteArray} {cap items : Int} {sb rb : Option Nat} {ss rs : List Addr} (h : CSt w C nm cap items sb rb ss rs) : (∀ b, sb = some b → Ty w b 57) ∧ ∀ b, rb = some b → Ty w b 57 := by
  obtain ⟨s0, r0, h1, h2, c1, c2, c3, c4⟩ := h
  exact ⟨c2.ty, c3.ty⟩

theorem drain_r {w : World} {C : Nat} {nm : ByteArray} {cap items : Int} {sb rb : Option Nat} {ss rs : List Addr} (mx : Nat) (hC : CSt w C nm cap items sb rb ss rs) (hl : rs.length < mx) (hm : mx ≤ 2000) :
    Calls Ybaf.prog 7 #[.pointer (some ⟨C, 6, none⟩), .int .i64 mx] w fun e w' => ∃ v, e = .returned v ∧ Mine w' w.heap.size v rs ∧ CSt w' C nm cap items sb rb ss [] ∧ Kept (fun b => b = C ∨ rb = some b) w w' := by
  have tC := hC.ty
  obtain ⟨s0, r0, h1, h2, c1, c2, c3, c4⟩ := hC
  refine (drain_any (o := 6) mx w c1 rfl rfl rfl c3 (fun e => Ty.ne tC (c3.ty C e) (by decide) rfl) hl hm).mono ?_
  rintro e w' ⟨v, rfl, a1, ⟨h', a2, a3⟩, a4⟩
  refine ⟨v, rfl, a1, ⟨s0, r0, h1, h', ?_, c2.same (fun b hb => (stay a4 tC c3.ty).2 b (c2.ty b hb) (c4 b hb)), a2, c4⟩, a4⟩
  rw [a3]; simp [three]
theorem drain_s {w : World} {C : Nat} {nm : ByteArray} {cap items : Int} {sb rb : Option Nat} {ss rs : List Addr} (mx : Nat) (hC : CSt w C nm cap items sb rb ss rs) (hl : ss.length < mx) (hm : mx ≤ 2000) :
    Calls Ybaf.prog 7 #[.pointer (some ⟨C, 3, none⟩), .int .i64 mx] w fun e w' => ∃ v, e = .returned v ∧ Mine w' w.heap.size v ss ∧ CSt w' C nm cap items sb rb [] rs ∧ Kept (fun b => b = C ∨ sb = some b) w w' := by
  have tC := hC.ty
  obtain ⟨s0, r0, h1, h2, c1, c2, c3, c4⟩ := hC
  refine (drain_any (o := 3) mx w c1 rfl rfl rfl c2 (fun e => Ty.ne tC (c2.ty C e) (by decide) rfl) hl hm).mono ?_
  rintro e w' ⟨v, rfl, a1, ⟨h', a2, a3⟩, a4⟩
  refine ⟨v, rfl, a1, ⟨s0, r0, h', h2, ?_, a2, c3.same (fun b hb => (stay a4 tC c2.ty).2 b (c3.ty b hb) (fun e => c4 b e hb)), c4⟩, a4⟩
  rw [a3]; simp [three]

/-- What the law reads at its end. -/
structure Fin (w : World) (S R PP MP C V U : Nat) (now pid mid cap items : Int) (nm : ByteArray) (g rn : Value) (eb : Option Nat) (n : Nat) (xs : List Value) (rs ss : List Addr) : Prop where
  run : RunSt w R S now
  evs : Evs w S eb n xs
  p : PSt w PP pid rn
  m : MSt w MP PP g mid
  c : Ty w C 70
  c0 : w.cell? ⟨C, 0, none⟩ = some (.string nm)
  c1 : w.cell? ⟨C, 1, none⟩ = some (.int .i64 cap)
  c2 : w.cell? ⟨C, 2, none⟩ = some (.int .i64 items)
  rv : Row w V rs.length rs
  ru : Row w U ss.length ss
  gr : Gs w 1 rs
theorem CSt.cells {w : World} {C : Nat} {nm : ByteArray} {cap items : Int} {sb rb : Option Nat} {ss rs : List Addr} (h : CSt w C nm cap items sb rb ss rs) : w.cell? ⟨C, 0, none⟩ = some (.string nm) ∧ w.cell? ⟨C, 1, none⟩ = some (.int .i64 cap) ∧ w.cell? ⟨C, 2, none⟩ = some (.int .i64 items) := by
  obtain ⟨s0, r0, h1, h2, c1, c2, c3, c4⟩ := h
  exact ⟨cell_at c1 0, cell_at c1 1, cell_at c1 2⟩
/-- .. stays behind a drain. -/
theorem Fin.drain {w w' : World} {S R PP MP C V U : Nat} {now pid mid cap items : Int} {nm : ByteArray} {g rn : Value} {eb rb : Option Nat} {n : Nat} {xs : List Value} {rs ss : List Addr} (h : Fin w S R PP MP C V U now pid mid cap items nm g rn eb n xs rs ss)
    (hk : Kept (fun b => b = C ∨ rb = some b) w w') (hr : ∀ b, rb = some b → Ty w b 57) (hV : rb ≠ some V) (hU : rb ≠ some U) (t' : Ty w' C 70) (hc : w'.cell? ⟨C, 0, none⟩ = some (.string nm) ∧ w'.cell? ⟨C, 1, none⟩ = some (.int .i64 cap) ∧ w'.cell? ⟨C, 2, none⟩ = some (.int .i64 items)) :
    Fin w' S R PP MP C V U now pid mid cap items nm g rn eb n xs rs ss := by
  obtain ⟨s1, s2⟩ := stay hk h.c hr
  have tV : Ty w V 57 := by obtain ⟨cs, h1, _⟩ := h.rv; exact ⟨cs, h1⟩
  have tU : Ty w U 57 := by obtain ⟨cs, h1, _⟩ := h.ru; exact ⟨cs, h1⟩
  exact ⟨h.run.same (s1 R 52 h.run.ty (by decide) (by decide)), h.evs.same (s1 S 25 h.evs.tyS (by decide) (by decide)) (fun b hb => s1 b 78 (h.evs.tyB b hb) (by decide) (by decide)), h.p.same (s1 PP 60 h.p.ty (by decide) (by decide)), h.m.same (s1 MP 67 h.m.ty (by decide) (by decide)), t', hc.1, hc.2.1, hc.2.2,
    h.rv.same (s2 V tV hV), h.ru.same (s2 U tU hU), h.gr.same (fun b hb => s1 b 65 hb (by decide) (by decide))⟩
/-- .. and behind an operation on the channel, those of its parts that the operation does not turn. -/
theorem fin_of {wr w' : World} {S R PP MP C V U : Nat} {now pid mid cap items items' : Int} {nm : ByteArray} {g rn : Value} {eb sb rb : Option Nat} {n : Nat} {xs : List Value} {rs ss : List Addr} {eb0 sb' rb' : Option Nat} {n0 : Nat} {xs0 : List Value} {ss' rs' ss0 rs0 : List Addr}
    (hR : RunSt wr R S now) (hE0 : Evs wr S eb0 n0 xs0) (tP : Ty wr PP 60) (tM : Ty wr MP 67) (hC : CSt wr C nm cap items sb rb ss0 rs0) (hV : Row wr V rs.length rs) (hU : Row wr U ss.length ss) (hG : Gs wr 1 rs) (hsV : sb ≠ some V) (hrV : rb ≠ some V) (hsU : sb ≠ some U) (hrU : rb ≠ some U)
    (hk : Kept (Dirty S eb0 PP MP C sb rb) wr w') (hE : Evs w' S eb n xs) (hp : PSt w' PP pid rn) (hm : MSt w' MP PP g mid) (hC' : CSt w' C nm cap items' sb' rb' ss' rs') : Fin w' S R PP MP C V U now pid mid cap items' nm g rn eb n xs rs ss := by
  obtain ⟨q1, q2⟩ := hC.rings
  have no : ∀ (b : Nat) (t : TypeId), Ty wr b t → t ≠ 25 → t ≠ 78 → t ≠ 60 → t ≠ 67 → t ≠ 70 → (sb ≠ some b ∧ rb ≠ some b) → w'.heap[b]? = wr.heap[b]? := fun b t hb h1 h2 h3 h4 h5 h6 => hk.2 b hb.lt (by
    rintro (e | e | e | e | e | e | e)
    · exact Ty.ne hb hE0.tyS h1 e
    · exact Ty.ne hb (hE0.tyB b e) h2 rfl
    · exact Ty.ne hb tP h3 e
    · exact Ty.ne hb tM h4 e
    · exact Ty.ne hb hC.ty h5 e
    · exact h6.1 e
    · exact h6.2 e)
  have off : ∀ (b : Nat) (t : TypeId), Ty wr b t → t ≠ 57 → sb ≠ some b ∧ rb ≠ some b := fun b t hb ht => ⟨fun e => Ty.ne hb (q1 b e) ht rfl, fun e => Ty.ne hb (q2 b e) ht rfl⟩
  have tV : Ty wr V 57 := by obtain ⟨cs, h1, _⟩ := hV; exact ⟨cs, h1⟩
  have tU : Ty wr U 57 := by obtain ⟨cs, h1, _⟩ := hU; exact ⟨cs, h1⟩
  exact ⟨hR.same (no R 52 hR.ty (by decide) (by decide) (by decide) (by decide) (by decide) (off R 52 hR.ty (by decide))), hE, hp, hm, hC'.ty, hC'.cells.1, hC'.cells.2.1, hC'.cells.2.2, hV.same (no V 57 tV (by decide) (by decide) (by decide) (by decide) (by decide) ⟨hsV, hrV⟩),
    hU.same (no U 57 tU (by decide) (by decide) (by decide) (by decide) (by decide) ⟨hsU, hrU⟩), hG.same (fun b hb => no b 65 hb (by decide) (by decide) (by decide) (by decide) (by decide) (off b 65 hb (by decide)))⟩
theorem below_kept {N : Nat} {w w1 w2 : World} {D : Nat → Prop} (hb : Below N w w1) (hk : Kept D w1 w2) (hN : N ≤ w.heap.size) (hD : ∀ b, D b → N ≤ b) : Below N w w2 :=
  ⟨hk.1.os.trans hb.os, hk.1.tape.trans hb.tape, hk.1.output.trans hb.output, Nat.le_trans hb.size hk.1.size, fun b h => (hk.2 b (Nat.lt_of_lt_of_le h (Nat.le_trans hN hb.size)) (fun e => by have := hD b e; omega)).trans (hb.block b h)⟩
theorem evs_one {w : World} {S : Nat} {eb : Option Nat} {kd t p m g fr b vi nn : Int} {ch : ByteArray} (h : Evs w S eb 1 ([] ++ evc kd t p m g fr b vi nn ch)) :
    ∃ B cap, w.cell? ⟨S, 0, none⟩ = some (.slice (some ⟨B, 0, none⟩) 1 cap) ∧ B < w.heap.size ∧ w.cell? ⟨B, 0, none⟩ = some (.int .u8 kd) ∧ w.cell? ⟨B, 1, none⟩ = some (.int .i64 t) ∧ w.cell? ⟨B, 2, none⟩ = some (.int .i64 p) ∧ w.cell? ⟨B, 3, none⟩ = some (.int .i64 m) ∧ w.cell? ⟨B, 4, none⟩ = some (.int .i64 g) ∧
      w.cell? ⟨B, 5, none⟩ = some (.int .u8 fr) ∧ w.cell? ⟨B, 6, none⟩ = some (.int .i64 b) ∧ w.cell? ⟨B, 7, none⟩ = some (.int .i64 vi) ∧ w.cell? ⟨B, 8, none⟩ = some (.int .i64 nn) ∧ w.cell? ⟨B, 9, none⟩ = some (.string ch) := by
  obtain ⟨ev, h1, h2, _⟩ := h
  rcases h2.2 with ⟨_, h0⟩ | ⟨B, cap, cur, rfl, _, hg, _, _, hs, ht⟩
  · cases h0
  have c : ∀ j, j < 10 → w.cell? ⟨B, j, none⟩ = (evc kd t p m g fr b vi nn ch)[j]? := fun j hj => by
    rw [cell_at hg, ← Array.getElem?_toList]
    have e : (cur.toList.take (1 * 10))[j]? = ([] ++ evc kd t p m g fr b vi nn ch)[j]? := by rw [ht]
    rw [List.getElem?_take, if_pos (by omega)] at e
    exact e
  exact ⟨B, cap, cell_at h1 0, block_lt hg, c 0 (by decide), c 1 (by decide), c 2 (by decide), c 3 (by decide), c 4 (by decide), c 5 (by decide), c 6 (by decide), c 7 (by decide), c 8 (by decide), c 9 (by decide)⟩
theorem evs_none {w : World} {S : Nat} {eb : Option Nat} {xs : List Value} (h : Evs w S eb 0 xs) : ∃ a cap, w.cell? ⟨S, 0, none⟩ = some (.slice a 0 cap) := by
  obtain ⟨ev, h1, h2, _⟩ := h
  rcases h2.2 with ⟨rfl, h0⟩ | ⟨B, cap, cur, rfl, _, hg, _, _, hs, ht⟩
  · exact ⟨none, 0, cell_at h1 0⟩
  · exact ⟨_, cap, cell_at h1 0⟩
theorem Holds.alloc {w : World} {v : Value} {xs : List Addr} (h : Holds w v xs) (o : Obj) (q : Nat) : Holds ((w.alloc o).drewN q) v xs := by
  obtain ⟨a, c, rfl, hx⟩ := h
  refine ⟨a, c, rfl, fun j x hj => ?_⟩
  obtain ⟨b, off, ha, hc⟩ := hx j x hj
  exact ⟨b, off, ha, (World.cell?_of_block (w := w) (Below.heap_alloc _ _ _ (World.block_lt_of_cell? w _ hc))).trans hc⟩
theorem Holds.cut {w : World} {V : Nat} {x : Addr} {xs : List Addr} {a : Option Addr} {c : Nat} (h : Row w V (xs.length + 1) (x :: xs)) (ha : xs ≠ [] → a = some ⟨V, 1, none⟩) : Holds w (.slice a xs.length c) xs := by
  by_cases e : xs = []
  · subst e
    exact ⟨a, c, rfl, fun j x hx => by simp at hx⟩
  · rw [ha e]; exact h.tail c
theorem Holds.empty {w : World} (a : Option Addr) (c : Nat) : Holds w (.slice a 0 c) [] := ⟨a, c, rfl, fun j x hx => by simp at hx⟩
theorem Holds.form {w : World} {v : Value} {xs : List Addr} (h : Holds w v xs) : ∃ a c, v = .slice a xs.length c := by
  obtain ⟨a, c, e, _⟩ := h
  exact ⟨a, c, e⟩
theorem Holds.same {w w' : World} {v : Value} {xs : List Addr} (h : Holds w v xs) (hw : ∀ b, v.ownBlock = some b → w'.heap[b]? = w.heap[b]?) : Holds w' v xs := by
  obtain ⟨a, c, rfl, hx⟩ := h
  refine ⟨a, c, rfl, fun j x hj => ?_⟩
  obtain ⟨b, off, rfl, hc⟩ := hx j x hj
  exact ⟨b, off, rfl, (World.cell?_of_block (w := w) (hw b rfl)).trans hc⟩
end Go.Proofs.YbulkbqeoFmt
