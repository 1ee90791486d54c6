/- The state of LawS3342CScript. By an AI agent. -/
import Derived.Test.YbulkbqeoFmtLies
import Derived.Test.YbulkbqeoFmtRecv
namespace Go.Proofs.YbulkbqeoFmt
open Go Go.RowKit

def AllG (w : World) (xs : List Addr) : Prop := ∀ x ∈ xs, ∃ b id, x = ⟨b, 0, none⟩ ∧ GSt w b id
theorem AllG.same {w w' : World} {xs : List Addr} (h : AllG w xs) (hw : ∀ b, Ty w b 65 → w'.heap[b]? = w.heap[b]?) : AllG w' xs := fun x hx => by
  obtain ⟨b, id, rfl, hg⟩ := h x hx
  exact ⟨b, id, rfl, hg.same (hw b hg.ty)⟩
theorem AllG.push {w : World} {xs : List Addr} {b : Nat} {id : Int} (h : AllG w xs) (hg : GSt w b id) : AllG w (xs ++ [⟨b, 0, none⟩]) := fun x hx => by
  rcases List.mem_append.1 hx with h1 | h1
  · exact h x h1
  · obtain rfl : x = ⟨b, 0, none⟩ := by simpa using h1
    exact ⟨b, id, rfl, hg⟩

/-- The channel's rings hold ss and rs; the script's own lists hold s0 and r0. -/
structure Scr (w wr : World) (S R C : Nat) (cap m : Int) (n : Nat) (xs : List Value) (eb sb rb qb pb : Option Nat) (ss rs s0 r0 : List Addr) (rv sv : Value) : Prop where
  run : RunSt wr R S 0
  evs : Evs wr S eb n xs
  c : CSt wr C ⟨#[99]⟩ cap m sb rb ss rs
  gr : AllG wr rs
  gs : AllG wr ss
  rl : Lies wr rv r0 qb
  sl : Lies wr sv s0 pb
  q1 : ∀ b, qb = some b → sb ≠ some b ∧ rb ≠ some b ∧ pb ≠ some b
  q2 : ∀ b, pb = some b → sb ≠ some b ∧ rb ≠ some b
  below : Below w.heap.size w wr
  up : w.heap.size ≤ S ∧ w.heap.size ≤ C ∧ ∀ b, (sb = some b ∨ rb = some b ∨ eb = some b ∨ qb = some b ∨ pb = some b) → w.heap.size ≤ b

section
variable {w wr W w4 w5 : World} {S R C PP MP : Nat} {cap m : Int} {n : Nat} {xs : List Value} {eb sb rb qb pb : Option Nat} {ss rs s0 r0 : List Addr} {rv sv : Value}

theorem Scr.keep (h : Scr w wr S R C cap m n xs eb sb rb qb pb ss rs s0 r0 rv sv) (hw : ∀ b, b < wr.heap.size → W.heap[b]? = wr.heap[b]?) (hb : Below w.heap.size w W) : Scr w W S R C cap m n xs eb sb rb qb pb ss rs s0 r0 rv sv := by
  have tC := h.c.ty
  obtain ⟨s1, r1, hs, hr, c1, c2, c3, c4⟩ := h.c
  exact ⟨h.run.same (hw R h.run.ty.lt), h.evs.same (hw S h.evs.tyS.lt) (fun b e => hw b (h.evs.tyB b e).lt), ⟨s1, r1, hs, hr, (hw C tC.lt).trans c1, c2.same (fun b e => hw b (c2.lt b e)), c3.same (fun b e => hw b (c3.lt b e)), c4⟩,
    h.gr.same (fun b hb => hw b hb.lt), h.gs.same (fun b hb => hw b hb.lt), h.rl.same (fun b e => hw b (h.rl.ty b e).lt), h.sl.same (fun b e => hw b (h.sl.ty b e).lt), h.q1, h.q2, hb, h.up⟩
theorem Scr.drewN (h : Scr w wr S R C cap m n xs eb sb rb qb pb ss rs s0 r0 rv sv) (q : Nat) : Scr w (wr.drewN q) S R C cap m n xs eb sb rb qb pb ss rs s0 r0 rv sv := h.keep (fun _ _ => rfl) (below_drewN' h.below q)

theorem three_boxes {o1 o2 o3 : Obj} (hW : ((wr.alloc o1).alloc o2).alloc o3 = W) : (∀ b, b < wr.heap.size → W.heap[b]? = wr.heap[b]?) ∧ W.heap[wr.heap.size]? = some o1 ∧ W.heap[wr.heap.size + 1]? = some o2 ∧ W.heap[wr.heap.size + 1 + 1]? = some o3 ∧ W.heap.size = wr.heap.size + 3 := by
  have s1 := alloc_size wr o1
  have s2 := alloc_size (wr.alloc o1) o2
  have s3 := alloc_size ((wr.alloc o1).alloc o2) o3
  rw [← hW]
  refine ⟨fun b hb => ?_, ?_, ?_, ?_, by omega⟩
  · rw [Below.heap_alloc _ _ _ (by omega), Below.heap_alloc _ _ _ (by omega), Below.heap_alloc _ _ _ hb]
  · rw [Below.heap_alloc _ _ _ (by omega), Below.heap_alloc _ _ _ (by omega)]; exact heap_alloc_new _ _
  · rw [Below.heap_alloc _ _ _ (by omega), ← s1]; exact heap_alloc_new _ _
  · rw [← s1, ← s2]; exact heap_alloc_new _ _
theorem Scr.boxes {o1 o2 o3 : Obj} (h : Scr w wr S R C cap m n xs eb sb rb qb pb ss rs s0 r0 rv sv) (hW : ((wr.alloc o1).alloc o2).alloc o3 = W) : Scr w W S R C cap m n xs eb sb rb qb pb ss rs s0 r0 rv sv := by
  refine h.keep (three_boxes hW).1 ?_
  rw [← hW]
  have := h.below.size
  have s1 := alloc_size wr o1
  have s2 := alloc_size (wr.alloc o1) o2
  exact ((h.below.alloc (by omega) _).alloc (by omega) _).alloc (by omega) _

/-- What an operation on the channel leaves alone. -/
theorem Scr.far (h : Scr w W S R C cap m n xs eb sb rb qb pb ss rs s0 r0 rv sv) (tP : Ty W PP 60) (tM : Ty W MP 67) (hk : Kept (Dirty S eb PP MP C sb rb) W w4) :
    (∀ b t, Ty W b t → t ≠ 25 → t ≠ 78 → t ≠ 60 → t ≠ 67 → t ≠ 70 → t ≠ 57 → w4.heap[b]? = W.heap[b]?) ∧ ∀ b, Ty W b 57 → sb ≠ some b → rb ≠ some b → w4.heap[b]? = W.heap[b]? := by
  obtain ⟨q1, q2⟩ := h.c.rings
  refine ⟨fun b t hb h1 h2 h3 h4 h5 h6 => hk.2 b hb.lt ?_, fun b hb h1 h2 => hk.2 b hb.lt ?_⟩
  · rintro (e | e | e | e | e | e | e)
    · exact Ty.ne hb h.evs.tyS h1 e
    · exact Ty.ne hb (h.evs.tyB b e) h2 rfl
    · exact Ty.ne hb tP h3 e
    · exact Ty.ne hb tM h4 e
    · exact Ty.ne hb h.c.ty h5 e
    · exact Ty.ne hb (q1 b e) h6 rfl
    · exact Ty.ne hb (q2 b e) h6 rfl
  · rintro (e | e | e | e | e | e | e)
    · exact Ty.ne hb h.evs.tyS (by decide) e
    · exact Ty.ne hb (h.evs.tyB b e) (by decide) rfl
    · exact Ty.ne hb tP (by decide) e
    · exact Ty.ne hb tM (by decide) e
    · exact Ty.ne hb h.c.ty (by decide) e
    · exact h1 e
    · exact h2 e

theorem Scr.op {eb' sb' rb' : Option Nat} {n' : Nat} {xs' : List Value} {m' : Int} {ss' rs' : List Addr} (h : Scr w W S R C cap m n xs eb sb rb qb pb ss rs s0 r0 rv sv) (tP : Ty W PP 60) (tM : Ty W MP 67) (hP : w.heap.size ≤ PP) (hM : w.heap.size ≤ MP)
    (hk : Kept (Dirty S eb PP MP C sb rb) W w4) (hev : Evs w4 S eb' n' xs') (heb : eb' = eb ∨ ∃ b, eb' = some b ∧ W.heap.size ≤ b) (hc : CSt w4 C ⟨#[99]⟩ cap m' sb' rb' ss' rs') (hsb : sb' = sb ∨ ∃ b, sb' = some b ∧ W.heap.size ≤ b) (hrb : rb' = rb ∨ ∃ b, rb' = some b ∧ W.heap.size ≤ b)
    (gr : AllG w4 rs') (gs : AllG w4 ss') : Scr w w4 S R C cap m' n' xs' eb' sb' rb' qb pb ss' rs' s0 r0 rv sv := by
  obtain ⟨f1, f2⟩ := h.far tP tM hk
  have hsz := h.below.size
  have far : ∀ (o o' : Option Nat), (o' = o ∨ ∃ b, o' = some b ∧ W.heap.size ≤ b) → ∀ b, b < W.heap.size → o ≠ some b → o' ≠ some b := fun o o' ho b hb hn e => by
    rcases ho with e1 | ⟨k, e1, hk⟩
    · exact hn (by rw [← e1, e])
    · have : k = b := by rw [e] at e1; exact (Option.some.inj e1).symm
      omega
  have upp : ∀ (o o' : Option Nat), (o' = o ∨ ∃ b, o' = some b ∧ W.heap.size ≤ b) → (∀ b, o = some b → w.heap.size ≤ b) → ∀ b, o' = some b → w.heap.size ≤ b := fun o o' ho hu b e => by
    rcases ho with e1 | ⟨k, e1, hk⟩
    · exact hu b (by rw [← e1, e])
    · have : k = b := by rw [e] at e1; exact (Option.some.inj e1).symm
      omega
  refine ⟨h.run.same (f1 R 52 h.run.ty (by decide) (by decide) (by decide) (by decide) (by decide) (by decide)), hev, hc, gr, gs, h.rl.same (fun b e => f2 b (h.rl.ty b e) (h.q1 b e).1 (h.q1 b e).2.1), h.sl.same (fun b e => f2 b (h.sl.ty b e) (h.q2 b e).1 (h.q2 b e).2), fun b e => ?_, fun b e => ?_,
    below_kept h.below hk (Nat.le_refl _) ?_, h.up.1, h.up.2.1, fun b hb => ?_⟩
  · have hlt := (h.rl.ty b e).lt
    exact ⟨far sb sb' hsb b hlt (h.q1 b e).1, far rb rb' hrb b hlt (h.q1 b e).2.1, (h.q1 b e).2.2⟩
  · have hlt := (h.sl.ty b e).lt
    exact ⟨far sb sb' hsb b hlt (h.q2 b e).1, far rb rb' hrb b hlt (h.q2 b e).2⟩
  · rintro b (e | e | e | e | e | e | e)
    · rw [e]; exact h.up.1
    · exact h.up.2.2 b (Or.inr (Or.inr (Or.inl e)))
    · omega
    · omega
    · rw [e]; exact h.up.2.1
    · exact h.up.2.2 b (Or.inl e)
    · exact h.up.2.2 b (Or.inr (Or.inl e))
  · rcases hb with e | e | e | e | e
    · exact upp sb sb' hsb (fun b e => h.up.2.2 b (Or.inl e)) b e
    · exact upp rb rb' hrb (fun b e => h.up.2.2 b (Or.inr (Or.inl e))) b e
    · exact upp eb eb' heb (fun b e => h.up.2.2 b (Or.inr (Or.inr (Or.inl e)))) b e
    · exact h.up.2.2 b (Or.inr (Or.inr (Or.inr (Or.inl e))))
    · exact h.up.2.2 b (Or.inr (Or.inr (Or.inr (Or.inr e))))

/-- The script's list of receivers, cut. -/
theorem Scr.cut_r {rv' : Value} {r0' : List Addr} (h : Scr w wr S R C cap m n xs eb sb rb qb pb ss rs s0 r0 rv sv) (hl : Lies wr rv' r0' qb) : Scr w wr S R C cap m n xs eb sb rb qb pb ss rs s0 r0' rv' sv :=
  ⟨h.run, h.evs, h.c, h.gr, h.gs, hl, h.sl, h.q1, h.q2, h.below, h.up⟩
theorem Scr.cut_s {sv' : Value} {s0' : List Addr} (h : Scr w wr S R C cap m n xs eb sb rb qb pb ss rs s0 r0 rv sv) (hl : Lies wr sv' s0' pb) : Scr w wr S R C cap m n xs eb sb rb qb pb ss rs s0' r0 rv sv' :=
  ⟨h.run, h.evs, h.c, h.gr, h.gs, h.rl, hl, h.q1, h.q2, h.below, h.up⟩

theorem far_alloc {o : Obj} {D : Nat → Prop} (hk : Kept D (wr.alloc o) w5) : ∀ b, b < wr.heap.size → ¬ D b → w5.heap[b]? = wr.heap[b]? := fun b hb hD => by
  have := alloc_size wr o
  rw [hk.2 b (by omega) hD, Below.heap_alloc _ _ _ hb]

theorem Scr.append_s {pb' : Option Nat} {sv' : Value} {s0' : List Addr} {o : Obj} (h : Scr w wr S R C cap m n xs eb sb rb qb pb ss rs s0 r0 rv sv) (hl : Lies w5 sv' s0' pb') (hpb : pb' = pb ∨ ∃ b, pb' = some b ∧ (wr.alloc o).heap.size ≤ b) (hk : Kept (fun b => pb = some b) (wr.alloc o) w5) :
    Scr w w5 S R C cap m n xs eb sb rb qb pb' ss rs s0' r0 rv sv' := by
  have tC := h.c.ty
  have f := far_alloc hk
  have hsz := h.below.size
  have has := alloc_size wr o
  have no : ∀ b t, Ty wr b t → t ≠ 57 → w5.heap[b]? = wr.heap[b]? := fun b t hb ht => f b hb.lt (fun e => Ty.ne hb (h.sl.ty b e) ht rfl)
  obtain ⟨s1, r1, hs, hr, c1, c2, c3, c4⟩ := h.c
  refine ⟨h.run.same (no R 52 h.run.ty (by decide)), h.evs.same (no S 25 h.evs.tyS (by decide)) (fun b e => no b 78 (h.evs.tyB b e) (by decide)), ⟨s1, r1, hs, hr, (no C 70 tC (by decide)).trans c1, c2.same (fun b e => f b (c2.lt b e) (fun e' => (h.q2 b e').1 e)), c3.same (fun b e => f b (c3.lt b e) (fun e' => (h.q2 b e').2 e)), c4⟩,
    h.gr.same (fun b hb => no b 65 hb (by decide)), h.gs.same (fun b hb => no b 65 hb (by decide)), h.rl.same (fun b e => f b (h.rl.ty b e).lt (h.q1 b e).2.2), hl, fun b e => ⟨(h.q1 b e).1, (h.q1 b e).2.1, ?_⟩, fun b e => ?_, below_kept (h.below.alloc (by omega) o) hk (Nat.le_refl _) (fun b e => h.up.2.2 b (Or.inr (Or.inr (Or.inr (Or.inr e))))), h.up.1, h.up.2.1, fun b hb => ?_⟩
  · have hlt := (h.rl.ty b e).lt
    rcases hpb with e1 | ⟨k, e1, hk⟩
    · rw [e1]; exact (h.q1 b e).2.2
    · intro e2
      have : k = b := by rw [e1] at e2; exact Option.some.inj e2
      omega
  · rcases hpb with e1 | ⟨k, e1, hk⟩
    · exact h.q2 b (by rw [← e1, e])
    · have : k = b := by rw [e1] at e; exact Option.some.inj e
      refine ⟨fun e3 => ?_, fun e3 => ?_⟩
      · have := c2.lt b e3
        omega
      · have := c3.lt b e3
        omega
  · rcases hb with e | e | e | e | e
    · exact h.up.2.2 b (Or.inl e)
    · exact h.up.2.2 b (Or.inr (Or.inl e))
    · exact h.up.2.2 b (Or.inr (Or.inr (Or.inl e)))
    · exact h.up.2.2 b (Or.inr (Or.inr (Or.inr (Or.inl e))))
    · rcases hpb with e1 | ⟨k, e1, hk⟩
      · exact h.up.2.2 b (Or.inr (Or.inr (Or.inr (Or.inr (by rw [← e1, e])))))
      · have : k = b := by rw [e1] at e; exact Option.some.inj e
        omega
theorem Scr.append_r {qb' : Option Nat} {rv' : Value} {r0' : List Addr} {o : Obj} (h : Scr w wr S R C cap m n xs eb sb rb qb pb ss rs s0 r0 rv sv) (hl : Lies w5 rv' r0' qb') (hqb : qb' = qb ∨ ∃ b, qb' = some b ∧ (wr.alloc o).heap.size ≤ b) (hk : Kept (fun b => qb = some b) (wr.alloc o) w5) :
    Scr w w5 S R C cap m n xs eb sb rb qb' pb ss rs s0 r0' rv' sv := by
  have tC := h.c.ty
  have f := far_alloc hk
  have hsz := h.below.size
  have has := alloc_size wr o
  have no : ∀ b t, Ty wr b t → t ≠ 57 → w5.heap[b]? = wr.heap[b]? := fun b t hb ht => f b hb.lt (fun e => Ty.ne hb (h.rl.ty b e) ht rfl)
  obtain ⟨s1, r1, hs, hr, c1, c2, c3, c4⟩ := h.c
  refine ⟨h.run.same (no R 52 h.run.ty (by decide)), h.evs.same (no S 25 h.evs.tyS (by decide)) (fun b e => no b 78 (h.evs.tyB b e) (by decide)), ⟨s1, r1, hs, hr, (no C 70 tC (by decide)).trans c1, c2.same (fun b e => f b (c2.lt b e) (fun e' => (h.q1 b e').1 e)), c3.same (fun b e => f b (c3.lt b e) (fun e' => (h.q1 b e').2.1 e)), c4⟩,
    h.gr.same (fun b hb => no b 65 hb (by decide)), h.gs.same (fun b hb => no b 65 hb (by decide)), hl, h.sl.same (fun b e => f b (h.sl.ty b e).lt (fun e' => (h.q1 b e').2.2 e)), fun b e => ?_, h.q2, below_kept (h.below.alloc (by omega) o) hk (Nat.le_refl _) (fun b e => h.up.2.2 b (Or.inr (Or.inr (Or.inr (Or.inl e))))), h.up.1, h.up.2.1, fun b hb => ?_⟩
  · rcases hqb with e1 | ⟨k, e1, hk⟩
    · exact h.q1 b (by rw [← e1, e])
    · have : k = b := by rw [e1] at e; exact Option.some.inj e
      refine ⟨fun e3 => ?_, fun e3 => ?_, fun e3 => ?_⟩
      · have := c2.lt b e3
        omega
      · have := c3.lt b e3
        omega
      · have := (h.sl.ty b e3).lt
        omega
  · rcases hb with e | e | e | e | e
    · exact h.up.2.2 b (Or.inl e)
    · exact h.up.2.2 b (Or.inr (Or.inl e))
    · exact h.up.2.2 b (Or.inr (Or.inr (Or.inl e)))
    · rcases hqb with e1 | ⟨k, e1, hk⟩
      · exact h.up.2.2 b (Or.inr (Or.inr (Or.inr (Or.inl (by rw [← e1, e])))))
      · have : k = b := by rw [e1] at e; exact Option.some.inj e
        omega
    · exact h.up.2.2 b (Or.inr (Or.inr (Or.inr (Or.inr e))))
end

/-- How many events there are. -/
theorem Evs.form {w : World} {S : Nat} {eb : Option Nat} {n : Nat} {xs : List Value} (h : Evs w S eb n xs) : ∃ a cap, w.cell? ⟨S, 0, none⟩ = some (.slice a n cap) := by
  obtain ⟨ev, h1, h2, _⟩ := h
  rcases h2.2 with ⟨rfl, h0⟩ | ⟨B, cap, cur, rfl, _, hg, _, _, hs, ht⟩
  · exact ⟨none, 0, by rw [h0]; exact cell_at h1 0⟩
  · exact ⟨_, cap, cell_at h1 0⟩
/-- The last event. -/
theorem evs_last {w : World} {S n : Nat} {eb : Option Nat} {xs : List Value} {kd t p m g fr b vi nn : Int} {ch : ByteArray} (h : Evs w S eb (n + 1) (xs ++ evc kd t p m g fr b vi nn ch)) :
    ∃ B cap, w.cell? ⟨S, 0, none⟩ = some (.slice (some ⟨B, 0, none⟩) (n + 1) cap) ∧ w.cell? ⟨B, n * 10, none⟩ = some (.int .u8 kd) ∧ w.cell? ⟨B, n * 10 + 4, none⟩ = some (.int .i64 g) ∧ w.cell? ⟨B, n * 10 + 6, none⟩ = some (.int .i64 b) := by
  obtain ⟨ev, h1, h2, _⟩ := h
  have hl : xs.length = n * 10 := by
    have := h2.1
    rw [List.length_append] at this
    simp [evc] at this
    omega
  rcases h2.2 with ⟨_, h0⟩ | ⟨B, cap, cur, rfl, _, hg, _, _, hs, ht⟩
  · cases h0
  have c : ∀ j, j < 10 → w.cell? ⟨B, n * 10 + j, none⟩ = (evc kd t p m g fr b vi nn ch)[j]? := fun j hj => by
    rw [cell_at hg, ← Array.getElem?_toList]
    have e : (cur.toList.take ((n + 1) * 10))[n * 10 + j]? = (xs ++ evc kd t p m g fr b vi nn ch)[n * 10 + j]? := by rw [ht]
    rw [List.getElem?_take, if_pos (by omega), List.getElem?_append_right (by omega), hl, Nat.add_sub_cancel_left] at e
    exact e
  exact ⟨B, cap, cell_at h1 0, c 0 (by decide), c 4 (by decide), c 6 (by decide)⟩
end Go.Proofs.YbulkbqeoFmt
