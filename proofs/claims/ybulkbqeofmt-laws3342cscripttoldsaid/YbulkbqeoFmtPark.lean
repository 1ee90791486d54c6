/- run.park, send, recv. By an AI agent. -/
import Derived.Test.YbulkbqeoFmtReady
namespace Go.Proofs.YbulkbqeoFmt
open Go Go.RowKit
def Ty (w : World) (b : Nat) (t : TypeId) : Prop := ∃ cs, w.heap[b]? = some (.cells cs t (0, 0))
theorem Ty.ne {w : World} {a b : Nat} {t t' : TypeId} (ha : Ty w a t) (hb : Ty w b t') (h : t ≠ t') : a ≠ b := by
  rintro rfl
  obtain ⟨cs, h1⟩ := ha
  obtain ⟨cs', h2⟩ := hb
  rw [h1] at h2
  simp only [Option.some.injEq, Obj.cells.injEq] at h2
  exact h h2.2.1
theorem Ty.lt {w : World} {a : Nat} {t : TypeId} (ha : Ty w a t) : a < w.heap.size := by
  obtain ⟨cs, h1⟩ := ha
  exact block_lt h1
theorem Ring.ty {w : World} {rb : Option Nat} {sl : Value} {h : Nat} {xs : List Addr} (hr : Ring w rb sl h xs) : ∀ b, rb = some b → Ty w b 57 := by
  rcases hr with ⟨rfl, _⟩ | ⟨B, L, cs, rfl, rfl, hB, rest⟩
  · intro b hb; cases hb
  · intro b hb; cases hb; exact ⟨cs, hB⟩
theorem Evs.tyS {w : World} {S : Nat} {eb : Option Nat} {n : Nat} {xs : List Value} (h : Evs w S eb n xs) : Ty w S 25 := by
  obtain ⟨ev, h1, _⟩ := h
  exact ⟨_, h1⟩
theorem Evs.tyB {w : World} {S : Nat} {eb : Option Nat} {n : Nat} {xs : List Value} (h : Evs w S eb n xs) : ∀ b, eb = some b → Ty w b 78 := by
  obtain ⟨ev, h1, h2, rfl⟩ := h
  rcases h2.2 with ⟨rfl, _⟩ | ⟨g, cap, cur, rfl, _, hg, _⟩
  · intro b hb; cases hb
  · intro b hb
    obtain rfl : g = b := by simpa [Value.ownBlock] using hb
    exact ⟨cur, hg⟩
/-- A block of another type is none of the events' blocks. -/
theorem Evs.not {w : World} {S b : Nat} {eb : Option Nat} {n : Nat} {xs : List Value} {t : TypeId} (h : Evs w S eb n xs) (hb : Ty w b t) (h1 : t ≠ 25) (h2 : t ≠ 78) : ¬ (b = S ∨ eb = some b) := by
  rintro (e | e)
  · exact Ty.ne hb h.tyS h1 e
  · exact Ty.ne hb (h.tyB b e) h2 rfl
/-- .. none of a ring's blocks. -/
theorem Ring.not {w : World} {C b : Nat} {rb : Option Nat} {sl : Value} {h : Nat} {xs : List Addr} {t tC : TypeId} (hr : Ring w rb sl h xs) (hC : Ty w C tC) (hb : Ty w b t) (h1 : t ≠ tC) (h2 : t ≠ 57) : ¬ (b = C ∨ rb = some b) := by
  rintro (e | e)
  · exact Ty.ne hb hC h1 e
  · exact Ty.ne hb (hr.ty b e) h2 rfl
theorem Evs.kept {w w' : World} {S : Nat} {eb : Option Nat} {n : Nat} {xs : List Value} {D : Nat → Prop} (h : Evs w S eb n xs) (hk : Kept D w w') (hS : ¬ D S) (hB : ∀ b, eb = some b → ¬ D b) : Evs w' S eb n xs :=
  h.same (hk.2 S h.lt.1 hS) (fun b hb => hk.2 b (h.lt.2.1 b hb) (hB b hb))
theorem Ring.kept {w w' : World} {rb : Option Nat} {sl : Value} {h : Nat} {xs : List Addr} {D : Nat → Prop} (hr : Ring w rb sl h xs) (hk : Kept D w w') (hB : ∀ b, rb = some b → ¬ D b) : Ring w' rb sl h xs :=
  hr.same (fun b hb => hk.2 b (hr.lt b hb) (hB b hb))

theorem Kept.of_drew {D : Nat → Prop} {w w' : World} (h : Kept D w.drew w') : Kept D w w' := ⟨(Below.refl 0 w).drew.trans h.1, h.2⟩

set_option maxRecDepth 100000 in
set_option maxHeartbeats 2000000 in
theorem park_any {R S MP PP ME C o n h : Nat} {eb rb : Option Nat} {xs : List Value} {ys : List Addr} {sl : Value} {mc cc : Array Value} (now pid mid gid : Int) (ch : ByteArray) (w : World) (hev : Evs w S eb n xs) (hn : n ≤ 2000)
    (r0 : w.cell? ⟨R, 0, none⟩ = some (.iface 22 (.pointer (some ⟨S, 0, none⟩)))) (r1 : w.cell? ⟨R, 1, none⟩ = some (.int .i64 now)) (r20 : w.cell? ⟨R, 20, none⟩ = some .nilIface)
    (hM : w.heap[MP]? = some (.cells mc 67 (0, 0))) (m0 : mc[0]? = some (.int .i64 mid)) (m1 : mc[1]? = some (.pointer (some ⟨PP, 0, none⟩))) (m2 : mc[2]? = some (.pointer (some ⟨ME, 0, none⟩)))
    (p0 : w.cell? ⟨PP, 0, none⟩ = some (.int .i64 pid)) (e0 : w.cell? ⟨ME, 0, none⟩ = some (.int .i64 gid))
    (hC : w.heap[C]? = some (.cells cc 70 (0, 0))) (c0 : cc[0]? = some (.string ch)) (h0 : cc[o]? = some sl) (h1 : cc[o + 1]? = some (.int .i64 h)) (h2 : cc[o + 2]? = some (.int .i64 ys.length)) (hr : Ring w rb sl h ys) (hy : ys.length ≤ 2000) :
    Calls Ybaf.prog 13 #[.pointer (some ⟨R, 0, none⟩), .pointer (some ⟨MP, 0, none⟩), .pointer (some ⟨C, 0, none⟩), .pointer (some ⟨C, o, none⟩)] w fun e w' => (∃ v, e = .returned v) ∧
      ∃ eb' rb' sl' h', Evs w' S eb' (n + 1) (xs ++ evc 16 now pid mid gid 0 0 0 0 ch) ∧ (eb' = eb ∨ ∃ b, eb' = some b ∧ w.heap.size ≤ b) ∧ Ring w' rb' sl' h' (ys ++ [⟨ME, 0, none⟩]) ∧ (rb' = rb ∨ ∃ b, rb' = some b ∧ w.heap.size ≤ b) ∧
      w'.heap[C]? = some (.cells (three cc o sl' (.int .i64 (h' : Nat)) (.int .i64 ((ys.length + 1 : Nat) : Int))) 70 (0, 0)) ∧ w'.heap[MP]? = some (.cells (mc.setIfInBounds 2 (.pointer none)) 67 (0, 0)) ∧
      Kept (fun b => b = S ∨ eb = some b ∨ b = C ∨ rb = some b ∨ b = MP) w w' := by
  have tM : Ty w MP 67 := ⟨_, hM⟩
  have tC : Ty w C 70 := ⟨_, hC⟩
  have k0 : w.cell? ⟨MP, 0, none⟩ = some (.int .i64 mid) := (cell_at hM 0).trans m0
  have k1 : w.cell? ⟨MP, 1, none⟩ = some (.pointer (some ⟨PP, 0, none⟩)) := (cell_at hM 1).trans m1
  have k2 : w.cell? ⟨MP, 2, none⟩ = some (.pointer (some ⟨ME, 0, none⟩)) := (cell_at hM 2).trans m2
  have kc : w.cell? ⟨C, 0, none⟩ = some (.string ch) := (cell_at hC 0).trans c0
  have hem := hide (emit_any 16 now pid mid gid 0 0 0 0 ch w.drew hev hn r0 r20)
  have H := hide (And.intro hev (And.intro hM (And.intro hC hr)))
  clear hev hM hC hr
  go_enter Ybaf.func13, Ybaf.ntmps13
  go_wp2
  go_still_tail 25, mixed
  go_wp2_with fail
  refine hem.out.mono ?_
  rintro e w1 ⟨⟨v1, rfl⟩, eb', a1, a2, a3⟩
  replace a3 := a3.of_drew
  clear hem
  obtain ⟨hev, hM, hC, hr⟩ := H.out
  have hM1 : w1.heap[MP]? = some (.cells mc 67 (0, 0)) := (a3.2 MP tM.lt (hev.not tM (by decide) (by decide))).trans hM
  have hC1 : w1.heap[C]? = some (.cells cc 70 (0, 0)) := (a3.2 C tC.lt (hev.not tC (by decide) (by decide))).trans hC
  have hr1 : Ring w1 rb sl h ys := hr.kept a3 (fun b hb => hev.not (hr.ty b hb) (by decide) (by decide))
  have hpu := hide (Push_any ⟨ME, 0, none⟩ w1 hC1 h0 h1 h2 hr1 (fun e => Ty.ne (⟨_, hC⟩ : Ty w C 70) (hr.ty C e) (by decide) rfl) hy)
  have G := hide (And.intro a1 (And.intro a2 (And.intro a3 (And.intro hM1 (And.intro hC1 hr1)))))
  clear a1 a2 a3 hM1 hC1 hr1 hev hM hC hr k0 k1 k2 kc r0 r1 r20 p0 e0
  go_wp2_with fail
  refine hpu.out.mono ?_
  rintro e w2 ⟨⟨v2, rfl⟩, rb', sl', h', b1, b2, b3, b4⟩
  clear hpu
  obtain ⟨a1, a2, a3, hM1, hC1, hr1⟩ := G.out
  have hM2 : w2.heap[MP]? = some (.cells mc 67 (0, 0)) := (b4.2 MP (block_lt hM1) (hr1.not (⟨_, hC1⟩ : Ty w1 C 70) (⟨_, hM1⟩ : Ty w1 MP 67) (by decide) (by decide))).trans hM1
  have z2 : w2.cell? ⟨MP, 2, none⟩ = some (.pointer (some ⟨ME, 0, none⟩)) := (cell_at hM2 2).trans m2
  have zf := frozen_at hM2
  have ev2 : Evs w2 S eb' (n + 1) (xs ++ evc 16 now pid mid gid 0 0 0 0 ch) := a1.kept b4 (hr1.not (⟨_, hC1⟩ : Ty w1 C 70) a1.tyS (by decide) (by decide)) (fun b hb => hr1.not (⟨_, hC1⟩ : Ty w1 C 70) (a1.tyB b hb) (by decide) (by decide))
  have K := hide (And.intro ev2 (And.intro b1 (And.intro b2 (And.intro b3 (And.intro b4 hM2)))))
  clear a1 a2 a3 hM1 hC1 hr1 b1 b2 b3 b4 hM2 ev2
  go_wp2
  go_end0
  obtain ⟨a1, a2, a3, hM1, hC1, hr1⟩ := G.out
  obtain ⟨ev2, b1, b2, b3, b4, hM2⟩ := K.out
  have tM2 : Ty w2 MP 67 := ⟨_, hM2⟩
  have hs1 : w.heap.size ≤ w1.heap.size := a3.1.size
  refine ⟨⟨_, rfl⟩, eb', rb', sl', h', ev2.same (Below.heap_setCell _ _ _ _ (Ty.ne ev2.tyS tM2 (by decide))) (fun b hb => Below.heap_setCell _ _ _ _ (Ty.ne (ev2.tyB b hb) tM2 (by decide))), a2,
    b1.same (fun b hb => Below.heap_setCell _ _ _ _ (Ty.ne (b1.ty b hb) tM2 (by decide))), ?_, ?_, heap_setCell_at hM2 _, (a3.1.trans b4.1).setCell (Nat.zero_le _) _, fun b hb hD => ?_⟩
  · rcases b2 with e | ⟨k, e, hk⟩
    · exact Or.inl e
    · exact Or.inr ⟨k, e, by omega⟩
  · rw [Below.heap_setCell _ _ _ _ (Ty.ne (⟨_, b3⟩ : Ty w2 C 70) tM2 (by decide))]; exact b3
  · rw [Below.heap_setCell _ _ _ _ (fun e => hD (Or.inr (Or.inr (Or.inr (Or.inr e))))), b4.2 b (by omega) (fun e => e.elim (fun e => hD (Or.inr (Or.inr (Or.inl e)))) (fun e => hD (Or.inr (Or.inr (Or.inr (Or.inl e))))))]
    exact a3.2 b hb (fun e => e.elim (fun e => hD (Or.inl e)) (fun e => hD (Or.inr (Or.inl e))))
end Go.Proofs.YbulkbqeoFmt
