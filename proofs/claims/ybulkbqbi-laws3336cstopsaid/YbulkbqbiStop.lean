/- The contract of (*callbacks).stop, in one goroutine, its worker done already. By an AI agent. -/
import Derived.Test.YbulkbqbiComm
import Derived.Test.YbulkbqbiLocks
namespace Go.Proofs.Ybulkbqbi
open Go.RowKit Go.Conc

/-- w' is w but for block c. -/
structure But (c : Nat) (w w' : World) : Prop where
  os : w'.os = w.os
  tape : w'.tape = w.tape
  output : w'.output = w.output
  size : w'.heap.size = w.heap.size
  block : ∀ b, b ≠ c → w'.heap[b]? = w.heap[b]?

theorem But.refl (c : Nat) (w : World) : But c w w := ⟨rfl, rfl, rfl, rfl, fun _ _ => rfl⟩
theorem but_setChan (w : World) (c cap : Nat) (buf : Array Value) (cl : Bool) (s r : Nat) (tm : Bool) : But c w (w.setChan c cap buf cl s r tm) :=
  ⟨rfl, rfl, rfl, by simp [World.setChan], fun b hb => by simp only [World.setChan]; rw [Array.getElem?_setIfInBounds_ne (fun h => hb h.symm)]⟩

/-- The world behind Lock, the store and Unlock. -/
def W3 (w : World) (C : Nat) : World := ((w.setCell ⟨C, 0, none⟩ (.int .i32 1)).setCell ⟨C, 5, none⟩ (.bool true)).setCell ⟨C, 0, none⟩ (.int .i32 0)

theorem W3_block (w : World) (C b : Nat) (h : b ≠ C) : (W3 w C).heap[b]? = w.heap[b]? := by
  unfold W3
  rw [Below.heap_setCell _ _ _ _ h, Below.heap_setCell _ _ _ _ h, Below.heap_setCell _ _ _ _ h]

set_option maxRecDepth 100000 in
set_option maxHeartbeats 800000 in
theorem stop_any (C cw cd s r s' r' : Nat) (cl : Bool) (buf : Array Value) (w : World) (h0 : w.cell? ⟨C, 0, none⟩ = some (.int .i32 0)) (f0 : w.frozen? ⟨C, 0, none⟩ = false)
    (h4 : w.cell? ⟨C, 4, none⟩ = some (.chan (some cw))) (h5 : w.cell? ⟨C, 5, none⟩ = some (.bool cl)) (f5 : w.frozen? ⟨C, 5, none⟩ = false) (h6 : w.cell? ⟨C, 6, none⟩ = some (.chan (some cd)))
    (hbuf : buf = #[] ∨ buf = #[.agg #[]]) (hcw : w.heap[cw]? = some (.chan 1 buf false s r false)) (hcd : w.heap[cd]? = some (.chan 0 #[] true s' r' false)) (hne : cw ≠ cd) (hwC : cw ≠ C) (hdC : cd ≠ C) :
    Calls Yba.prog 11 #[.pointer (some ⟨C, 0, none⟩)] w fun e w' => e = .returned (.tuple #[]) ∧ But cw (W3 w C) w' ∧ ∃ s2, w'.heap[cw]? = some (.chan 1 #[.agg #[]] false s2 r false) := by
  have g0 : ((w.setCell ⟨C, 0, none⟩ (.int .i32 1)).setCell ⟨C, 5, none⟩ (.bool true)).cell? ⟨C, 0, none⟩ = some (.int .i32 1) := by
    rw [World.cell?_setCell_other _ _ _ _ (by simp), World.cell?_setCell_same _ _ _ h0]
  have gf : ((w.setCell ⟨C, 0, none⟩ (.int .i32 1)).setCell ⟨C, 5, none⟩ (.bool true)).frozen? ⟨C, 0, none⟩ = false := by simp [f0]
  have HCW : Hid ((W3 w C).heap[cw]? = some (.chan 1 buf false s r false)) := (W3_block w C cw hwC).trans hcw
  have HCD : Hid ((W3 w C).heap[cd]? = some (.chan 0 #[] true s' r' false)) := (W3_block w C cd hdC).trans hcd
  have HB : Hid (buf = #[] ∨ buf = #[.agg #[]]) := hbuf
  have H6 : Hid ((W3 w C).cell? ⟨C, 6, none⟩ = some (.chan (some cd))) := by
    show (W3 w C).cell? _ = _
    unfold W3
    rw [World.cell?_setCell_other _ _ _ _ (by simp), World.cell?_setCell_other _ _ _ _ (by simp), World.cell?_setCell_other _ _ _ _ (by simp)]
    exact h6
  clear hbuf hcw hcd
  refine calls_of_wpN Yba.func11 rfl ?_
  simp only [Yba.ntmps11, List.size_toArray, List.length_cons, List.length_nil, Nat.reduceAdd, Nat.reduceSub, Array.replicate_succ, Array.replicate_zero, List.push_toArray, List.append_toArray, List.nil_append, List.cons_append]
  refine wpN_then fun K hK => ?_
  go_wp2_with (first | (go_at_call 17; refine (lock_free C 0 _ h0 f0).mono ?_; rintro e w' ⟨rfl, rfl⟩))
  refine wpN_then fun K hK => ?_
  go_wp2
  refine wpN_then fun K hK => ?_
  go_wp2_with (first | (go_at_call 13; refine (unlock_held C 0 _ g0 gf).mono ?_; rintro e w' ⟨rfl, rfl⟩))
  refine wpN_seq_k fun K hK => ?_
  refine wpN_then fun K2 hK2 => ?_
  go_wp2
  clear g0 gf h0 f0 h4 h5 f5 h6
  change wpN _ _ _ _ (W3 w C)
  generalize W3 w C = W at HCW HCD H6 hK ⊢
  refine wpN_seq_k fun K2 hK2 => ?_
  refine wpN_region ?_
  simp only [List.size_toArray, List.length_cons, List.length_nil, Nat.reduceAdd, List.range, List.range.loop]
  have hs : ∃ (v : Int) (w1 : World), But cw W w1 ∧ (∃ s2, w1.heap[cw]? = some (.chan 1 #[.agg #[]] false s2 r false)) ∧ ∀ (Q : Exit → Act → World → Prop) (a : Act) (ops : Array Oper) (rest : List Nat) (o : Oper),
      a.eval (.tmp 16) = .chan (some cw) → a.eval (.tmp 17) = .agg #[] → ops[0]? = some o → o.op = Op.select #[{ chan := Operand.tmp 16, send := some (Operand.tmp 17), elem := 49 }] false → o.dst = some 18 → o.guard = none →
      regN Yba.prog ops Q rest (a.put (some 18) (.tuple #[.int .i64 v, .bool false])) w1 → regN Yba.prog ops Q (0 :: rest) a W := by
    rcases HB.out with rfl | rfl
    · refine ⟨0, W.setChan cw 1 #[.agg #[]] false (s + 1) r false, but_setChan _ _ _ _ _ _ _ _, ⟨s + 1, heap_setChan _ _ _ _ _ _ _ _ (by have := HCW.out; exact (Array.getElem?_eq_some_iff.1 this).1)⟩, fun Q a ops rest o h1 h2 h3 h4 h5 h6 h => ?_⟩
      exact regN_select_room (c := cw) (v := .agg #[]) (z := .agg #[]) h3 (by simp [Region.wanted, h6]) (by simp only [Act.eval, Array.getD_eq_getD_getElem?] at h1 h2; simp [go_sem, execOp, scase, h4, h1, h2]) HCW.out (by simp) (by rw [h5]; exact h)
    · refine ⟨-1, W, But.refl _ _, ⟨s, HCW.out⟩, fun Q a ops rest o h1 h2 h3 h4 h5 h6 h => ?_⟩
      exact regN_select_full (c := cw) (v := .agg #[]) (z := .agg #[]) h3 (by simp [Region.wanted, h6]) (by simp only [Act.eval, Array.getD_eq_getD_getElem?] at h1 h2; simp [go_sem, execOp, scase, h4, h1, h2]) HCW.out (by simp) (by rw [h5]; exact h)
  obtain ⟨v, w1, hbut, hs2, hsel⟩ := hs
  refine hsel _ _ _ _ _ rfl rfl rfl rfl rfl rfl ?_
  have H61 : w1.cell? ⟨C, 6, none⟩ = some (.chan (some cd)) := by
    have := H6.out
    unfold World.cell? at this ⊢
    rw [hbut.block C (fun h => hwC h.symm)]
    exact this
  have HD1 : w1.heap[cd]? = some (.chan 0 #[] true s' r' false) := (hbut.block cd (fun h => hne h.symm)).trans HCD.out
  have HF : Hid (But cw W w1 ∧ ∃ s2, w1.heap[cw]? = some (.chan 1 #[.agg #[]] false s2 r false)) := ⟨hbut, hs2⟩
  clear hsel hbut hs2 HB HCW HCD H6
  refine regN_op rfl rfl (fun K3 hK3 => ?_)
  go_simp
  rw [uponV_value]
  refine hK3 _ _ ?_
  clear hK3 K3
  refine regN_op rfl rfl (fun K3 hK3 => ?_)
  go_simp
  rw [uponV_value]
  refine hK3 _ _ ?_
  clear hK3 K3
  refine regN_nil ?_
  refine hK2 _ _ ?_
  clear hK2 K2
  refine wpN_of_wp ?_
  refine wp_block ?_
  refine wp_cond (t := (v == 0)) rfl ?_
  rw [ite_self]
  refine wp_skip ?_
  refine hK _ _ ?_
  clear hK K
  refine wpN_region ?_
  simp only [List.size_toArray, List.length_cons, List.length_nil, Nat.reduceAdd, List.range, List.range.loop]
  refine regN_op rfl rfl (fun K3 hK3 => ?_)
  go_simp
  rw [uponV_value]
  refine hK3 _ _ ?_
  clear hK3 K3
  refine regN_op rfl rfl (fun K3 hK3 => ?_)
  go_simp
  rw [uponV_value]
  refine hK3 _ _ ?_
  clear hK3 K3
  refine regN_op rfl rfl (fun K3 hK3 => ?_)
  go_simp
  rw [uponV_value]
  refine hK3 _ _ ?_
  clear hK3 K3
  refine regN_op rfl rfl (fun K3 hK3 => ?_)
  go_simp
  rw [uponV_value]
  refine hK3 _ _ ?_
  clear hK3 K3
  refine regN_recv_shut (c := cd) (z := .agg #[]) rfl rfl (by simp [go_sem, execOp, rcase, Act.eval, Act.put]) HD1 ?_
  refine regN_nil ?_
  go_end0
  exact ⟨rfl, HF.out⟩
end Go.Proofs.Ybulkbqbi
