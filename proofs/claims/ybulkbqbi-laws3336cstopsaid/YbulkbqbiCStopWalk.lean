/- LawS3336CStop, walked. By an AI agent. -/
import Derived.Test.YbulkbqbiCStopParts
namespace Go.Proofs.Ybulkbqbi
open Go.RowKit Go.Conc
theorem Yba.info90 : (Yba.prog.info? 90).map (fun i => (i.zero, i.size, i.bytes)) = some (some (.agg #[.nilFunc, .bool false]), 2, 16) := by kernel_rfl

theorem Yba.funcNil (b : Nat) (w : World) : (binOp .eql 1 (.func (.func 10) #[] #[.pointer (some ⟨b, 0, none⟩)]) .nilFunc).run Yba.prog w = .ok (.bool false) w := by kernel_rfl
theorem st_cells {w W : World} {v wk dn : Value} {nt : Int} {cl : Bool} {k cp : Nat} {a : Option Addr} (h : St w W v wk dn nt cl k) (hv : Value.slice a k cp = v) (j : Nat) (hj : j < k) :
    ∃ g, a = some ⟨g, 0, none⟩ ∧ W.cell? ⟨g, j * 2, none⟩ = some (.func (.func 10) #[] #[.pointer (some ⟨w.heap.size, 0, none⟩)]) ∧ W.cell? ⟨g, j * 2 + 1, none⟩ = some (.bool ((j : Int) % 2 == 0)) := by
  subst hv
  rcases h.own.2 with ⟨_, h0⟩ | ⟨g, cap, cur, hv, _⟩
  · omega
  · simp only [Value.slice.injEq, true_and] at hv
    obtain ⟨rfl, rfl⟩ := hv
    have ho := h.own
    have hx := xsOf_at (.func (.func 10) #[] #[.pointer (some ⟨w.heap.size, 0, none⟩)]) k j hj
    exact ⟨g, rfl, (ho.cellAt (j * 2) (by omega)).trans hx.1, (ho.cellAt (j * 2 + 1) (by omega)).trans hx.2⟩

set_option maxRecDepth 100000 in
set_option maxHeartbeats 1000000 in
theorem cstop_walk (n : Int) (pre was : Bool) (nt : Int) (hn0 : 0 ≤ n) (hn1 : n ≤ 255) (w : World) :
    Calls Yba.prog 5 #[.int .u8 n, .bool pre, .bool was, .int .i64 nt] w fun e w' => e = .returned (.bool true) ∧ Below w.heap.size w w' := by
  have hmf : ∀ (fn : Fn) (first cap : Array Value) (w : World), (Instr.makeFunc fn first cap).run Yba.prog w = .ok (.func fn first cap) w := fun _ _ _ _ => rfl
  refine calls_of_wpN Yba.func5 rfl ?_
  simp only [Yba.ntmps5, List.size_toArray, List.length_cons, List.length_nil, Nat.reduceAdd, Nat.reduceSub, Array.replicate_succ, Array.replicate_zero, List.push_toArray, List.append_toArray, List.nil_append, List.cons_append]
  refine wpN_then fun K hK => ?_
  go_wp2
  refine wpN_then fun K hK => ?_
  go_wp2
  refine wpN_then fun K hK => ?_
  go_wp2
  refine wpN_then fun K hK => ?_
  go_wp2
  refine wpN_then fun K hK => ?_
  go_wp2
  refine wpN_then fun K hK => ?_
  go_wp2
  go_loopw [13] (fun i wr => ∃ (k : Nat) (v : Value), (k : Int) ≤ n % 70 ∧ i = .int .i64 k ∧ Cb w wr v (.chan none) (.chan none) nt was ∧
      wr.ownsRow (w.heap.size + 2) 90 2 v k (xsOf (.func (.func 10) #[] #[.pointer (some ⟨w.heap.size, 0, none⟩)]) k))
    (fun i _ => 70 - (intOf i).toNat)
  case atStart =>
    refine ⟨0, .slice none 0 0, by omega, rfl, ⟨?_, ?_, ?_, ?_⟩, World.ownsRow_nil _ _ _ _⟩
    · rw [Below.heap_alloc _ _ _ (by simp)]; exact heap_alloc_new _ _
    · have := heap_alloc_new (w.alloc (Obj.cells #[Value.int IntKind.i64 0] 3)) (Obj.cells #[.int .i32 0, .int .u32 0, .slice none 0 0, .int .i64 nt, .chan none, .bool was, .chan none] 59)
      simpa only [World.size_alloc] using this
    · exact ((Below.refl _ _).alloc (Nat.le_refl _) _).alloc (by simp) _
    · simp
  case round =>
    obtain ⟨k, v, hk, rfl, hcb, hown⟩ := hrel
    by_cases hlt : (k : Int) < n % 70
    · have c2 : wr.cell? ⟨w.heap.size + 1, 2, none⟩ = some v := cell_at hcb.cb 2
      have f2 : wr.frozen? ⟨w.heap.size + 1, 2, none⟩ = false := frozen_at hcb.cb 2
      have hsz := hcb.size
      have HCB : Hid (Cb w wr v (.chan none) (.chan none) nt was) := hcb
      clear hcb
      obtain ⟨i0, hi, hz0, hz1, hz2⟩ := info_parts Yba.info90
      go_wp2_with (at_builtin; refine wpList_append_lies _ rfl _ _ 56 rfl (w.heap.size + 2) 90 i0 (.agg #[.nilFunc, .bool false]) 2 16 Yba.underlying56 hi hz0 hz1 hz2 rfl (by decide) v k _ rfl (hown.alloc _) ⟨wr.heap.size, 0, none⟩ 1 1 [.func (.func 10) #[] #[.pointer (some ⟨w.heap.size, 0, none⟩)], .bool ((k : Int) % 2 == 0)] rfl rfl (World.news_of_block (heap_alloc_new _ _)) (by intro u hu; simp at hu; rcases hu with rfl | rfl <;> rfl) (by omega) (by unfold maxLen; omega) (by omega) (by simp; omega) (wr.heap.size + 1) (by simp) ?_; intro g cap w1 hown1 hgrow1 hat hglt; have c2' : w1.cell? ⟨w.heap.size + 1, 2, none⟩ = some v := cb_far HCB.out hown hgrow1 (cell_at HCB.out.cb 2); have f2' := cb_far_frozen HCB.out hown hgrow1; have hgB : ¬ g = w.heap.size + 1 := by have := hown1.lt g rfl; omega)
      go_roundw
      case rel =>
        obtain ⟨g1, g2⟩ := cb_step HCB.out hown hown1 hgrow1
        exact ⟨k + 1, _, by omega, by go_num, g1, g2⟩
      case measure => simp [intOf]; omega
    · have hkN : (k : Int) = n % 70 := by omega
      have HN : Hid ((k : Int) = n % 70) := hkN
      clear hkN
      obtain ⟨a, cp, rfl⟩ : ∃ a cp, v = .slice a k cp := by
        rcases hown.2 with ⟨rfl, h0⟩ | ⟨g, cap, _, rfl, _⟩
        · rw [h0]; exact ⟨_, _, rfl⟩
        · exact ⟨_, _, rfl⟩
      generalize hv : Value.slice a k cp = v at hcb hown
      have HV : Hid (Value.slice a k cp = v) := hv
      clear hv
      have hsz := hcb.size
      have c4 : ∀ o, (wr.alloc o).cell? ⟨w.heap.size + 1, 4, none⟩ = some (.chan none) := fun o => (World.cell?_alloc_past _ _ _ (by show w.heap.size + 1 < _; omega)).trans (cell_at hcb.cb 4)
      have f4 : ∀ o, (wr.alloc o).frozen? ⟨w.heap.size + 1, 4, none⟩ = false := fun o => (World.frozen?_alloc_past _ _ _ (by show w.heap.size + 1 < _; omega)).trans (frozen_at hcb.cb 4)
      have hm1 := Yba.mk1
      have hm0 := Yba.mk0
      have HST : Hid (St w wr v (.chan none) (.chan none) nt was k) := ⟨hcb, hown⟩
      clear hcb hown
      go_wp2
      refine wpN_then fun K hK => ?_
      go_wp2
      have HS1 : Hid (St w ((wr.alloc (Obj.chan 1 #[] false 0 0 false)).setCell ⟨w.heap.size + 1, 4, none⟩ (.chan (some wr.heap.size))) v (.chan (some wr.heap.size)) (.chan none) nt was k) :=
        (HST.out.alloc _).set 4 _ _ _ _ rfl
      have HC1 : Hid (((wr.alloc (Obj.chan 1 #[] false 0 0 false)).setCell ⟨w.heap.size + 1, 4, none⟩ (.chan (some wr.heap.size))).heap[wr.heap.size]? = some (.chan 1 #[] false 0 0 false)) :=
        (Below.heap_setCell _ _ _ _ (by show wr.heap.size ≠ w.heap.size + 1; omega)).trans (heap_alloc_new _ _)
      clear c4 f4 HST
      generalize (wr.alloc (Obj.chan 1 #[] false 0 0 false)).setCell ⟨w.heap.size + 1, 4, none⟩ (.chan (some wr.heap.size)) = W1 at HS1 HC1 ⊢
      generalize wr.heap.size = cw at HS1 HC1 hsz ⊢
      refine wpN_seq_k fun K hK => ?_
      refine wpN_then fun K2 hK2 => ?_
      go_wp2
      refine wpN_cond (t := pre) rfl ?_
      have c4 : W1.cell? ⟨w.heap.size + 1, 4, none⟩ = some (.chan (some cw)) := cell_at HS1.out.cb.cb 4
      cases pre
      case' false =>
        simp only [Bool.false_eq_true, if_false]
        refine wpN_of_wp (wp_skip ?_)
        refine hK _ _ ?_
        have HS2 := HS1
        have HC2 := HC1
        generalize W1 = W2 at HS2 HC2 ⊢
        have HX : Hid (∃ buf s, (buf = #[] ∨ buf = #[.agg #[]]) ∧ W2.heap[cw]? = some (.chan 1 buf false s 0 false)) := ⟨_, _, .inl rfl, HC2.out⟩
        clear HC2
        clear HS1 HC1 c4 hK K
      case' true =>
        simp only [if_true]
        refine wpN_region ?_
        simp only [List.size_toArray, List.length_cons, List.length_nil, Nat.reduceAdd, List.range, List.range.loop]
        refine regN_op rfl rfl (fun K3 hK3 => ?_)
        go_simp
        rw [uponV_value]
        refine hK3 _ _ ?_
        clear hK3 K3
        refine regN_op rfl rfl (fun K3 hK3 => ?_)
        go_simp
        rw [uponV_value]
        refine hK3 _ _ ?_
        clear hK3 K3
        refine regN_op rfl rfl (fun K3 hK3 => ?_)
        go_simp
        rw [uponV_value]
        refine hK3 _ _ ?_
        clear hK3 K3
        refine regN_op rfl rfl (fun K3 hK3 => ?_)
        go_simp
        rw [uponV_value]
        refine hK3 _ _ ?_
        clear hK3 K3
        refine regN_op rfl rfl (fun K3 hK3 => ?_)
        go_simp
        rw [uponV_value]
        refine hK3 _ _ ?_
        clear hK3 K3
        refine regN_send (c := cw) (v := .agg #[]) (z := .tuple #[]) rfl rfl (by simp [go_sem, execOp, scase, Act.eval, Act.put]) HC1.out (by simp) ?_
        refine regN_nil ?_
        refine hK _ _ ?_
        walk_nrm
        have HS2 : Hid (St w (W1.setChan cw 1 #[.agg #[]] false (0 + 1) 0 false) v (.chan (some cw)) (.chan none) nt was k) := HS1.out.but hsz HC1.out (but_setChan _ _ _ _ _ _ _ _)
        have HC2 : Hid ((W1.setChan cw 1 #[.agg #[]] false (0 + 1) 0 false).heap[cw]? = some (.chan 1 #[.agg #[]] false (0 + 1) 0 false)) := heap_setChan _ _ _ _ _ _ _ _ (Array.getElem?_eq_some_iff.1 HC1.out).1
        change wpN _ _ _ _ (W1.setChan cw 1 #[.agg #[]] false (0 + 1) 0 false)
        generalize W1.setChan cw 1 #[.agg #[]] false (0 + 1) 0 false = W2 at HS2 HC2 ⊢
        have HX : Hid (∃ buf s, (buf = #[] ∨ buf = #[.agg #[]]) ∧ W2.heap[cw]? = some (.chan 1 buf false s 0 false)) := ⟨_, _, .inr rfl, HC2.out⟩
        clear HC2
        clear HS1 HC1 c4 hK K
      all_goals
        obtain ⟨buf, sN, hB, hC2⟩ := HX.out
        have HB : Hid (buf = #[] ∨ buf = #[.agg #[]]) := hB
        have HC2 := hide hC2
        clear HX hB hC2
        have hsz2 := HS2.out.cb.size
        have hcw2 : cw < W2.heap.size := (Array.getElem?_eq_some_iff.1 HC2.out).1
        have c6 : ∀ o, (W2.alloc o).cell? ⟨w.heap.size + 1, 6, none⟩ = some (.chan none) := fun o => (World.cell?_alloc_past _ _ _ (by show w.heap.size + 1 < _; omega)).trans (cell_at HS2.out.cb.cb 6)
        have f6 : ∀ o, (W2.alloc o).frozen? ⟨w.heap.size + 1, 6, none⟩ = false := fun o => (World.frozen?_alloc_past _ _ _ (by show w.heap.size + 1 < _; omega)).trans (frozen_at HS2.out.cb.cb 6)
        refine wpN_then fun K hK => ?_
        go_wp2
        have HS3 : Hid (St w ((W2.alloc (Obj.chan 0 #[] false 0 0 false)).setCell ⟨w.heap.size + 1, 6, none⟩ (.chan (some W2.heap.size))) v (.chan (some cw)) (.chan (some W2.heap.size)) nt was k) :=
          (HS2.out.alloc _).set 6 _ _ _ _ rfl
        have HD3 : Hid (((W2.alloc (Obj.chan 0 #[] false 0 0 false)).setCell ⟨w.heap.size + 1, 6, none⟩ (.chan (some W2.heap.size))).heap[W2.heap.size]? = some (.chan 0 #[] false 0 0 false)) :=
          (Below.heap_setCell _ _ _ _ (by show W2.heap.size ≠ w.heap.size + 1; omega)).trans (heap_alloc_new _ _)
        have HC3 : Hid (((W2.alloc (Obj.chan 0 #[] false 0 0 false)).setCell ⟨w.heap.size + 1, 6, none⟩ (.chan (some W2.heap.size))).heap[cw]? = W2.heap[cw]?) :=
          (Below.heap_setCell _ _ _ _ (by show cw ≠ w.heap.size + 1; omega)).trans (Below.heap_alloc _ _ _ hcw2)
        have HC3' := HC3.out.trans HC2.out
        clear HC3 HC2 HS2 c6 f6
        have HC3 := hide HC3'
        clear HC3'
        generalize (W2.alloc (Obj.chan 0 #[] false 0 0 false)).setCell ⟨w.heap.size + 1, 6, none⟩ (.chan (some W2.heap.size)) = W3 at HS3 HC3 HD3 ⊢
        generalize W2.heap.size = cd at HS3 HD3 hsz2 hcw2 ⊢
        have hne : cw ≠ cd := by omega
        have c6 : W3.cell? ⟨w.heap.size + 1, 6, none⟩ = some (.chan (some cd)) := cell_at HS3.out.cb.cb 6
        have hcl := fun ats ty => run_close_open (P := Yba.prog) (w := W3) ats ty HD3.out
        refine wpN_then fun K hK => ?_
        go_wp2
        change wpN _ _ _ _ (W3.setChan cd 0 #[] true 0 0 false)
        have HS4 : Hid (St w (W3.setChan cd 0 #[] true 0 0 false) v (.chan (some cw)) (.chan (some cd)) nt was k) := HS3.out.but hsz2 HD3.out (but_setChan _ _ _ _ _ _ _ _)
        have HD4 : Hid ((W3.setChan cd 0 #[] true 0 0 false).heap[cd]? = some (.chan 0 #[] true 0 0 false)) := heap_setChan _ _ _ _ _ _ _ _ (Array.getElem?_eq_some_iff.1 HD3.out).1
        have HC4 := hide (((but_setChan W3 cd 0 #[] true 0 0 false).block cw hne).trans HC3.out)
        clear HS3 HC3 HD3 c6 hcl
        generalize W3.setChan cd 0 #[] true 0 0 false = W4 at HS4 HC4 HD4 ⊢
        refine wpN_then fun K hK => ?_
        have hstop := hide (stop_any (w.heap.size + 1) cw cd _ _ _ _ was buf W4 (cell_at HS4.out.cb.cb 0) (frozen_at HS4.out.cb.cb 0) (cell_at HS4.out.cb.cb 4) (cell_at HS4.out.cb.cb 5) (frozen_at HS4.out.cb.cb 5) (cell_at HS4.out.cb.cb 6) HB.out HC4.out HD4.out hne (by omega) (by omega))
        go_wp2_with (go_at_call 11; refine hstop.out.mono ?_; rintro e w6 ⟨rfl, hbut, s2, hc6⟩)
        have HS6 : Hid (St w w6 v (.chan (some cw)) (.chan (some cd)) nt true k) := HS4.out.stop.but hsz ((W3_block _ _ _ (by omega)).trans HC4.out) hbut
        clear HS4 HC4 HD4 HB hbut hstop hm0 hm1 hmf
        refine wpN_of_wp ?_
        have c5 : w6.cell? ⟨w.heap.size + 1, 5, none⟩ = some (.bool true) := cell_at HS6.out.cb.cb 5
        have c4 : w6.cell? ⟨w.heap.size + 1, 4, none⟩ = some (.chan (some cw)) := cell_at HS6.out.cb.cb 4
        have c3 : w6.cell? ⟨w.heap.size + 1, 3, none⟩ = some (.int .i64 nt) := cell_at HS6.out.cb.cb 3
        have c2 : w6.cell? ⟨w.heap.size + 1, 2, none⟩ = some (.slice a k cp) := (cell_at HS6.out.cb.cb 2).trans (by rw [HV.out]; rfl)
        have c0 : w6.cell? ⟨w.heap.size, 0, none⟩ = some (.int .i64 0) := cell_at HS6.out.cb.calls 0
        have hlen := fun ty => run_len_chan (P := Yba.prog) 57 ty Yba.underlying57 hc6
        have hkn : ((k : Int) != n % 70) = false := by rw [HN.out]; simp
        go_wp2
        have heq := Yba.funcNil w.heap.size
        have hk70 : (k : Int) < 70 := by omega
        go_loop [14] (fun i => ∃ j : Nat, j ≤ k ∧ i = .int .i64 j) (fun i => k - (intOf i).toNat)
        case atStart => exact ⟨0, Nat.zero_le _, rfl⟩
        case round =>
          obtain ⟨j, hj, rfl⟩ := hrel
          by_cases hjk : j < k
          · obtain ⟨g, rfl, e1, e2⟩ := st_cells HS6.out HV.out j hjk
            go_wp2
            go_round
            case rel => exact ⟨j + 1, by omega, by go_num⟩
            case measure => simp [intOf]; omega
          · have m0 : w6.cell? ⟨w.heap.size + 1, 0, none⟩ = some (.int .i32 0) := cell_at HS6.out.cb.cb 0
            have z0 : w6.frozen? ⟨w.heap.size + 1, 0, none⟩ = false := frozen_at HS6.out.cb.cb 0
            have m1 : (w6.setCell ⟨w.heap.size + 1, 0, none⟩ (.int .i32 1)).cell? ⟨w.heap.size + 1, 0, none⟩ = some (.int .i32 1) := World.cell?_setCell_same _ _ _ m0
            have z1 : (w6.setCell ⟨w.heap.size + 1, 0, none⟩ (.int .i32 1)).frozen? ⟨w.heap.size + 1, 0, none⟩ = false := by rw [World.frozen?_setCell]; exact z0
            go_wp2_with (first
              | (go_at_call 12; refine (trylock_free (w.heap.size + 1) 0 _ m0 z0).mono ?_; rintro e w' ⟨rfl, rfl⟩)
              | (go_at_call 13; refine (unlock_held (w.heap.size + 1) 0 _ m1 z1).mono ?_; rintro e w' ⟨rfl, rfl⟩))
            go_ret
            exact ⟨rfl, (HS6.out.cb.below.setCell (by show w.heap.size ≤ w.heap.size + 1; omega) _).setCell (by show w.heap.size ≤ w.heap.size + 1; omega) _⟩
end Go.Proofs.Ybulkbqbi
