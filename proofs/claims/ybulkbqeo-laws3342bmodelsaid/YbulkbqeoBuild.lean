/- zzs3342bbuild, a level up. By an AI agent. -/
import Derived.Test.YbulkbqeoZero
namespace Go.Proofs.Ybulkbqeo
open Go.RowKit

theorem box_facts {w2 w3 : World} {cs : Array Value} (hw3 : (w2.alloc (.cells cs 34)).drew = w3) : w3.heap.size = w2.heap.size + 1 ∧ Below w2.heap.size w2 w3 ∧ w3.heap[w2.heap.size]? = some (.cells cs 34 (0, 0)) := by
  subst hw3
  refine ⟨?_, ((Below.refl _ _).alloc (Nat.le_refl _) _).drew, ?_⟩
  · show (w2.heap.push _).size = _
    rw [Array.size_push]
  · show (w2.heap.push _)[w2.heap.size]? = _
    simp

theorem box_cells {w : World} {b : Nat} {v0 v1 v2 v3 v4 v5 : Value} {t : TypeId} {fr : Nat × Nat} (h : w.heap[b]? = some (.cells #[v0, v1, v2, v3, v4, v5] t fr)) :
    w.cell? ⟨b, 0, none⟩ = some v0 ∧ w.cell? ⟨b, 1, none⟩ = some v1 ∧ w.cell? ⟨b, 2, none⟩ = some v2 ∧ w.cell? ⟨b, 3, none⟩ = some v3 ∧ w.cell? ⟨b, 4, none⟩ = some v4 ∧ w.cell? ⟨b, 5, none⟩ = some v5 :=
  ⟨cell_at h 0, cell_at h 1, cell_at h 2, cell_at h 3, cell_at h 4, cell_at h 5⟩
theorem Ops.slice {lo hi : Nat} {w : World} {d : Nat} {u : Value} {t : Tr (d + 1)} (h : Ops lo hi w (d + 1) u t) : ∃ a l c, u = .slice a l c := by
  obtain ⟨a, c, hu, _⟩ := h
  exact ⟨a, _, c, hu⟩

set_option maxRecDepth 100000 in
set_option maxHeartbeats 2000000 in
theorem build_succ (d : Nat) (hd : d < 6) (ih : ∀ (v : Value) (B : Nat) (w : World), B ≤ w.heap.size → Nodes 1024 B w d v → Calls Yba.prog 6 #[v, .int .i64 d] w fun e w' => (∃ u t, e = .returned u ∧ Ops w.heap.size w'.heap.size w' (d + 1) u t) ∧ Below w.heap.size w w')
    (ad : Addr) (n cap B : Nat) (w : World) (hB : B ≤ w.heap.size) (h : Nodes 1024 B w (d + 1) (.slice (some ad) n cap)) :
    Calls Yba.prog 6 #[.slice (some ad) n cap, .int .i64 (((d + 1 : Nat) : Int))] w fun e w' => (∃ u t, e = .returned u ∧ Ops w.heap.size w'.heap.size w' (d + 2) u t) ∧ Below w.heap.size w w' := by
  obtain ⟨a, n', cap', hv, hn, hx⟩ := h
  simp only [Value.slice.injEq] at hv
  obtain ⟨rfl, rfl, rfl⟩ := hv
  have HX := hide hx
  clear hx
  have IH := hide ih
  clear ih
  have hsub : Lit.int .i64 ((((d + 1 : Nat) : Int)) - 1) = .int .i64 (d : Int) := by congr 1; omega
  have q22 : ∀ (w : World), (binOp .eql 22 (.slice (some ad) n cap) (.slice none 0 0)).run Yba.prog w = .ok (.bool false) w := fun w => Lib.run_eql_slice_nil w 22 37 (some ad) n cap 0 0 Yba.underlying22
  obtain ⟨i0, hi, hz0, hz1, hz2⟩ := info_parts Yba.info34
  go_enter Yba.func6, Yba.ntmps6
  go_wp2_with (at_make; refine wpList_make_full _ rfl _ _ 24 rfl w.heap.size 34 i0 _ 6 Yba.underlying24 hi hz0 hz1 .i64 .i64 _ _ n rfl rfl (by omega) (by omega) (by rw [hz2]; omega) (by unfold maxLen; omega) (Nat.le_refl _) ?_; intro w1 hown1 hgrow1)
  have hN1 : w.heap.size < w1.heap.size := (hown1.lt w.heap.size rfl).2
  go_loopw [16] (fun i wr => ∃ t : List (Int × Int × Int × Tr (d + 1)), t.length ≤ n ∧ i = .int .i64 (t.length : Int) ∧ Built w.heap.size n wr (d + 1) t ∧ w.heap.size < wr.heap.size ∧ Below w.heap.size w wr)
    (fun i _ => n - (intOf i).toNat)
  case atStart => exact ⟨[], by simp, rfl, built_start (d + 1) hown1, hN1, (Below.refl _ _).grown hgrow1 (Nat.le_refl _) (fun k hk => by cases hk)⟩
  case round =>
    obtain ⟨t, hk, rfl, hbt, hNs, hnx⟩ := hrel
    have HBT := hide hbt
    clear hbt
    by_cases hlt : t.length < n
    · obtain ⟨b, off, kd, us, ct, body, ha, hbB, k0, k1, u1, t1, c0, c1, c2, c3, hno⟩ := HX.out t.length hlt
      have HNO := hide hno
      clear hno
      obtain rfl := Option.some.inj ha
      clear ha
      have e := hnx.block b (by omega)
      have d0 := (cell_same (o := off + t.length * 4) e).trans c0
      have d1 := (cell_same (o := off + t.length * 4 + 1) e).trans c1
      have d2 := (cell_same (o := off + t.length * 4 + 2) e).trans c2
      have d3 := (cell_same (o := off + t.length * 4 + 3) e).trans c3
      clear c0 c1 c2 c3 e
      generalize hK : t.length = k at *
      have i1 : (0 : Int) ≤ (k : Int) := by omega
      have i2 : (k : Int) < (n : Int) := by omega
      by_cases hz : natF ct = 0
      all_goals
        go_wp2_with (go_at_call 9; refine (nat_any ct _ t1).mono ?_; (first | rw [hz] | skip); rintro e w2 ⟨rfl, rfl⟩)
        have z1 := World.new_ne w2 _ d0
        have z2 := World.new_ne w2 _ d1
        go_region_held3 (fun W => W.cell? ⟨b, off + k * 4, none⟩ = some (.int .u8 kd) ∧ W.cell? ⟨b, off + k * 4 + 1, none⟩ = some (.int .i64 us)) (go_keep)
          (first | (go_at_call 10; refine (kind_any kd _ k0 k1).mono ?_; rintro e w3 ⟨rfl, rfl⟩) | (go_at_call 9; refine (nat_any us _ u1).mono ?_; rintro e w3 ⟨rfl, rfl⟩))
        all_goals
          rename_i hHeld
          clear hHeld
          (first | (have hq : natF ct = 0 := hz; clear hq; generalize hw3 : (w2.alloc (Obj.cells #[Value.int .u8 (kindF kd), Value.int .i64 (natF us), Value.int .i64 1, Value.int .i64 0, Value.slice none 0 0, Value.nilIface] 34)).drew = w3) | generalize hw3 : (w2.alloc (Obj.cells #[Value.int .u8 (kindF kd), Value.int .i64 (natF us), Value.int .i64 (natF ct), Value.int .i64 0, Value.slice none 0 0, Value.nilIface] 34)).drew = w3)
          obtain ⟨s3, b3, o3⟩ := box_facts hw3
          clear hw3
          have eb : w3.cell? ⟨b, off + k * 4 + 3, none⟩ = some body := (cell_same (b3.block b (by omega))).trans d3
          have hcall := hide (IH.out body B w3 (by omega) (Nodes.below (hnx.trans (b3.mono (by omega)) |>.mono hB) d body HNO.out))
          have hdp : (0 : Int) < (d : Int) + 1 := by omega
          have F := hide (And.intro s3 (And.intro b3 o3))
          clear s3 b3 o3
          go_wp2_with fail
          refine hcall.out.mono ?_
          rintro e w4 ⟨⟨u, tu, rfl, ho⟩, b4⟩
          clear hcall
          obtain ⟨s3, b3, o3⟩ := F.out
          obtain ⟨v0, v1, v2, v3, v4, v5, e0, e1, e2, e3, e4, e5, fz⟩ := built_room HBT.out hlt
          have b24 : Below w2.heap.size w2 w4 := b3.trans (b4.mono (by omega))
          have o4 := (b4.block w2.heap.size (by omega)).trans o3
          obtain ⟨g0, g1, g2, g3, g4, g5⟩ := box_cells o4
          obtain ⟨ua, ul, uc, rfl⟩ := Ops.slice ho
          have gz := frozen_at o4
          have n4 := b24.block w.heap.size hNs
          have f0 := (cell_same (o := k * 6) n4).trans e0
          have f1 := (cell_same (o := k * 6 + 1) n4).trans e1
          have f2 := (cell_same (o := k * 6 + 2) n4).trans e2
          have f3 := (cell_same (o := k * 6 + 3) n4).trans e3
          have f4 := (cell_same (o := k * 6 + 4) n4).trans e4
          have f5 := (cell_same (o := k * 6 + 5) n4).trans e5
          have fz4 : ∀ j, w4.frozen? ⟨w.heap.size, j, none⟩ = false := fun j => (World.frozen?_of_block (w := w2) n4).trans (fz j)
          rw [s3] at ho
          have G := hide (And.intro b24 ho)
          have x1 : w.heap.size ≠ w2.heap.size := by omega
          have x2 : w2.heap.size ≠ w.heap.size := by omega
          clear F s3 b3 o3 b24 o4 n4 ho e0 e1 e2 e3 e4 e5 fz b4 eb d0 d1 d2 d3
          go_wp2
          refine ⟨end_succ kd us ct _ _ tu HBT.out hK hlt hNs hnx G.out.1 G.out.2 u1 t1 (by first | exact if_pos hz | exact if_neg hz) _ rfl, ?_⟩
          simp [intOf]; omega
    · have ht : t.length = n := by omega
      rw [ht]
      go_wp2
      go_ret
      exact ⟨⟨_, _, rfl, built_done HBT.out ht hn hNs⟩, hnx⟩

set_option maxRecDepth 100000 in
theorem build_nil (n cap : Nat) (dv : Int) (w : World) (hn : n = 0) :
    Calls Yba.prog 6 #[.slice none n cap, .int .i64 dv] w fun e w' => e = .returned (.slice none 0 0) ∧ w' = w := by
  subst hn
  have q22 : ∀ (w : World), (binOp .eql 22 (.slice none 0 cap) (.slice none 0 0)).run Yba.prog w = .ok (.bool true) w := fun w => Lib.run_eql_slice_nil w 22 37 none 0 cap 0 0 Yba.underlying22
  go_enter Yba.func6, Yba.ntmps6
  go_wp2
  go_ret
  exact ⟨rfl, rfl⟩

theorem nodes_nil {M B d n cap : Nat} {w : World} (h : Nodes M B w d (.slice none n cap)) : n = 0 := by
  cases d with
  | zero =>
    obtain ⟨a, n', cap', hv, _, hx⟩ := h
    simp only [Value.slice.injEq] at hv
    obtain ⟨rfl, rfl, rfl⟩ := hv
    refine Nat.eq_zero_of_not_pos fun hp => ?_
    obtain ⟨_, _, _, _, _, _, ha, _⟩ := hx 0 hp
    cases ha
  | succ d =>
    obtain ⟨a, n', cap', hv, _, hx⟩ := h
    simp only [Value.slice.injEq] at hv
    obtain ⟨rfl, rfl, rfl⟩ := hv
    refine Nat.eq_zero_of_not_pos fun hp => ?_
    obtain ⟨_, _, _, _, _, _, ha, _⟩ := hx 0 hp
    cases ha

theorem nodes_slice {M B d : Nat} {w : World} {v : Value} (h : Nodes M B w d v) : ∃ a n cap, v = .slice a n cap := by
  cases d with
  | zero => obtain ⟨a, n, cap, hv, _⟩ := h; exact ⟨a, n, cap, hv⟩
  | succ d => obtain ⟨a, n, cap, hv, _⟩ := h; exact ⟨a, n, cap, hv⟩

theorem ops_nil (lo hi : Nat) (w : World) (d : Nat) (t : List (Int × Int × Int × Tr d)) (ht : t = []) : Ops lo hi w (d + 1) (.slice none 0 0) t := by
  subst ht
  exact ⟨none, 0, rfl, Nat.zero_le _, fun i x hx => by simp [itm] at hx⟩

/-- zzs3342bbuild, at any depth up to six: a tree in blocks of its own. -/
theorem build_any : ∀ (d : Nat), d ≤ 6 → ∀ (v : Value) (B : Nat) (w : World), B ≤ w.heap.size → Nodes 1024 B w d v →
    Calls Yba.prog 6 #[v, .int .i64 d] w fun e w' => (∃ u t, e = .returned u ∧ Ops w.heap.size w'.heap.size w' (d + 1) u t) ∧ Below w.heap.size w w'
  | 0, _, v, B, w, hB, h => by
    obtain ⟨a, n, cap, rfl⟩ := nodes_slice h
    cases a with
    | none =>
      refine (build_nil n cap _ w (nodes_nil h)).mono ?_
      rintro e w' ⟨rfl, rfl⟩
      exact ⟨⟨_, [], rfl, ops_nil _ _ _ 0 _ rfl⟩, Below.refl _ _⟩
    | some ad => exact build_zero ad n cap B w hB h
  | d + 1, hd, v, B, w, hB, h => by
    obtain ⟨a, n, cap, rfl⟩ := nodes_slice h
    cases a with
    | none =>
      refine (build_nil n cap _ w (nodes_nil h)).mono ?_
      rintro e w' ⟨rfl, rfl⟩
      exact ⟨⟨_, [], rfl, ops_nil _ _ _ (d + 1) _ rfl⟩, Below.refl _ _⟩
    | some ad => exact build_succ d (by omega) (build_any d (by omega)) ad n cap B w hB h
end Go.Proofs.Ybulkbqeo
