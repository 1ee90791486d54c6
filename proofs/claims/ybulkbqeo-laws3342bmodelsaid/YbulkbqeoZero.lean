/- zzs3342bbuild: it makes a tree of operations out of the nodes. By an AI agent. -/
import Derived.Test.YbulkbqeoBuilt
import Derived.Deep.RegionHeld3
import Derived.WalkSpells
namespace Go.Proofs.Ybulkbqeo
open Go.RowKit
theorem Yba.info34 : (Yba.prog.info? 34).map (fun i => (i.zero, i.size, i.bytes)) = some (some (.agg #[.int .u8 0, .int .i64 0, .int .i64 0, .int .i64 0, .slice none 0 0, .nilIface]), 6, 72) := by kernel_rfl

/-- A count of at least one. -/
def cntF (ct : Int) : Int := if natF ct = 0 then 1 else natF ct

theorem fine_of {α : Type} (kd us ct : Int) (z : α) (u1 : (Lit.int .i64 us).wf = true) (t1 : (Lit.int .i64 ct).wf = true) : Fine (kindF kd, natF us, cntF ct, z) := by
  have h1 := kindF_bound kd
  have h2 := natF_bound u1
  have h3 := natF_bound t1
  unfold Fine cntF
  dsimp only
  split <;> omega

theorem close_zero {N n k : Nat} {w w2 : World} {t : List (Int × Int × Int × Tr 0)} {x : Int × Int × Int × Tr 0} (o : Obj) (h : Built N n w2 0 t) (hK : t.length = k) (hlt : k < n) (hNs : N < w2.heap.size) (hnx : Below N w w2) (hf : Fine x) :
    Built N n (((six w2 N (k * 6) (.int .u8 x.1) (.int .i64 x.2.1) (.int .i64 x.2.2.1) (.int .i64 0) (.slice none 0 0) .nilIface).alloc o).drew) 0 (t ++ [x]) ∧
    N < (((six w2 N (k * 6) (.int .u8 x.1) (.int .i64 x.2.1) (.int .i64 x.2.2.1) (.int .i64 0) (.slice none 0 0) .nilIface).alloc o).drew).heap.size ∧
    Below N w (((six w2 N (k * 6) (.int .u8 x.1) (.int .i64 x.2.1) (.int .i64 x.2.2.1) (.int .i64 0) (.slice none 0 0) .nilIface).alloc o).drew) := by
  subst hK
  generalize hW : six w2 N (t.length * 6) (.int .u8 x.1) (.int .i64 x.2.1) (.int .i64 x.2.2.1) (.int .i64 0) (.slice none 0 0) .nilIface = W
  have hsz : W.heap.size = w2.heap.size := by rw [← hW, six_size]
  have hsz2 : ((W.alloc o).drew).heap.size = w2.heap.size + 1 := by
    show (W.heap.push o).size = _
    rw [Array.size_push, hsz]
  have hold : ∀ b, b < w2.heap.size → ((W.alloc o).drew).heap[b]? = W.heap[b]? := fun b hb => Below.heap_alloc _ _ _ (by omega)
  refine ⟨built_step h hlt (body := .slice none 0 0) (fun cs hcs => ?_) (fun b h1 h2 => ?_) (by omega) hf rfl, by omega, ?_⟩
  · rw [hold N hNs, ← hW]; exact six_block hcs _ _ _ _ _ _ _
  · rw [hold b h2, ← hW]; exact six_other _ _ _ _ _ _ _ _ _ _ (by omega)
  · rw [← hW]; exact ((six_below hnx (Nat.le_refl _) _ _ _ _ _ _ _).alloc (by rw [six_size]; omega) _).drew

theorem close_succ {N n k d : Nat} {w w2 w4 : World} {t : List (Int × Int × Int × Tr d)} {x : Int × Int × Int × Tr d} {u : Value} (h : Built N n w2 d t) (hK : t.length = k) (hlt : k < n) (hNs : N < w2.heap.size) (hnx : Below N w w2) (hf : Fine x)
    (hb4 : Below w2.heap.size w2 w4) (ho : Ops (w2.heap.size + 1) w4.heap.size w4 d u x.2.2.2) :
    Built N n (six (w4.setCell ⟨w2.heap.size, 4, none⟩ u) N (k * 6) (.int .u8 x.1) (.int .i64 x.2.1) (.int .i64 x.2.2.1) (.int .i64 0) u .nilIface) d (t ++ [x]) ∧
    N < (six (w4.setCell ⟨w2.heap.size, 4, none⟩ u) N (k * 6) (.int .u8 x.1) (.int .i64 x.2.1) (.int .i64 x.2.2.1) (.int .i64 0) u .nilIface).heap.size ∧
    Below N w (six (w4.setCell ⟨w2.heap.size, 4, none⟩ u) N (k * 6) (.int .u8 x.1) (.int .i64 x.2.1) (.int .i64 x.2.2.1) (.int .i64 0) u .nilIface) := by
  subst hK
  have hsz4 : w2.heap.size ≤ w4.heap.size := hb4.size
  have hs5 : (w4.setCell ⟨w2.heap.size, 4, none⟩ u).heap.size = w4.heap.size := by simp [World.setCell]
  have hold : ∀ b, b ≠ w2.heap.size → (w4.setCell ⟨w2.heap.size, 4, none⟩ u).heap[b]? = w4.heap[b]? := fun b hb => Below.heap_setCell _ _ _ _ hb
  have hN4 : (w4.setCell ⟨w2.heap.size, 4, none⟩ u).heap[N]? = w2.heap[N]? := (hold N (by omega)).trans (hb4.block N hNs)
  refine ⟨built_step h hlt (body := u) (fun cs hcs => ?_) (fun b h1 h2 => ?_) (by rw [six_size]; omega) hf ?_, by rw [six_size]; omega, ?_⟩
  · exact six_block (hN4.trans hcs) _ _ _ _ _ _ _
  · rw [six_other _ _ _ _ _ _ _ _ _ _ (by omega), hold b (by omega)]; exact hb4.block b h2
  · rw [six_size, hs5]
    exact Ops.mono (by omega) (Nat.le_refl _) _ _ _ (Ops.same (fun b h1 h2 => by rw [six_other _ _ _ _ _ _ _ _ _ _ (by omega), hold b (by omega)]) _ _ _ ho)
  · exact six_below (((hnx.trans (hb4.mono (by omega)))).setCell (show N ≤ w2.heap.size by omega) _) (Nat.le_refl _) _ _ _ _ _ _ _

theorem end_zero {N n k : Nat} {w w2 : World} {t : List (Int × Int × Int × Tr 0)} (tu : Tr 0) (kd us ct c : Int) (o : Obj) (h : Built N n w2 0 t) (hK : t.length = k) (hlt : k < n) (hNs : N < w2.heap.size) (hnx : Below N w w2)
    (u1 : (Lit.int .i64 us).wf = true) (t1 : (Lit.int .i64 ct).wf = true) (hc : cntF ct = c) (W : World)
    (hW : W = ((((((((w2.setCell ⟨N, k * 6, none⟩ (.int .u8 (kindF kd))).setCell ⟨N, k * 6 + 1, none⟩ (.int .i64 (natF us))).setCell ⟨N, k * 6 + 2, none⟩ (.int .i64 c)).setCell ⟨N, k * 6 + 3, none⟩ (.int .i64 0)).setCell ⟨N, k * 6 + 4, none⟩ (.slice none 0 0)).setCell ⟨N, k * 6 + 5, none⟩ .nilIface).alloc o).drew)) :
    ∃ t' : List (Int × Int × Int × Tr 0), t'.length ≤ n ∧ Value.int .i64 ((k : Int) + 1) = .int .i64 (t'.length : Int) ∧ Built N n W 0 t' ∧ N < W.heap.size ∧ Below N w W := by
  subst hc
  have hcl := close_zero o (x := (kindF kd, natF us, cntF ct, tu)) h hK hlt hNs hnx (fine_of kd us ct tu u1 t1)
  simp only [six] at hcl
  rw [← hW] at hcl
  have hl : (t ++ [(kindF kd, natF us, cntF ct, tu)]).length = k + 1 := by rw [List.length_append, hK]; rfl
  refine ⟨_, ?_, ?_, hcl⟩
  · rw [hl]; omega
  · rw [hl]; rfl

theorem end_succ {N n k d : Nat} {w w2 w4 : World} {t : List (Int × Int × Int × Tr d)} (kd us ct c : Int) (u : Value) (tu : Tr d) (h : Built N n w2 d t) (hK : t.length = k) (hlt : k < n) (hNs : N < w2.heap.size) (hnx : Below N w w2)
    (hb4 : Below w2.heap.size w2 w4) (ho : Ops (w2.heap.size + 1) w4.heap.size w4 d u tu)
    (u1 : (Lit.int .i64 us).wf = true) (t1 : (Lit.int .i64 ct).wf = true) (hc : cntF ct = c) (W : World)
    (hW : W = ((((((w4.setCell ⟨w2.heap.size, 4, none⟩ u).setCell ⟨N, k * 6, none⟩ (.int .u8 (kindF kd))).setCell ⟨N, k * 6 + 1, none⟩ (.int .i64 (natF us))).setCell ⟨N, k * 6 + 2, none⟩ (.int .i64 c)).setCell ⟨N, k * 6 + 3, none⟩ (.int .i64 0)).setCell ⟨N, k * 6 + 4, none⟩ u).setCell ⟨N, k * 6 + 5, none⟩ .nilIface) :
    ∃ t' : List (Int × Int × Int × Tr d), t'.length ≤ n ∧ Value.int .i64 ((k : Int) + 1) = .int .i64 (t'.length : Int) ∧ Built N n W d t' ∧ N < W.heap.size ∧ Below N w W := by
  subst hc
  have hcl := close_succ (x := (kindF kd, natF us, cntF ct, tu)) h hK hlt hNs hnx (fine_of kd us ct tu u1 t1) hb4 ho
  simp only [six] at hcl
  rw [← hW] at hcl
  have hl : (t ++ [(kindF kd, natF us, cntF ct, tu)]).length = k + 1 := by rw [List.length_append, hK]; rfl
  refine ⟨_, ?_, ?_, hcl⟩
  · rw [hl]; omega
  · rw [hl]; rfl

set_option maxRecDepth 100000 in
set_option maxHeartbeats 2000000 in
theorem build_zero (ad : Addr) (n cap B : Nat) (w : World) (hB : B ≤ w.heap.size) (h : Nodes 1024 B w 0 (.slice (some ad) n cap)) :
    Calls Yba.prog 6 #[.slice (some ad) n cap, .int .i64 0] w fun e w' => (∃ u t, e = .returned u ∧ Ops w.heap.size w'.heap.size w' 1 u t) ∧ Below w.heap.size w w' := by
  obtain ⟨a, n', cap', hv, hn, hx⟩ := h
  simp only [Value.slice.injEq] at hv
  obtain ⟨rfl, rfl, rfl⟩ := hv
  have HX := hide hx
  clear hx
  have q22 : ∀ (w : World), (binOp .eql 22 (.slice (some ad) n cap) (.slice none 0 0)).run Yba.prog w = .ok (.bool false) w := fun w => Lib.run_eql_slice_nil w 22 37 (some ad) n cap 0 0 Yba.underlying22
  obtain ⟨i0, hi, hz0, hz1, hz2⟩ := info_parts Yba.info34
  go_enter Yba.func6, Yba.ntmps6
  go_wp2_with (at_make; refine wpList_make_full _ rfl _ _ 24 rfl w.heap.size 34 i0 _ 6 Yba.underlying24 hi hz0 hz1 .i64 .i64 _ _ n rfl rfl (by omega) (by omega) (by rw [hz2]; omega) (by unfold maxLen; omega) (Nat.le_refl _) ?_; intro w1 hown1 hgrow1)
  have hN1 : w.heap.size < w1.heap.size := (hown1.lt w.heap.size rfl).2
  go_loopw [16] (fun i wr => ∃ t : List (Int × Int × Int × Tr 0), t.length ≤ n ∧ i = .int .i64 (t.length : Int) ∧ Built w.heap.size n wr 0 t ∧ w.heap.size < wr.heap.size ∧ Below w.heap.size w wr)
    (fun i _ => n - (intOf i).toNat)
  case atStart => exact ⟨[], by simp, rfl, built_start 0 hown1, hN1, (Below.refl _ _).grown hgrow1 (Nat.le_refl _) (fun k hk => by cases hk)⟩
  case round =>
    obtain ⟨t, hk, rfl, hbt, hNs, hnx⟩ := hrel
    have HBT := hide hbt
    clear hbt
    by_cases hlt : t.length < n
    · obtain ⟨b, off, kd, us, ct, body, ha, hbB, k0, k1, u1, t1, c0, c1, c2, c3⟩ := HX.out t.length hlt
      obtain rfl := Option.some.inj ha
      clear ha
      have e := hnx.block b (by omega)
      have d0 := (cell_same (o := off + t.length * 4) e).trans c0
      have d1 := (cell_same (o := off + t.length * 4 + 1) e).trans c1
      have d2 := (cell_same (o := off + t.length * 4 + 2) e).trans c2
      clear c0 c1 c2 c3 e
      generalize hK : t.length = k at *
      have i1 : (0 : Int) ≤ (k : Int) := by omega
      have i2 : (k : Int) < (n : Int) := by omega
      by_cases hz : natF ct = 0
      all_goals
        go_wp2_with (go_at_call 9; refine (nat_any ct _ t1).mono ?_; (first | rw [hz] | skip); rintro e w2 ⟨rfl, rfl⟩)
        have z1 := World.new_ne w2 _ d0
        have z2 := World.new_ne w2 _ d1
        go_region_held3 (fun W => W.cell? ⟨b, off + k * 4, none⟩ = some (.int .u8 kd) ∧ W.cell? ⟨b, off + k * 4 + 1, none⟩ = some (.int .i64 us)) (go_keep)
          (first | (go_at_call 10; refine (kind_any kd _ k0 k1).mono ?_; rintro e w3 ⟨rfl, rfl⟩) | (go_at_call 9; refine (nat_any us _ u1).mono ?_; rintro e w3 ⟨rfl, rfl⟩))
        all_goals
          obtain ⟨v0, v1, v2, v3, v4, v5, e0, e1, e2, e3, e4, e5, fz⟩ := built_room HBT.out hlt
          go_wp2
          refine ⟨end_zero () kd us ct _ _ HBT.out hK hlt hNs hnx u1 t1 (by first | exact if_pos hz | exact if_neg hz) _ rfl, ?_⟩
          simp [intOf]; omega
    · have ht : t.length = n := by omega
      rw [ht]
      go_wp2
      go_ret
      exact ⟨⟨_, _, rfl, built_done HBT.out ht hn hNs⟩, hnx⟩

end Go.Proofs.Ybulkbqeo
