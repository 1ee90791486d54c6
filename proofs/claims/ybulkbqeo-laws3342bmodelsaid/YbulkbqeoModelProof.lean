/- THE PROOF OF 'Rows.LawS3342BModelSaid', after the guide's shell. By an AI agent. -/
import Derived.Test.YbulkbqeoDemand
import Derived.WalkKit
import Derived.Test.YbulkbqeoRows
import Derived.ProofKit
import Derived.OpenShut
import Derived.ShutString
import Derived.ChangeOld
import Derived.Below
import Derived.SizedLaws
import Derived.Deep.Slices
namespace Go.Proofs.Ybulkbqeo
open Go.ChangeShapes Go.WideShapes Go.ChangeAt Go.RowKit
theorem Yba.cells37 : Yba.prog.cellsOf 37 = 4 := by kernel_rfl
theorem Yba.cells22 : Yba.prog.cellsOf 22 = 1 := by kernel_rfl
theorem Yba.cells5 : Yba.prog.cellsOf 5 = 1 := by kernel_rfl
theorem Yba.cells2 : Yba.prog.cellsOf 2 = 1 := by kernel_rfl
theorem Yba.bytes37 : Yba.prog.bytesOf 37 = 48 := by kernel_rfl

theorem u8_of_wf {n : Int} (h : (Lit.int .u8 n).wf = true) : 0 ≤ n ∧ n ≤ 255 := bounds_u8 h

section
variable {H : Type} {enc : TypeId × Value → H} {W : World} {spare : Nat → Bool} {held : Bool}

theorem spot_none {a : Addr} {cs' : List Value} (hc : W.cells? 0 (a.add (0 * 4)) 4 = some cs') : ∃ b off, a = ⟨b, off, none⟩ := by
  obtain ⟨_, hl, hcell⟩ := World.cells?_some hc
  have g := hcell 0 (by omega)
  rw [Deep.add_add, List.getElem?_eq_getElem (by omega)] at g
  have := World.cell?_spot g
  obtain ⟨b, off, spot⟩ := a
  exact ⟨b, off, by simpa [Addr.add] using this⟩

/-- One node of a slice of nodes, opened. -/
theorem node_open {n : Nat} {a : Addr} {i : Nat} {cs' : List Value} {x : DataW H × List MemPlace} (hsp : ∃ b off, a = ⟨b, off, none⟩) (hc : W.cells? 0 (a.add (i * 4)) 4 = some cs') (h : DataW.trod enc Yba.prog W 0 spare held n 37 cs' = some x) :
    ∃ b off kd us ct body, a = ⟨b, off, none⟩ ∧ b < W.heap.size ∧ 0 ≤ kd ∧ kd ≤ 255 ∧ (Lit.int .i64 us).wf = true ∧ (Lit.int .i64 ct).wf = true ∧ W.cell? ⟨b, off + i * 4, none⟩ = some (.int .u8 kd) ∧
      W.cell? ⟨b, off + i * 4 + 1, none⟩ = some (.int .i64 us) ∧ W.cell? ⟨b, off + i * 4 + 2, none⟩ = some (.int .i64 ct) ∧ W.cell? ⟨b, off + i * 4 + 3, none⟩ = some body ∧
      ∃ m y, DataW.trod enc Yba.prog W 0 spare held m 22 [body] = some y ∧ ∀ q ∈ y.1.weights Yba.prog 22, q ∈ x.1.weights Yba.prog 37 := by
  obtain ⟨_, hl, hcell⟩ := World.cells?_some hc
  obtain ⟨xs, m, _, rfl, _, hlen, hf⟩ := DataW.trod_struct Yba.underlying37 h
  match cs', hl with
  | [c0, c1, c2, c3], _ =>
  match xs, hlen with
  | [y0, y1, y2, y3], _ =>
  have f0 : DataW.trod enc Yba.prog W 0 spare held m 5 (([c0, c1, c2, c3].drop 0).take (Yba.prog.cellsOf 5)) = some y0 := hf 0 _ rfl
  have f1 : DataW.trod enc Yba.prog W 0 spare held m 2 (([c0, c1, c2, c3].drop 1).take (Yba.prog.cellsOf 2)) = some y1 := hf 1 _ rfl
  have f2 : DataW.trod enc Yba.prog W 0 spare held m 2 (([c0, c1, c2, c3].drop 2).take (Yba.prog.cellsOf 2)) = some y2 := hf 2 _ rfl
  have f3 : DataW.trod enc Yba.prog W 0 spare held m 22 (([c0, c1, c2, c3].drop 3).take (Yba.prog.cellsOf 22)) = some y3 := hf 3 _ rfl
  rw [Yba.cells5] at f0
  rw [Yba.cells2] at f1 f2
  rw [Yba.cells22] at f3
  simp only [List.drop_zero, List.drop_succ_cons, List.take_succ_cons, List.take_zero] at f0 f1 f2 f3
  obtain ⟨kd, hk, _, hkw⟩ := DataW.trod_int Yba.underlying5 f0
  obtain ⟨us, hu, _, huw⟩ := DataW.trod_int Yba.underlying2 f1
  obtain ⟨ct, ht, _, htw⟩ := DataW.trod_int Yba.underlying2 f2
  simp only [List.cons.injEq, and_true] at hk hu ht
  subst hk hu ht
  have g0 := hcell 0 (by omega)
  have g1 := hcell 1 (by omega)
  have g2 := hcell 2 (by omega)
  have g3 := hcell 3 (by omega)
  rw [Deep.add_add] at g0 g1 g2 g3
  obtain ⟨b, off, rfl⟩ := hsp
  rw [add_plain] at g0 g1 g2 g3
  simp only [← Nat.add_assoc, Nat.add_zero, List.getElem?_cons_zero, List.getElem?_cons_succ] at g0 g1 g2 g3
  obtain ⟨k0, k1⟩ := u8_of_wf hkw
  refine ⟨b, off, kd, us, ct, c3, rfl, World.block_lt_of_cell? W _ g0, k0, k1, huw, htw, g0, g1, g2, g3, m, y3, f3, fun q hq => ?_⟩
  simp only [DataW.weights, Yba.underlying37, DataW.weightsEach, List.map_cons, List.map_nil, List.mem_append]
  exact Or.inr (Or.inr (Or.inr (Or.inl hq)))

theorem weightsAll_mem {P : Program} {e : TypeId} {d : DataW H} {q : Nat} (hq : q ∈ d.weights P e) : ∀ (l : List (DataW H)), d ∈ l → q ∈ DataW.weightsAll P e l
  | x :: r, hm => by
    simp only [DataW.weightsAll, List.mem_append]
    rcases List.mem_cons.1 hm with rfl | h
    · exact Or.inl hq
    · exact Or.inr (weightsAll_mem hq r h)

theorem nodes_open : ∀ (d : Nat) (fuel : Nat) (v : Value) (x : DataW H × List MemPlace), DataW.trod enc Yba.prog W 0 spare held fuel 22 [v] = some x → (∀ q ∈ x.1.weights Yba.prog 22, q ≤ reachBytes) → Nodes 17592186044416 W.heap.size W d v := by
  intro d
  induction d with
  | zero =>
    intro fuel v x h hw
    rcases Deep.open_slice Yba.underlying22 h with ⟨hv, rfl⟩ | ⟨a, len, cap, m, n, D, Pl, hv, _, hl, _, hm, rfl, hx⟩
    · simp only [List.cons.injEq, and_true] at hv
      subst hv
      exact ⟨none, 0, 0, rfl, Nat.zero_le _, fun i hi => by omega⟩
    · simp only [List.cons.injEq, and_true] at hv
      subst hv
      have hlm : len ≤ m := by rw [hm]; split <;> omega
      simp only [DataW.weights, Yba.underlying22, Yba.bytes37, List.length_map, List.length_range] at hw
      have hb := hw _ (List.mem_cons_self ..)
      have hr := reachBytes_lt
      refine ⟨some a, len, cap, rfl, by omega, fun i hi => ?_⟩
      obtain ⟨cs', hc, ht⟩ := hx i (by omega)
      rw [Yba.cells37] at hc
      obtain ⟨cs0, hc0, _⟩ := hx 0 (by omega)
      rw [Yba.cells37] at hc0
      obtain ⟨b, off, kd, us, ct, body, rfl, g⟩ := node_open (spot_none hc0) hc ht
      exact ⟨b, off, kd, us, ct, body, rfl, g.1, g.2.1, g.2.2.1, g.2.2.2.1, g.2.2.2.2.1, g.2.2.2.2.2.1, g.2.2.2.2.2.2.1, g.2.2.2.2.2.2.2.1, g.2.2.2.2.2.2.2.2.1⟩
  | succ d ih =>
    intro fuel v x h hw
    rcases Deep.open_slice Yba.underlying22 h with ⟨hv, rfl⟩ | ⟨a, len, cap, m, n, D, Pl, hv, _, hl, _, hm, rfl, hx⟩
    · simp only [List.cons.injEq, and_true] at hv
      subst hv
      exact ⟨none, 0, 0, rfl, Nat.zero_le _, fun i hi => by omega⟩
    · simp only [List.cons.injEq, and_true] at hv
      subst hv
      have hlm : len ≤ m := by rw [hm]; split <;> omega
      simp only [DataW.weights, Yba.underlying22, Yba.bytes37, List.length_map, List.length_range] at hw
      have hb := hw _ (List.mem_cons_self ..)
      have hr := reachBytes_lt
      refine ⟨some a, len, cap, rfl, by omega, fun i hi => ?_⟩
      obtain ⟨cs', hc, ht⟩ := hx i (by omega)
      rw [Yba.cells37] at hc
      obtain ⟨cs0, hc0, _⟩ := hx 0 (by omega)
      rw [Yba.cells37] at hc0
      obtain ⟨b, off, kd, us, ct, body, rfl, g1, g2, g3, g4, g5, g6, g7, g8, g9, m', y, hy, hq⟩ := node_open (spot_none hc0) hc ht
      refine ⟨b, off, kd, us, ct, body, rfl, g1, g2, g3, g4, g5, g6, g7, g8, g9, ih m' body y hy fun q hq' => hw q ?_⟩
      refine List.mem_cons_of_mem _ (List.mem_append_left _ (weightsAll_mem (hq q hq') _ ?_))
      exact List.mem_map.2 ⟨i, List.mem_range.2 hi, rfl⟩
end

set_option maxRecDepth 100000 in
theorem law_walk (v : Value) (w : World) (h : Nodes 17592186044416 w.heap.size w 6 v) :
    Calls Yba.prog 3 #[v] w fun e w' => e = .returned (.bool true) ∧ Below w.heap.size w w' := by
  have hs := hide (size_any 17592186044416 w.heap.size (Nat.le_refl _) 6 (Nat.le_refl _) v w h)
  go_enter Yba.func3, Yba.ntmps3
  go_wp2_with fail
  refine hs.out.mono ?_
  rintro e w' ⟨⟨r, rfl, hr0, hr1, hr2⟩, rfl⟩
  have HR := hide hr2
  clear hr2 hs h
  by_cases hb : 1024 < r
  · go_wp2
    go_ret
    exact ⟨rfl, Below.refl _ _⟩
  · have hbld := hide (build_any 6 (Nat.le_refl _) v w'.heap.size w' (Nat.le_refl _) (HR.out (by omega)))
    go_wp2_with (go_at_call 6; refine hbld.out.mono ?_; rintro e w1 ⟨⟨u, t, rfl, ho⟩, b1⟩)
    have hval := ho.val
    have hdm := hide (demand_any 7 _ _ w1 u t (Nat.le_refl _) ho)
    have hl : lim = 4611686018427387904 := rfl
    rw [hl] at hval
    clear hl
    go_wp2_with (go_at_call 7; refine hdm.out.mono ?_; rintro e w2 ⟨rfl, b2⟩)
    have ho2 := Ops.same (fun b h1 h2 => b2.block b h2) 7 u t ho
    refine (model_any _ _ w2 7 u t ho2).mono ?_
    rintro e w3 ⟨rfl, rfl⟩
    generalize valF 7 t = q at *
    go_wp2
    go_ret
    exact ⟨rfl, b1.trans (b2.mono b1.size)⟩
end Go.Proofs.Ybulkbqeo

namespace Go.Proofs.Ybulkbqeo.lawS3342BModel
open Go.ChangeShapes Go.WideShapes Go.ChangeAt Go.RowKit
set_option linter.unusedVariables false

theorem own : ownKnob Yba.prog.godebug = none := by kernel_rfl
theorem laidOut : laidOutB Yba.prog = true := by kernel_rfl

set_option maxRecDepth 100000 in
theorem lifted (os : Os) (started : os.Started) (H : Type) (enc : TypeId × Value → H) :
    ReturnsInHanded {} Yba.checked os 3 .any (Rows.lawS3342BModelSpec.pre6 enc Yba.prog Yba.f3 Rows.lawS3342BModelRow.domain false) (Rows.lawS3342BModelSpec.post enc Yba.prog Yba.f3 false true false false) := by
  refine returnsInHanded_of_change_sized (C := Yba.checked) own started (by kernel_rfl) Yba.func3
    (ChangeSpec.witness6 (enc := enc) (C := Yba.checked) false ⟨#[], #[.slice none 0 0], []⟩ 8 (by kernel_rfl) (by kernel_rfl) (by kernel_rfl) (by kernel_rfl)) ?_
  intro W base args ds gs before hval0 hW hcnd hsz _
  have hval : ∀ (j : Nat) t v, Yba.f3.params[j]? = some t → args[j]? = some v → Value.okWide Yba.prog W .any base t v := hval0
  have hW' := hW
  obtain ⟨p, q, hA0, hV, rfl, hfz, hnd⟩ := hW
  have hA : DataW.TrodAll enc Yba.prog W 0 (fun _ => true) true Yba.f3.params.toList args.toList ds p := hA0
  have hsz' : (DataW.weightsEach Yba.prog (Yba.f3.params.toList ++ Rows.lawS3342BModelSpec.plain.varTypes Yba.prog) (ds ++ gs)).all (· ≤ reachBytes) = true := hsz
  rw [Yba.params3] at hA hval hsz'
  obtain ⟨v0, vs0, d0, ds0, p0, q0, hargs, rfl, rfl, h0, r0⟩ := trodAll_cons hA
  obtain ⟨rfl, rfl, rfl⟩ := trodAll_nil r0
  obtain rfl : args = #[v0] := by cases args; simp_all
  obtain ⟨rfl, rfl⟩ := trodVars_none hV
  obtain ⟨a0, len0, cap0, rfl⟩ := okWide_slice Yba.underlying22 (hval 0 22 v0 rfl rfl)
  have k0 := h0
  have lt0 : ∀ x ∈ p0, x.block < W.heap.size := by obtain ⟨m, hm⟩ := k0; exact DataW.trod_lt m _ _ _ hm
  have w0 : Nodes 17592186044416 W.heap.size W 6 (.slice a0 len0 cap0) := by
    obtain ⟨fuel, hf⟩ := h0
    refine nodes_open 6 fuel _ _ hf fun q hq => ?_
    have := List.all_eq_true.1 hsz' q (DataW.weights_mem_each (j := 0) (t := 22) (d := d0) rfl rfl q hq)
    simpa using this
  clear hA0 hval0
  refine (law_walk _ W w0).mono fun e W' ⟨he, bel⟩ => ?_
  subst he
  exact ⟨_, rfl, _, _, _, [], _, [], hW', trodAll_mk1 (shut_bool Yba.underlying4 _), (trodAll_cons_mk (Below.trod laidOut (by kernel_rfl) (of_decide_eq_true (by kernel_rfl)) k0 bel lt0) trodAll_mk0), rfl, bel.frame _, fun h => by cases h⟩

theorem over : Rows.lawS3342BModelRow.holds Yba.pinned (OpenSpec.ofChange Rows.lawS3342BModelSpec) :=
  OpenClaim.holds_of_wide 3 Yba.f3 rfl rfl rfl rfl rfl rfl rfl ⟨rfl, rfl, rfl, rfl, rfl⟩ rfl rfl rfl rfl rfl (by kernel_rfl) Yba.func3 (by kernel_rfl)
    (of_decide_eq_true (by kernel_rfl)) (by unfold Func.isWrapper; first | (rw [if_pos (by decide +kernel)]; kernel_rfl) | (rw [if_neg (by decide +kernel)]; exact ⟨rfl, rfl⟩))
    (fun os started H enc _ => lifted os started H enc)

end Go.Proofs.Ybulkbqeo.lawS3342BModel
namespace Go.Proofs.Ybulkbqeo
/-- THE STATEMENT. -/
theorem lawS3342BModel_holds : Rows.LawS3342BModelSaid := lawS3342BModel.over
end Go.Proofs.Ybulkbqeo
