/- THE PROOF OF 'Rows.LawS3336BExactSaid', after the guide's shell. By an AI agent. -/
import Derived.Test.YbulkbqbiExactWalk
import Derived.ProofKit
import Derived.OpenShut
import Derived.ShutString
import Derived.ChangeOld
namespace Go.Proofs.Ybulkbqbi.lawS3336BExact
open Go.ChangeShapes Go.WideShapes Go.ChangeAt Go.RowKit

theorem own : ownKnob Yba.prog.godebug = none := by kernel_rfl
theorem laidOut : laidOutB Yba.prog = true := by kernel_rfl
theorem cells22 : Yba.prog.cellsOf 22 = 1 := by kernel_rfl

set_option maxRecDepth 100000 in
theorem open_row {H : Type} {enc : TypeId × Value → H} {W : World} {base : Nat} {sp : Nat → Bool} {held : Bool} {v : Value} {d : DataW H} {p : List MemPlace} {b0 : Nat} (hv : Value.okWide Yba.prog W .any b0 23 v)
    (h : DataW.Trod enc Yba.prog W base sp held 23 v d p) : ∃ (c : Array Value) (z : Nat → Int), v = .agg c ∧ ∀ i, i < 10 → c[i]? = some (.int .u64 (z i)) ∧ (Lit.int .u64 (z i)).wf = true := by
  simp only [Value.okWide, Yba.underlying23] at hv
  obtain ⟨c, rfl, _, _⟩ := hv
  obtain ⟨fuel, hf⟩ := h
  obtain ⟨xs, m, _, _, _, hl, hx⟩ := DataW.trod_array Yba.underlying23 hf
  refine ⟨c, fun i => intOf (c[i]?.getD undef), rfl, fun i hi => ?_⟩
  have h1 := hx i hi
  rw [List.getElem?_eq_getElem (by omega), cells22] at h1
  obtain ⟨n, e1, _, e3⟩ := DataW.trod_int Yba.underlying22 h1
  have e2 : c[i]? = some (.int .u64 n) := by
    have := congrArg List.head? e1
    simpa [Value.cells, List.head?_take, List.head?_drop] using this
  show c[i]? = some (.int .u64 (intOf (c[i]?.getD undef))) ∧ (Lit.int .u64 (intOf (c[i]?.getD undef))).wf = true
  rw [e2]
  exact ⟨rfl, e3⟩

set_option maxRecDepth 100000 in
theorem lifted (os : Os) (started : os.Started) (H : Type) (enc : TypeId × Value → H) :
    ReturnsInHanded {} Yba.checked os 3 .any (Rows.lawS3336BExactSpec.pre6 enc Yba.prog Yba.f3 Rows.lawS3336BExactRow.domain false) (Rows.lawS3336BExactSpec.post enc Yba.prog Yba.f3 false true false false) := by
  refine returnsInHanded_of_change (C := Yba.checked) own started (by kernel_rfl) Yba.func3
    (ChangeSpec.witness6 (enc := enc) (C := Yba.checked) false ⟨#[], #[.agg #[.int .u64 0, .int .u64 0, .int .u64 0, .int .u64 0, .int .u64 0, .int .u64 0, .int .u64 0, .int .u64 0, .int .u64 0, .int .u64 0]], []⟩ 8 (by kernel_rfl) (by kernel_rfl) (by kernel_rfl) (by kernel_rfl)) ?_
  intro W base args ds gs before hval0 hW hcnd _
  have hval : ∀ (j : Nat) t v, Yba.f3.params[j]? = some t → args[j]? = some v → Value.okWide Yba.prog W .any base t v := hval0
  have hW' := hW
  obtain ⟨p, q, hA0, hV, rfl, hfz, hnd⟩ := hW
  have hA : DataW.TrodAll enc Yba.prog W 0 (fun _ => true) true Yba.f3.params.toList args.toList ds p := hA0
  rw [Yba.params3] at hA hval
  obtain ⟨v0, vs0, d0, ds0, p0, q0, hargs, rfl, rfl, h0, r0⟩ := trodAll_cons hA
  obtain ⟨rfl, rfl, rfl⟩ := trodAll_nil r0
  obtain rfl : args = #[v0] := by cases args; simp_all
  obtain ⟨rfl, rfl⟩ := trodVars_none hV
  obtain ⟨c, z, rfl, hz⟩ := open_row (hval 0 23 v0 rfl rfl) h0
  have k0 := h0
  have lt0 : ∀ x ∈ p0, x.block < W.heap.size := by obtain ⟨m, hm⟩ := k0; exact DataW.trod_lt m _ _ _ hm
  clear hA0 hval0
  refine (exact_walk c z W hz).mono fun e W' ⟨he, bel⟩ => ?_
  subst he
  exact ⟨_, rfl, _, _, _, [], _, [], hW', trodAll_mk1 (shut_bool Yba.underlying4 _), (trodAll_cons_mk (Below.trod laidOut (by kernel_rfl) (of_decide_eq_true (by kernel_rfl)) k0 bel lt0) trodAll_mk0), rfl, bel.frame _, fun h => by cases h⟩

theorem over : Rows.lawS3336BExactRow.holds Yba.pinned (OpenSpec.ofChange Rows.lawS3336BExactSpec) :=
  OpenClaim.holds_of_wide 3 Yba.f3 rfl rfl rfl rfl rfl rfl rfl ⟨rfl, rfl, rfl, rfl, rfl⟩ rfl rfl rfl rfl rfl (by kernel_rfl) Yba.func3 (by kernel_rfl)
    (of_decide_eq_true (by kernel_rfl)) (by unfold Func.isWrapper; first | (rw [if_pos (by decide +kernel)]; kernel_rfl) | (rw [if_neg (by decide +kernel)]; exact ⟨rfl, rfl⟩))
    (fun os started H enc _ => lifted os started H enc)

end Go.Proofs.Ybulkbqbi.lawS3336BExact
namespace Go.Proofs.Ybulkbqbi
/-- THE STATEMENT. -/
theorem lawS3336BExact_holds : Rows.LawS3336BExactSaid := lawS3336BExact.over
end Go.Proofs.Ybulkbqbi
