/- THE PROOF OF THE CARD 'Rows.LawS3342CScriptToldSaid'. By an AI agent. -/
import Derived.Test.YbulkbqeoFmtScriptWalk
import Derived.Test.YbulkbqeoFmtLaid
import Derived.Test.YbulkbqeoFmtTie
import Derived.Test.YbulkbqeoFmtCards
import Derived.ProofKit
import Derived.OpenVars
import Derived.OpenShut
import Derived.Deep.DeepWitnessRef
import Derived.Stop.JoinedAt
import Derived.Stop.Texts
import Derived.Stop.JoinedTold
import Derived.SevenTiedAt
namespace Go.Proofs.YbulkbqeoFmt.lawS3342CScript
open Go.ChangeShapes Go.WideShapes Go.ChangeAt Go.RowKit Go.Kit
open Go.Extern.Stop Go.Stop Go.Extern

theorem own : ownKnob Ybaf.prog.godebug = none := by kernel_rfl
theorem laidOut : laidOutB Ybaf.pinned.checked.prog = true := by kernel_rfl
theorem laidOut' : laidOutB Ybaf.prog = true := laidOut
theorem stops : Ybaf.pinned.checked.prog.stops = ["fmt.errorf"] := by kernel_rfl
theorem stopKnobs : Ybaf.pinned.checked.prog.stopKnobs = [] := by kernel_rfl
theorem quiet (os : Os) : Stop.quiet Ybaf.pinned.checked.prog os := by
  intro k hk
  rw [stopKnobs] at hk
  cases hk
theorem wf_byte {n : Int} (h : (Lit.int .u8 n).wf = true) : ∃ k : Nat, n = (k : Int) ∧ k ≤ 255 := by
  have e1 : IntKind.u8.min = 0 := rfl
  have e2 : IntKind.u8.max = 255 := rfl
  simp [Lit.wf, e1, e2] at h
  exact ⟨n.toNat, by omega, by omega⟩

/-- A slice of bytes that came in: nil, or a row of cells. -/
def IsRow (w : World) (a : Option Addr) (len cap : Nat) (zs : List Int) : Prop :=
  (a = none ∧ len = 0 ∧ cap = 0 ∧ zs = []) ∨
  ∃ x, a = some x ∧ len ≤ cap ∧ cap ≤ maxLen ∧ zs.length = cap ∧ (∀ i, i < zs.length → w.cell? (x.add i) = some (.int .u8 (zs.getD i 0))) ∧ ∀ n ∈ zs, (Lit.int .u8 n).wf = true

theorem walk (a : Option Addr) (len cap : Nat) (zs : List Int) (capv : Nat) (w : World) (hcap : capv ≤ 255) (h : IsRow w a len cap zs) :
    Calls Ybaf.prog 4 #[.slice a len cap, .int .u8 capv] w fun e w' => e = .returned (.bool true) ∧ Below w.heap.size w w' := by
  by_cases hbig : 1024 < len
  · refine script_big a len cap capv w hbig ?_
    rcases h with ⟨_, rfl, _, _⟩ | ⟨x, rfl, hl, hm, _⟩
    · omega
    · unfold maxLen at hm
      omega
  · refine script_walk a len cap capv w hcap (by omega) fun k hk => ?_
    rcases h with ⟨_, rfl, _, _⟩ | ⟨x, rfl, hl, _, hz, hc, hw⟩
    · omega
    · obtain ⟨b, off, spot⟩ := x
      have h1 := hc k (by omega)
      have hspot : spot = none := by simpa [Addr.add] using World.cell?_spot (hc 0 (by omega))
      subst hspot
      rw [Go.WideShapes.add_plain] at h1
      have hmem : zs.getD k 0 ∈ zs := by
        rw [List.getD_eq_getElem?_getD, List.getElem?_eq_getElem (by omega)]
        simp
      obtain ⟨n, hn, hn2⟩ := wf_byte (hw _ hmem)
      exact ⟨b, off, n, rfl, by rw [h1, hn], hn2⟩

theorem witness_row (os : Os) {H : Type} (enc : TypeId × Value → H) :
    (OpenSpec.ofChange Rows.lawS3342CScriptSpec).preRow enc Ybaf.prog Ybaf.f4 [] false Rows.lawS3342CScriptRow.laid ((laidOf Ybaf.prog os).forCall (fun _ _ => 0) ⟨#[], #[.slice none 0 0, .int .u8 0], []⟩).memory #[.slice none 0 0, .int .u8 0] := by
  have hw : (DataW.whole enc Ybaf.prog ((laidOf Ybaf.prog os).forCall (fun _ _ => 0) ⟨#[], #[.slice none 0 0, .int .u8 0], []⟩).memory Ybaf.f4.params.toList (OpenSpec.ofChange Rows.lawS3342CScriptSpec).vars false (#[.slice none 0 0, .int .u8 0] : Array Value).toList 12).isSome = true := by kernel_rfl
  obtain ⟨x, hx⟩ := Option.isSome_iff_exists.1 hw
  exact OpenSpec.preRow_of_cond 12 hx rfl (fun k hk => by cases hk) (by kernel_rfl) (laid_met os _)

set_option maxRecDepth 100000 in
theorem lifted (os : Os) (started : os.Started) (H : Type) (enc : TypeId × Value → H) :
    ReturnsInTold none {} Ybaf.checked os 4 .any Input.okWide ((OpenSpec.ofChange Rows.lawS3342CScriptSpec).preRow enc Ybaf.prog Ybaf.f4 [] false Rows.lawS3342CScriptRow.laid) (fun F => ((OpenSpec.ofChange Rows.lawS3342CScriptSpec).at F).post enc Ybaf.prog Ybaf.f4 false true false false) (aloneAtReturn Ybaf.prog) nothingAlways := by
  refine returnsInTold_of_row (C := Ybaf.checked) (s := OpenSpec.ofChange Rows.lawS3342CScriptSpec) (by kernel_rfl) own started (by kernel_rfl) Ybaf.func4
    (OpenSpec.witness_stopped_atRef (enc := enc) (C := Ybaf.checked) false (laidOf Ybaf.prog os) #[.slice none 0 0, .int .u8 0] rfl (by kernel_rfl) (by kernel_rfl) (by kernel_rfl) (witness_row os enc)) ?_
  intro F W base args ds gs before _ hF hval0 hW _ _ _ _ _
  have hval : ∀ (j : Nat) t v, Ybaf.f4.params[j]? = some t → args[j]? = some v → Value.okWide Ybaf.prog W .any base t v := hval0
  have hW' := hW
  obtain ⟨p, q, hA0, hV, rfl, hfz, hnd⟩ := hW
  have hA : DataW.TrodAll enc Ybaf.prog W 0 (fun _ => true) true Ybaf.f4.params.toList args.toList ds p := hA0
  rw [Ybaf.params4] at hA hval
  obtain ⟨v0, r0, d0, e0, p0, q0, ha0, rfl, rfl, h0, hA1⟩ := trodAll_cons hA
  obtain ⟨v1, r1, d1, e1, p1, q1, rfl, rfl, rfl, h1, hA2⟩ := trodAll_cons hA1
  obtain ⟨rfl, rfl, rfl⟩ := trodAll_nil hA2
  obtain rfl : args = #[v0, v1] := by cases args; simp_all
  obtain ⟨a0, len0, cap0, rfl⟩ := okWide_slice Ybaf.underlying81 (hval 0 81 v0 rfl rfl)
  obtain ⟨n1, rfl, rfl, rfl, w1⟩ := open_int Ybaf.underlying5 (hval 1 5 v1 rfl rfl) h1
  have k0 := h0
  have lt0 : ∀ x ∈ p0, x.block < W.heap.size := by obtain ⟨m, hm⟩ := k0; exact DataW.trod_lt m _ _ _ hm
  obtain ⟨z0, w0⟩ : ∃ zs, IsRow W a0 len0 cap0 zs := by
    obtain ⟨fuel, hf⟩ := h0
    rcases open_ints Ybaf.underlying81 Ybaf.underlying5 (by kernel_rfl) hf with ⟨hcs, _⟩ | ⟨x, l, c, zs, hcs, _, hl, hm, hz, _, hcell, hwz⟩
    · simp [Value.cells] at hcs
      obtain ⟨rfl, rfl, rfl⟩ := hcs
      exact ⟨[], .inl ⟨rfl, rfl, rfl, rfl⟩⟩
    · simp [Value.cells] at hcs
      obtain ⟨rfl, rfl, rfl⟩ := hcs
      exact ⟨zs, .inr ⟨_, rfl, hl, hm, by simpa using hz, hcell, hwz⟩⟩
  obtain ⟨k1, rfl, hk1⟩ := wf_byte w1
  have hgs : ∃ g1, gs = [g1] := by
    cases gs with
    | nil => exact hV.elim
    | cons g r =>
      cases r with
      | nil => exact ⟨g, rfl⟩
      | cons g' r' =>
        obtain ⟨_, _, _, _, _, _, _, _, _, _, hs, _⟩ := hV
        exact hs.elim
  obtain ⟨g1, rfl⟩ := hgs
  clear hA0 hval0
  refine (walk a0 len0 cap0 z0 k1 W hk1 w0).mono fun e W' ⟨he, bel⟩ => ?_
  subst he
  exact ⟨_, rfl, _, _, _, [], _, q, hW', trodAll_mk1 (shut_bool Ybaf.underlying4 _),
    trodAll_cons_mk (Below.trod laidOut' (by kernel_rfl) (of_decide_eq_true (by kernel_rfl)) k0 bel lt0) (trodAll_mk1 (shut_int Ybaf.underlying5 w1)),
    Below.trodVars laidOut' bel (by kernel_rfl) hV, bel.frame _, fun h => by cases h⟩

theorem holds7 : Rows.LawS3342CScriptToldSaid :=
  Claim7.holds_of_told_tied_any_at .later 4 Ybaf.f4 "fmt.errorf" [] [] _ _ _ _ _ (by kernel_rfl) rfl rfl rfl laidOut (by kernel_rfl) rfl ⟨rfl, rfl, rfl, rfl, rfl, rfl, rfl⟩ rfl rfl (by kernel_rfl) (by kernel_rfl) Ybaf.func4 (by kernel_rfl)
    (of_decide_eq_true (by kernel_rfl)) (of_decide_eq_true (by kernel_rfl)) stops.symm rfl stopKnobs.symm (by kernel_rfl)
    (by kernel_rfl) (by kernel_rfl) (by kernel_rfl) (by kernel_rfl) (by kernel_rfl) (by kernel_rfl) (by kernel_rfl) (by kernel_rfl) (by kernel_rfl) rfl (by kernel_rfl) rfl rfl
    rfl rfl
    rfl (by kernel_rfl) (by kernel_rfl) (by kernel_rfl) (by decide) (by kernel_rfl) lawS3342CScript_row_tie
    (OpenClaim.moreEntering_of (by kernel_rfl) (by kernel_rfl) (by kernel_rfl) (by kernel_rfl) (by kernel_rfl) (by kernel_rfl) (by kernel_rfl) (by kernel_rfl) (by kernel_rfl) (by kernel_rfl))
    ⟨_, WideRow.started_initial, quiet _⟩
    (fun os started _ H enc _ => lifted os started H enc)
end Go.Proofs.YbulkbqeoFmt.lawS3342CScript
namespace Go.Proofs.YbulkbqeoFmt
/-- THE STATEMENT. -/
theorem lawS3342CScript_told : Rows.LawS3342CScriptToldSaid := lawS3342CScript.holds7
end Go.Proofs.YbulkbqeoFmt
