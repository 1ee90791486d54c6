/- THE PROOF OF THE CARD 'Rows.LawS3342CExactToldSaid'. By an AI agent. -/
import Derived.Test.YbulkbqeoFmtExactRoom
import Derived.Test.YbulkbqeoFmtExactPark
import Derived.Test.YbulkbqeoFmtExactOne
import Derived.Test.YbulkbqeoFmtExactMany
import Derived.Test.YbulkbqeoFmtLaid
import Derived.Test.YbulkbqeoFmtTie
import Derived.Test.YbulkbqeoFmtCards
import Derived.ProofKit
import Derived.OpenVars
import Derived.Deep.DeepWitnessRef
import Derived.Stop.JoinedAt
import Derived.Stop.Texts
import Derived.Stop.JoinedTold
import Derived.SevenTiedAt
namespace Go.Proofs.YbulkbqeoFmt.lawS3342CExact
open Go.ChangeShapes Go.WideShapes Go.ChangeAt Go.RowKit Go.Kit
open Go.ChangeMaps (open_string shut_string)
open Go.Extern.Stop Go.Stop Go.Extern

theorem own : ownKnob Ybaf.prog.godebug = none := by kernel_rfl
theorem laidOut : laidOutB Ybaf.pinned.checked.prog = true := by kernel_rfl
theorem laidOut' : laidOutB Ybaf.prog = true := laidOut
theorem stops : Ybaf.pinned.checked.prog.stops = ["fmt.errorf"] := by kernel_rfl
theorem stopKnobs : Ybaf.pinned.checked.prog.stopKnobs = [] := by kernel_rfl
theorem quiet (os : Os) : Stop.quiet Ybaf.pinned.checked.prog os := by
  intro k hk
  rw [stopKnobs] at hk
  cases hk

theorem exact_walk (capv items now pid mid gid : Int) (kk qq : Nat) (nm : ByteArray) (w : World) (hk : kk ≤ 255) (hq : qq ≤ 255) (hi0 : -9223372036854775808 ≤ items) (hc1 : capv ≤ 9223372036854775807) :
    Calls Ybaf.prog 3 #[.int .i64 capv, .int .i64 items, .int .u8 kk, .int .u8 qq, .int .i64 now, .int .i64 pid, .int .i64 mid, .int .i64 gid, .string nm] w fun e w' => e = .returned (.bool true) ∧ Below w.heap.size w w' := by
  by_cases h0 : kk = 0
  · by_cases hr : items < capv
    · exact exact_room capv items now pid mid gid kk qq nm w hq h0 hr hi0 hc1
    · exact exact_park capv items now pid mid gid kk qq nm w hq h0 hr
  · by_cases h1 : kk = 1
    · exact exact_one capv items now pid mid gid kk qq nm w hq h1
    · exact exact_many capv items now pid mid gid kk qq nm w hk hq h1 h0

theorem witness_row (os : Os) {H : Type} (enc : TypeId × Value → H) :
    (OpenSpec.ofChange Rows.lawS3342CExactSpec).preRow enc Ybaf.prog Ybaf.f3 [] false Rows.lawS3342CExactRow.laid ((laidOf Ybaf.prog os).forCall (fun _ _ => 0) ⟨#[], #[.int .i64 0, .int .i64 0, .int .u8 0, .int .u8 0, .int .i64 0, .int .i64 0, .int .i64 0, .int .i64 0, .string ⟨#[]⟩], []⟩).memory #[.int .i64 0, .int .i64 0, .int .u8 0, .int .u8 0, .int .i64 0, .int .i64 0, .int .i64 0, .int .i64 0, .string ⟨#[]⟩] := by
  have hw : (DataW.whole enc Ybaf.prog ((laidOf Ybaf.prog os).forCall (fun _ _ => 0) ⟨#[], #[.int .i64 0, .int .i64 0, .int .u8 0, .int .u8 0, .int .i64 0, .int .i64 0, .int .i64 0, .int .i64 0, .string ⟨#[]⟩], []⟩).memory Ybaf.f3.params.toList (OpenSpec.ofChange Rows.lawS3342CExactSpec).vars false (#[Value.int .i64 0, .int .i64 0, .int .u8 0, .int .u8 0, .int .i64 0, .int .i64 0, .int .i64 0, .int .i64 0, .string ⟨#[]⟩] : Array Value).toList 12).isSome = true := by kernel_rfl
  obtain ⟨x, hx⟩ := Option.isSome_iff_exists.1 hw
  exact OpenSpec.preRow_of_cond 12 hx rfl (fun k hk => by cases hk) (by kernel_rfl) (laid_met os _)

theorem wf_bounds {n : Int} (h : (Lit.int .i64 n).wf = true) : -9223372036854775808 ≤ n ∧ n ≤ 9223372036854775807 := by
  have e1 : IntKind.i64.min = -9223372036854775808 := rfl
  have e2 : IntKind.i64.max = 9223372036854775807 := rfl
  simp [Lit.wf, e1, e2] at h
  exact h
theorem wf_byte {n : Int} (h : (Lit.int .u8 n).wf = true) : ∃ k : Nat, n = (k : Int) ∧ k ≤ 255 := by
  have e1 : IntKind.u8.min = 0 := rfl
  have e2 : IntKind.u8.max = 255 := rfl
  simp [Lit.wf, e1, e2] at h
  exact ⟨n.toNat, by omega, by omega⟩

set_option maxRecDepth 100000 in
theorem lifted (os : Os) (started : os.Started) (H : Type) (enc : TypeId × Value → H) :
    ReturnsInTold none {} Ybaf.checked os 3 .any Input.okWide ((OpenSpec.ofChange Rows.lawS3342CExactSpec).preRow enc Ybaf.prog Ybaf.f3 [] false Rows.lawS3342CExactRow.laid) (fun F => ((OpenSpec.ofChange Rows.lawS3342CExactSpec).at F).post enc Ybaf.prog Ybaf.f3 false true false false) (aloneAtReturn Ybaf.prog) nothingAlways := by
  refine returnsInTold_of_row (C := Ybaf.checked) (s := OpenSpec.ofChange Rows.lawS3342CExactSpec) (by kernel_rfl) own started (by kernel_rfl) Ybaf.func3
    (OpenSpec.witness_stopped_atRef (enc := enc) (C := Ybaf.checked) false (laidOf Ybaf.prog os) #[.int .i64 0, .int .i64 0, .int .u8 0, .int .u8 0, .int .i64 0, .int .i64 0, .int .i64 0, .int .i64 0, .string ⟨#[]⟩] rfl (by kernel_rfl) (by kernel_rfl) (by kernel_rfl) (witness_row os enc)) ?_
  intro F W base args ds gs before _ hF hval0 hW _ _ _ _ _
  have hval : ∀ (j : Nat) t v, Ybaf.f3.params[j]? = some t → args[j]? = some v → Value.okWide Ybaf.prog W .any base t v := hval0
  have hW' := hW
  obtain ⟨p, q, hA0, hV, rfl, hfz, hnd⟩ := hW
  have hA : DataW.TrodAll enc Ybaf.prog W 0 (fun _ => true) true Ybaf.f3.params.toList args.toList ds p := hA0
  rw [Ybaf.params3] at hA hval
  obtain ⟨v0, r0, d0, e0, p0, q0, ha0, rfl, rfl, h0, hA1⟩ := trodAll_cons hA
  obtain ⟨v1, r1, d1, e1, p1, q1, rfl, rfl, rfl, h1, hA2⟩ := trodAll_cons hA1
  obtain ⟨v2, r2, d2, e2, p2, q2, rfl, rfl, rfl, h2, hA3⟩ := trodAll_cons hA2
  obtain ⟨v3, r3, d3, e3, p3, q3, rfl, rfl, rfl, h3, hA4⟩ := trodAll_cons hA3
  obtain ⟨v4, r4, d4, e4, p4, q4, rfl, rfl, rfl, h4, hA5⟩ := trodAll_cons hA4
  obtain ⟨v5, r5, d5, e5, p5, q5, rfl, rfl, rfl, h5, hA6⟩ := trodAll_cons hA5
  obtain ⟨v6, r6, d6, e6, p6, q6, rfl, rfl, rfl, h6, hA7⟩ := trodAll_cons hA6
  obtain ⟨v7, r7, d7, e7, p7, q7, rfl, rfl, rfl, h7, hA8⟩ := trodAll_cons hA7
  obtain ⟨v8, r8, d8, e8, p8, q8, rfl, rfl, rfl, h8, hA9⟩ := trodAll_cons hA8
  obtain ⟨rfl, rfl, rfl⟩ := trodAll_nil hA9
  obtain rfl : args = #[v0, v1, v2, v3, v4, v5, v6, v7, v8] := by cases args; simp_all
  obtain ⟨n0, rfl, rfl, rfl, w0⟩ := open_int Ybaf.underlying2 (hval 0 2 v0 rfl rfl) h0
  obtain ⟨n1, rfl, rfl, rfl, w1⟩ := open_int Ybaf.underlying2 (hval 1 2 v1 rfl rfl) h1
  obtain ⟨n2, rfl, rfl, rfl, w2⟩ := open_int Ybaf.underlying5 (hval 2 5 v2 rfl rfl) h2
  obtain ⟨n3, rfl, rfl, rfl, w3⟩ := open_int Ybaf.underlying5 (hval 3 5 v3 rfl rfl) h3
  obtain ⟨n4, rfl, rfl, rfl, w4⟩ := open_int Ybaf.underlying2 (hval 4 2 v4 rfl rfl) h4
  obtain ⟨n5, rfl, rfl, rfl, w5⟩ := open_int Ybaf.underlying3 (hval 5 3 v5 rfl rfl) h5
  obtain ⟨n6, rfl, rfl, rfl, w6⟩ := open_int Ybaf.underlying3 (hval 6 3 v6 rfl rfl) h6
  obtain ⟨n7, rfl, rfl, rfl, w7⟩ := open_int Ybaf.underlying2 (hval 7 2 v7 rfl rfl) h7
  obtain ⟨s8, rfl, rfl, rfl, w8⟩ := open_string Ybaf.underlying9 (hval 8 9 v8 rfl rfl) h8
  obtain ⟨k2, rfl, hk2⟩ := wf_byte w2
  obtain ⟨k3, rfl, hk3⟩ := wf_byte w3
  have hb0 := wf_bounds w0
  have hb1 := wf_bounds w1
  have hgs : ∃ g1, gs = [g1] := by
    obtain ⟨g1, hg1⟩ : ∃ g1, gs = [g1] := by
      cases gs with
      | nil => exact hV.elim
      | cons g r =>
        cases r with
        | nil => exact ⟨g, rfl⟩
        | cons g' r' =>
          obtain ⟨_, _, _, _, _, _, _, _, _, _, hs, _⟩ := hV
          exact hs.elim
    exact ⟨g1, hg1⟩
  obtain ⟨g1, rfl⟩ := hgs
  clear hA0 hval0
  refine (exact_walk n0 n1 n4 n5 n6 n7 k2 k3 s8 W hk2 hk3 hb1.1 hb0.2).mono fun e W' ⟨he, bel⟩ => ?_
  subst he
  exact ⟨_, rfl, _, _, _, [], [], q, hW', trodAll_mk1 (shut_bool Ybaf.underlying4 _),
    ⟨[], [], shut_int Ybaf.underlying2 w0, ⟨[], [], shut_int Ybaf.underlying2 w1, ⟨[], [], shut_int Ybaf.underlying5 w2, ⟨[], [], shut_int Ybaf.underlying5 w3, ⟨[], [], shut_int Ybaf.underlying2 w4, ⟨[], [], shut_int Ybaf.underlying3 w5, ⟨[], [], shut_int Ybaf.underlying3 w6, ⟨[], [], shut_int Ybaf.underlying2 w7, trodAll_mk1 (shut_string Ybaf.underlying9 w8), rfl⟩, rfl⟩, rfl⟩, rfl⟩, rfl⟩, rfl⟩, rfl⟩, rfl⟩,
    Below.trodVars laidOut' bel (by kernel_rfl) hV, bel.frame _, fun h => by cases h⟩

theorem holds7 : Rows.LawS3342CExactToldSaid :=
  Claim7.holds_of_told_tied_any_at .later 3 Ybaf.f3 "fmt.errorf" [] [] _ _ _ _ _ (by kernel_rfl) rfl rfl rfl laidOut (by kernel_rfl) rfl ⟨rfl, rfl, rfl, rfl, rfl, rfl, rfl⟩ rfl rfl (by kernel_rfl) (by kernel_rfl) Ybaf.func3 (by kernel_rfl)
    (of_decide_eq_true (by kernel_rfl)) (of_decide_eq_true (by kernel_rfl)) stops.symm rfl stopKnobs.symm (by kernel_rfl)
    (by kernel_rfl) (by kernel_rfl) (by kernel_rfl) (by kernel_rfl) (by kernel_rfl) (by kernel_rfl) (by kernel_rfl) (by kernel_rfl) (by kernel_rfl) rfl (by kernel_rfl) rfl rfl
    rfl rfl
    rfl (by kernel_rfl) (by kernel_rfl) (by kernel_rfl) (by decide) (by kernel_rfl) lawS3342CExact_row_tie
    (OpenClaim.moreEntering_of (by kernel_rfl) (by kernel_rfl) (by kernel_rfl) (by kernel_rfl) (by kernel_rfl) (by kernel_rfl) (by kernel_rfl) (by kernel_rfl) (by kernel_rfl) (by kernel_rfl))
    ⟨_, WideRow.started_initial, quiet _⟩
    (fun os started _ H enc _ => lifted os started H enc)
end Go.Proofs.YbulkbqeoFmt.lawS3342CExact
namespace Go.Proofs.YbulkbqeoFmt
/-- THE STATEMENT. -/
theorem lawS3342CExact_told : Rows.LawS3342CExactToldSaid := lawS3342CExact.holds7
end Go.Proofs.YbulkbqeoFmt
