/- LawS3336BTally, walked. By an AI agent. -/
import Derived.Test.YbulkbqbiTallyParts
import Derived.BigQuiet
namespace Go.Proofs.Ybulkbqbi
open Go.RowKit Go.Maps

set_option maxRecDepth 100000 in
set_option maxHeartbeats 1000000 in
theorem tally_walk (a : Option Addr) (len cap : Nat) (zs : List Int) (w : World) (hz : ∀ k, k < len → ∃ b off, a = some ⟨b, off, none⟩ ∧ b < w.heap.size ∧ w.cell? ⟨b, off + k, none⟩ = some (.int .u8 (zs.getD k 0)) ∧ 0 ≤ zs.getD k 0 ∧ zs.getD k 0 ≤ 255) :
    Calls Yba.prog 4 #[.slice a len cap] w fun e w' => e = .returned (.bool true) ∧ Below w.heap.size w w' := by
  by_cases hbig : 4096 < len
  · go_enter Yba.func4, Yba.ntmps4
    go_wp2
    go_ret
    exact ⟨rfl, Below.refl _ _⟩
  have HZ : Hid (∀ k, k < len → ∃ b off, a = some ⟨b, off, none⟩ ∧ b < w.heap.size ∧ w.cell? ⟨b, off + k, none⟩ = some (.int .u8 (zs.getD k 0)) ∧ 0 ≤ zs.getD k 0 ∧ zs.getD k 0 ≤ 255) := hz
  clear hz
  go_enter Yba.func4, Yba.ntmps4
  go_wp2
  go_loopw [21] (fun i wr => ∃ k : Nat, k ≤ len ∧ i = .int .i64 k ∧ Held w wr (w.heap.size + 1) w.heap.size (cnt zs k))
    (fun i _ => len - (intOf i).toNat)
  case atStart =>
    refine ⟨0, Nat.zero_le _, rfl, by simp, fun i hi => ?_, ⟨by simp; omega, fun i hi => ?_⟩, (((Below.refl _ _).alloc (Nat.le_refl _) _).alloc (by simp) _)⟩
    · match i, hi with
      | 0, _ => exact ⟨by simp [cnt], by simp⟩
      | 1, _ => exact ⟨by simp [cnt], by simp⟩
      | 2, _ => exact ⟨by simp [cnt], by simp⟩
      | 3, _ => exact ⟨by simp [cnt], by simp⟩
      | 4, _ => exact ⟨by simp [cnt], by simp⟩
      | 5, _ => exact ⟨by simp [cnt], by simp⟩
      | 6, _ => exact ⟨by simp [cnt], by simp⟩
      | 7, _ => exact ⟨by simp [cnt], by simp⟩
      | 8, _ => exact ⟨by simp [cnt], by simp⟩
      | 9, _ => exact ⟨by simp [cnt], by simp⟩
      | n + 10, h => omega
    · rw [World.cell?_alloc_past _ _ _ (by simp), World.frozen?_alloc_past _ _ _ (by simp)]
      match i, hi with
      | 0, _ => exact ⟨by simp [cnt], by simp, by simp [cnt]; decide⟩
      | 1, _ => exact ⟨by simp [cnt], by simp, by simp [cnt]; decide⟩
      | 2, _ => exact ⟨by simp [cnt], by simp, by simp [cnt]; decide⟩
      | 3, _ => exact ⟨by simp [cnt], by simp, by simp [cnt]; decide⟩
      | 4, _ => exact ⟨by simp [cnt], by simp, by simp [cnt]; decide⟩
      | 5, _ => exact ⟨by simp [cnt], by simp, by simp [cnt]; decide⟩
      | 6, _ => exact ⟨by simp [cnt], by simp, by simp [cnt]; decide⟩
      | 7, _ => exact ⟨by simp [cnt], by simp, by simp [cnt]; decide⟩
      | 8, _ => exact ⟨by simp [cnt], by simp, by simp [cnt]; decide⟩
      | 9, _ => exact ⟨by simp [cnt], by simp, by simp [cnt]; decide⟩
      | n + 10, h => omega
  case round =>
    obtain ⟨k, hk, rfl, hh⟩ := hrel
    by_cases hlt : k < len
    · obtain ⟨b, off, ha, hb, hcell, x0, x1⟩ := HZ.out k hlt
      subst ha
      have hx := (hh.2.2.2.cell (p := ⟨b, off + k, none⟩) hb).trans hcell
      generalize hX : zs.getD k 0 = X at hx x0 x1
      have hr10 : (X % 10).toNat < 10 := by omega
      have h1 := (hh.2.2.1.2 _ hr10).1
      have h2 := (hh.2.2.1.2 _ hr10).2.1
      have h3 := (hh.2.1 _ hr10).1
      have h4 := (hh.2.1 _ hr10).2
      have hb1 := cnt_bound zs (X % 10).toNat k
      have HX : Hid (zs.getD k 0 = X) := hX
      have HH : Hid (Held w wr (w.heap.size + 1) w.heap.size (cnt zs k)) := hh
      clear hX hh hcell hb
      generalize hC : cnt zs k (X % 10).toNat = C at h1 h3 hb1
      have HC : Hid (cnt zs k (X % 10).toNat = C) := hC
      clear hC
      go_wp2_with (go_at_call 9; refine (add_any w.heap.size (38 + (X % 10).toNat) C _ (by exact h1) (by exact h2) (by omega) (by omega)).mono ?_; rintro e w' ⟨rfl, rfl⟩)
      go_roundw
      case rel =>
        have st := held_step (r := (X % 10).toNat) HH.out (by rw [HX.out]) hr10 (by omega)
        rw [HC.out] at st
        exact ⟨k + 1, by omega, by go_num, st⟩
      case measure => simp [intOf]; omega
    · have : k = len := by omega
      subst this
      clear hk hlt
      have HH : Hid (Held w wr (w.heap.size + 1) w.heap.size (cnt zs k)) := hh
      clear hh
      generalize cnt zs k = d at HH
      have hS := HH.out.1
      go_wp2_with (first
        | (go_at_call 7; refine (drops_any w.heap.size d _ HH.out.2.2.1).mono ?_; rintro e w1 ⟨rfl, hown, hb1⟩)
        | (at_len; refine wpList_len_own _ rfl _ 81 rfl 79 22 Yba.underlying81 _ wr.heap.size 10 _ rfl hown ?_; rw [Dm_size]))
      have HL : Hid (Held w w1 (w.heap.size + 1) w.heap.size d ∧ w1.ownsMap Yba.prog 79 (plainElem Yba.prog 22) wr.heap.size 10 (Dm d 10)) :=
        ⟨held_below HH.out hb1 (by omega) (by omega) (by omega), hown⟩
      clear hown hb1 HH HZ
      have hM : w.heap.size + 1 < wr.heap.size := hS
      clear hS
      generalize wr.heap.size = M at HL hM ⊢
      go_loopw [46] (fun i wr => ∃ k : Nat, k ≤ 10 ∧ i = .int .u8 k ∧ Held w wr (w.heap.size + 1) w.heap.size d ∧ wr.ownsMap Yba.prog 79 (plainElem Yba.prog 22) M 10 (Dm d 10))
        (fun i _ => 10 - (intOf i).toNat)
      case atStart => exact ⟨0, Nat.zero_le _, rfl, HL.out.1, HL.out.2⟩
      case round =>
        obtain ⟨k, hk, rfl, hh, hown⟩ := hrel
        by_cases hlt : k < 10
        · have hkey : keyOf Yba.prog 79 (.int .u8 (k : Int)) = some (.int .u8 (k : Int)) := keyOf_int_mk Yba.underlying79 (WalkArith.wf_u8 (by omega))
          have hlk : ∀ n, (Instr.lookup 81 (.map (some M)) (.int .u8 (k : Int)) false).run Yba.prog (wr.drewN n) = .ok (.int .u64 (d k)) (wr.drewN n) := by
            intro n
            obtain ⟨c, hrun, hat, _⟩ := (owns_drew hown n).lookup_int law79 Yba.underlying81 Yba.underlying22 (zero22 _) hkey
            rw [Dm_atKey d _ 10 k hlt] at hat
            injection hat with hat
            injection hat with _ hat
            rw [hrun, hat]
          have h3 := (hh.2.1 _ hlt).1
          have HHt : Hid (Held w wr (w.heap.size + 1) w.heap.size d) := hh
          have HO : Hid (wr.ownsMap Yba.prog 79 (plainElem Yba.prog 22) M 10 (Dm d 10)) := hown
          clear hh hown HL hkey
          have b1 : (0 : Int) ≤ (k : Int) := by omega
          have b2 : (k : Int) < 10 := by omega
          go_wp2
          go_quiet (fail)
          go_wp2
          go_roundw
          case rel => exact ⟨k + 1, by omega, by go_num, held_drew HHt.out _, owns_drew HO.out _⟩
          case measure => simp [intOf]; omega
        · clear HL hk
          have HHt : Hid (Held w wr (w.heap.size + 1) w.heap.size d) := hh
          clear hh
          have hkey0 : keyOf Yba.prog 79 (.int .u8 0) = some (.int .u8 0) := keyOf_int_mk Yba.underlying79 (by decide)
          have hkey9 : keyOf Yba.prog 79 (.int .u8 9) = some (.int .u8 9) := keyOf_int_mk Yba.underlying79 (by decide)
          go_wp2_with (first
            | (at_mapUpdate; refine wpList_mapUpdate_own _ rfl _ _ _ 81 rfl 79 22 law79 Yba.underlying81 _ M 10 _ rfl hown (by unfold maxLen; omega) _ _ _ rfl rfl hkey0 _ [] (plainElem_int Yba.underlying22 (by decide)) ?_; intro w2 hown2 hgrow2)
            | (at_delete; refine wpList_delete_own _ rfl _ _ 81 79 rfl 22 law79 Yba.underlying81 _ M 11 _ rfl hown2 _ _ rfl hkey9 ?_; intro w3 hown3 hturn3))
          have HB : Hid (Held w w3 (w.heap.size + 1) w.heap.size d) :=
            held_below HHt.out ((((Below.refl (w.heap.size + 2) wr).grown hgrow2 (by have := HHt.out.1; omega) (fun j hj => by cases hj; omega)).grown hturn3.grown (by have := hgrow2.size; have := HHt.out.1; omega) (fun j hj => by cases hj; omega))) (by omega) (by omega) (by omega)
          clear hown hown2 hgrow2 hown3 hturn3 HHt hM hlt
          have hS3 := HB.out.1
          go_wp2_with (first
            | (go_at_call 7; refine (drops_any w.heap.size d _ HB.out.2.2.1).mono ?_; rintro e w4 ⟨rfl, hown4, hb4⟩)
            | (at_len; refine wpList_len_own _ rfl _ 81 rfl 79 22 Yba.underlying81 _ w3.heap.size 10 _ rfl hown4 ?_; rw [Dm_size]))
          have HL : Hid (Held w w4 (w.heap.size + 1) w.heap.size d ∧ w4.ownsMap Yba.prog 79 (plainElem Yba.prog 22) w3.heap.size 10 (Dm d 10)) :=
            ⟨held_below HB.out hb4 (by omega) (by omega) (by omega), hown4⟩
          clear hown4 hb4 HB hS3
          generalize w3.heap.size = M2 at HL ⊢
          go_loopw [64] (fun i wr => ∃ k : Nat, k ≤ 10 ∧ i = .int .u8 k ∧ Held w wr (w.heap.size + 1) w.heap.size d ∧ wr.ownsMap Yba.prog 79 (plainElem Yba.prog 22) M2 10 (Dm d 10))
            (fun i _ => 10 - (intOf i).toNat)
          case atStart => exact ⟨0, Nat.zero_le _, rfl, HL.out.1, HL.out.2⟩
          case round =>
            obtain ⟨k, hk, rfl, hh, hown⟩ := hrel
            by_cases hlt : k < 10
            · have hkey : keyOf Yba.prog 79 (.int .u8 (k : Int)) = some (.int .u8 (k : Int)) := keyOf_int_mk Yba.underlying79 (WalkArith.wf_u8 (by omega))
              have hhas : has (Dm d 10) (.int .u8 (k : Int)) = true := by rw [Dm_has]; simpa using hlt
              have HAT : Hid ((Dm d 10).atKey (.int .u8 (k : Int)) (.lit (.int .u64 0)) = .lit (.int .u64 (d k))) := Dm_atKey d _ 10 k hlt
              have h3 := (hh.2.1 _ hlt).1
              have HHt : Hid (Held w wr (w.heap.size + 1) w.heap.size d) := hh
              clear hh HL hkey0 hkey9
              have b1 : (0 : Int) ≤ (k : Int) := by omega
              have b2 : (k : Int) < 10 := by omega
              go_wp2_with (at_lookup; refine wpList_lookup_own_ok_int _ rfl _ _ 81 rfl 79 22 .u64 law79 Yba.underlying81 Yba.underlying22 (zero22 _) M2 10 _ rfl hown _ _ rfl hkey ?_; intro c hat _; rw [HAT.out] at hat; injection hat with hat; injection hat with _ hat; subst hat)
              go_roundw
              case rel => exact ⟨k + 1, by omega, by go_num, HHt.out, hown⟩
              case measure => simp [intOf]; omega
            · go_wp2
              go_ret
              exact ⟨rfl, hh.2.2.2⟩
end Go.Proofs.Ybulkbqbi
