/- The walk of LawS3342CExact: the arm 'One'. By an AI agent. -/
import Derived.Test.YbulkbqeoFmtExactParts
namespace Go.Proofs.YbulkbqeoFmt
open Go Go.RowKit
set_option maxRecDepth 100000 in
set_option maxHeartbeats 4000000 in
theorem exact_one (capv items now pid mid gid : Int) (kk qq : Nat) (nm : ByteArray) (w : World) (hq : qq ≤ 255) (hk1 : kk = 1) :
    Calls Ybaf.prog 3 #[.int .i64 capv, .int .i64 items, .int .u8 kk, .int .u8 qq, .int .i64 now, .int .i64 pid, .int .i64 mid, .int .i64 gid, .string nm] w fun e w' => e = .returned (.bool true) ∧ Below w.heap.size w w' := by
  obtain ⟨i0, hi, hz0, hz1, hz2⟩ := info_parts Ybaf.info57
  go_enter Ybaf.func3, Ybaf.ntmps3
  go_wp2_with (at_make; refine wpList_make_full _ rfl _ _ 30 rfl 0 57 i0 _ 1 Ybaf.underlying30 hi hz0 hz1 .i64 .i64 _ _ kk rfl rfl (by omega) (by omega) (by rw [hz2]; omega) (by unfold maxLen; omega) (Nat.zero_le _) ?_; intro w1 hown1 hgrow1)
  obtain ⟨L1, hs1⟩ := start_law (now := now) (pid := pid) (mid := mid) (gid := gid) (cap := capv) (items := items) (nm := nm) hgrow1 rfl ⟨_, _, _, _, _, _, _, _, _, _, _, _, _, _, _, _, _, rfl⟩ ⟨_, _, _, _, _, _, _, _, rfl⟩ ⟨_, _, _, rfl⟩ ⟨_, _, rfl⟩ rfl
  obtain ⟨Z, hZl, hZg0⟩ := made_row hown1
  rw [(chain_get _ _ _ _ _ _ _).2.2.2.2.2.2.1] at hZg0
  have hZg : w1.heap[w.heap.size + 1 + 1 + 1 + 1 + 1 + 1]? = some (.cells Z.toArray 57 (0, 0)) := hZg0
  clear hZg0
  have HL1 := hide L1
  have HZ := hide hZg
  have HN : Hid (w.heap.size = w.heap.size) := rfl
  clear L1 hZg hown1 hgrow1
  generalize hC : w.heap.size + 1 + 1 + 1 + 1 + 1 = C at *
  generalize hMP : w.heap.size + 1 + 1 + 1 + 1 = MP at *
  generalize hME : w.heap.size + 1 + 1 + 1 = ME at *
  generalize hPP : w.heap.size + 1 + 1 = PP at *
  generalize hR : w.heap.size + 1 = R at *
  generalize hV : C + 1 = V at *
  have hVn : ∀ b, none = some b → b ≠ V := fun b hb => by cases hb
  go_loopw [28] (fun i wr => ∃ (rs : List Addr) (rb : Option Nat), i = .int .i64 (rs.length : Int) ∧ rs.length ≤ kk ∧ Law w wr w.heap.size R PP ME MP C now pid mid gid capv items nm none rb [] rs ∧ Gs wr 1 rs ∧ Row wr V kk rs ∧ rb ≠ some V ∧ V < wr.heap.size) (fun i _ => kk - (intOf i).toNat)
  case atStart => exact ⟨[], none, rfl, Nat.zero_le _, HL1.out, fun j x hx => by simp at hx, ⟨Z.toArray, HZ.out, by simpa using hZl, fun j x hx => by simp at hx⟩, (fun h => by cases h), block_lt HZ.out⟩
  case round =>
    obtain ⟨rs, rb, rfl, hrk, hL, hG, hRow, hrV, hVw⟩ := hrel
    by_cases hlt : rs.length < kk
    · obtain ⟨cs, hVb, hVs, hVx⟩ := hRow
      have i1 : (0 : Int) ≤ (rs.length : Int) := by omega
      have i2 : (rs.length : Int) < (kk : Int) := by omega
      obtain ⟨vv, v0⟩ : ∃ v, wr.cell? ⟨V, rs.length, none⟩ = some v := ⟨_, (cell_at hVb _).trans (Array.getElem?_eq_getElem (show rs.length < cs.size by omega))⟩
      have vz := frozen_at hVb
      have HH := hide (And.intro hL (And.intro hG (And.intro hVb (And.intro hVs hVx))))
      clear hL hG hVb hVs hVx
      generalize hK : rs.length = k at *
      go_wp2
      generalize hW : (wr.setCell ⟨V, k, none⟩ (.pointer (some ⟨wr.heap.size, 0, none⟩))).alloc (.cells #[.int .i64 ((k : Int) + 1), .slice none 0 0, .nilIface, .int .i64 0] 65) = W
      obtain ⟨hL, hG, hVb, hVs, hVx⟩ := HH.out
      obtain ⟨l1, l2, l3, l4, l5⟩ := box_row hW hL (fun h => by cases h) hrV hVb (by omega)
      have hcall := hide (law_push_r ⟨wr.heap.size, 0, none⟩ l1 (by omega))
      have u0 : W.cell? ⟨V, k, none⟩ = some (.pointer (some ⟨wr.heap.size, 0, none⟩)) := (cell_at l3 k).trans (Array.getElem?_setIfInBounds_self_of_lt (by omega))
      have H2 := hide (And.intro l1 (And.intro l2 (And.intro l3 (And.intro l4 l5))))
      clear hL hG hVb hVs hVx l1 l2 l3 l4 l5 hW v0 vz
      go_still_tail 7, mixed
      go_wp2_with fail
      refine hcall.out.mono ?_
      rintro e w2 ⟨⟨v2, rfl⟩, hq2⟩
      have HQ := hide hq2
      clear hq2 hcall u0
      go_wp2
      obtain ⟨hL, hG, hVb, hVs, hVx⟩ := HH.out
      obtain ⟨l1, l2, l3, l4, l5⟩ := H2.out
      obtain ⟨rb', n1, n2, n3⟩ := HQ.out
      obtain ⟨d1, d2⟩ := push_apart l1.c.ty l1.rings.2 (⟨_, l3⟩ : Ty W V 57) hrV
      obtain ⟨r1, r2, r3⟩ := row_step hG hVb hVs hVx hK hlt l2 l3 l4 n3 d1 d2
      refine ⟨⟨_, rb', ?_, ?_, n1, r1, r2, ?_, r3⟩, by simp [intOf]; omega⟩
      · rw [List.length_append, hK]; rfl
      · rw [List.length_append, hK]; exact hlt
      · rcases n2 with e | ⟨b, e, hb⟩
        · rw [e]; exact hrV
        · rw [e]
          intro e2
          have := Option.some.inj e2
          omega
    · have hke : rs.length = kk := by omega
      have HH := hide (And.intro hL (And.intro hG (And.intro hRow (And.intro hrV hVw))))
      clear hL hG hRow hrV hVw
      rw [hke]
      go_wp2_with (at_make; refine wpList_make_full _ rfl _ _ 30 rfl 0 57 i0 _ 1 Ybaf.underlying30 hi hz0 hz1 .i64 .i64 _ _ qq rfl rfl (by omega) (by omega) (by rw [hz2]; omega) (by unfold maxLen; omega) (Nat.zero_le _) ?_; intro w3 hown3 hgrow3)
      obtain ⟨hL, hG, hRow, hrV, hVw⟩ := HH.out
      have same3 : ∀ b, b < wr.heap.size → w3.heap[b]? = wr.heap[b]? := fun b hb => hgrow3.block b hb (fun e => by cases e)
      have L3 : Law w w3 w.heap.size R PP ME MP C now pid mid gid capv items nm none rb [] rs := hL.same (fun b hb => same3 b (by rcases hb with h | h | h | h | h | h <;> exact h.lt)) (fun b hb => same3 b (by
        rcases hb with h | h
        · cases h
        · exact (hL.rings.2 b h).lt)) (hL.below.grown hgrow3 hL.below.size (fun k hk => by cases hk))
      have G3 : Gs w3 1 rs := hG.same (fun b hb => same3 b hb.lt)
      have R3 : Row w3 V kk rs := hRow.same (same3 V hVw)
      obtain ⟨Z3, hZ3l, hZ3g⟩ := made_row hown3
      have hrU : rb ≠ some wr.heap.size := fun e => by
        have := (hL.rings.2 _ e).lt
        omega
      have hNU : w.heap.size ≤ wr.heap.size := hL.below.size
      have hU3 := block_lt hZ3g
      have hVU : V ≠ wr.heap.size := by omega
      have H3 := hide (And.intro L3 (And.intro G3 (And.intro R3 (And.intro hrU (And.intro hrV hZ3g)))))
      clear hL hG hRow hrV hVw L3 G3 R3 hrU hZ3g hown3 hgrow3 same3 HH
      generalize hU : wr.heap.size = U at *
      go_loopw [30] (fun i wx => ∃ (ss : List Addr) (sb : Option Nat), i = .int .i64 (ss.length : Int) ∧ ss.length ≤ qq ∧ Law w wx w.heap.size R PP ME MP C now pid mid gid capv items nm sb rb ss rs ∧ Gs wx 1 rs ∧ Row wx V kk rs ∧ Gs wx 1000 ss ∧ Row wx U qq ss ∧ sb ≠ some U ∧ sb ≠ some V ∧ U < wx.heap.size) (fun i _ => qq - (intOf i).toNat)
      case atStart =>
        obtain ⟨L3, G3, R3, hrU, hrV, hZ3g⟩ := H3.out
        exact ⟨[], none, rfl, Nat.zero_le _, L3, G3, R3, fun j x hx => by simp at hx, ⟨Z3.toArray, hZ3g, by simpa using hZ3l, fun j x hx => by simp at hx⟩, (fun h => by cases h), (fun h => by cases h), hU3⟩
      case round =>
        obtain ⟨ss, sb, rfl, hsq, hL, hG, hRow, hGs, hRs, hsU, hsV, hUw⟩ := hrel
        by_cases hlt : ss.length < qq
        · obtain ⟨cs, hVb, hVs, hVx⟩ := hRs
          have i1 : (0 : Int) ≤ (ss.length : Int) := by omega
          have i2 : (ss.length : Int) < (qq : Int) := by omega
          obtain ⟨vv, v0⟩ : ∃ v, wr.cell? ⟨U, ss.length, none⟩ = some v := ⟨_, (cell_at hVb _).trans (Array.getElem?_eq_getElem (show ss.length < cs.size by omega))⟩
          have vz := frozen_at hVb
          have HH := hide (And.intro hL (And.intro hG (And.intro hRow (And.intro hGs (And.intro hVb (And.intro hVs hVx))))))
          clear hL hG hRow hGs hVb hVs hVx
          generalize hK : ss.length = k at *
          go_wp2
          generalize hW : (wr.setCell ⟨U, k, none⟩ (.pointer (some ⟨wr.heap.size, 0, none⟩))).alloc (.cells #[.int .i64 ((k : Int) + 1000), .slice none 0 0, .nilIface, .int .i64 0] 65) = W
          obtain ⟨hL, hG, hRow, hGs, hVb, hVs, hVx⟩ := HH.out
          obtain ⟨l1, l2, l3, l4, l5⟩ := box_row hW hL hsU H3.out.2.2.2.1 hVb hNU
          have hcall := hide (law_push_s ⟨wr.heap.size, 0, none⟩ l1 (by omega))
          have u0 : W.cell? ⟨U, k, none⟩ = some (.pointer (some ⟨wr.heap.size, 0, none⟩)) := (cell_at l3 k).trans (Array.getElem?_setIfInBounds_self_of_lt (by omega))
          have H2 := hide (And.intro l1 (And.intro l2 (And.intro l3 (And.intro l4 l5))))
          clear hL hG hRow hGs hVb hVs hVx l1 l2 l3 l4 l5 hW v0 vz
          go_still_tail 7, mixed
          go_wp2_with fail
          refine hcall.out.mono ?_
          rintro e w2 ⟨⟨v2, rfl⟩, hq2⟩
          have HQ := hide hq2
          clear hq2 hcall u0
          go_wp2
          obtain ⟨hL, hG, hRow, hGs, hVb, hVs, hVx⟩ := HH.out
          obtain ⟨l1, l2, l3, l4, l5⟩ := H2.out
          obtain ⟨sb', n1, n2, n3⟩ := HQ.out
          obtain ⟨cV, rV1, rV2⟩ := hRow
          have tVr : Ty wr V 57 := ⟨_, rV1⟩
          have hVW : W.heap[V]? = wr.heap[V]? := l4 V tVr.lt hVU
          have tVW : Ty W V 57 := ⟨_, hVW.trans rV1⟩
          obtain ⟨d1, d2⟩ := push_apart l1.c.ty l1.rings.1 (⟨_, l3⟩ : Ty W U 57) hsU
          obtain ⟨d3, _⟩ := push_apart l1.c.ty l1.rings.1 tVW hsV
          obtain ⟨r1, r2, r3⟩ := row_step hGs hVb hVs hVx hK hlt l2 l3 l4 n3 d1 d2
          have tU : Ty wr U 57 := ⟨_, hVb⟩
          have G2 : Gs w2 1 rs := (hG.same (w' := W) fun b hb => l4 b hb.lt (Ty.ne hb tU (by decide))).same fun b hb => n3.2 b hb.lt (d2 b hb)
          have Rw2 : Row w2 V kk rs := ⟨cV, (n3.2 V tVW.lt d3).trans (hVW.trans rV1), rV2⟩
          have far : ∀ X, X < W.heap.size → sb ≠ some X → sb' ≠ some X := fun X hX hne => by
            rcases n2 with e | ⟨b, e, hb⟩
            · rw [e]; exact hne
            · rw [e]
              intro e2
              have := Option.some.inj e2
              omega
          refine ⟨⟨_, sb', ?_, ?_, n1, G2, Rw2, r1, r2, far U (by omega) hsU, far V tVW.lt hsV, r3⟩, by simp [intOf]; omega⟩
          · rw [List.length_append, hK]; rfl
          · rw [List.length_append, hK]; exact hlt
        · have hqe : ss.length = qq := by omega
          have HH := hide (And.intro hL (And.intro hG (And.intro hRow (And.intro hGs hRs))))
          clear hL hG hRow hGs hRs
          obtain ⟨hL, hG, hRow, hGs, hRs⟩ := HH.out
          have hrV := H3.out.2.2.2.2.1
          have hrU := H3.out.2.2.2.1
          have tP := hL.p.ty
          have tM := hL.m.ty
          have hup := hL.up
          have hbel := hL.below
          have q57 := neq_same
          have p57 := eql_same
          rw [← hke] at hRow
          rw [← hqe] at hRs
          obtain ⟨x0, rs', hrs⟩ : ∃ x0 rs', rs = x0 :: rs' := by
            cases rs with
            | nil => simp at hke; omega
            | cons a b => exact ⟨a, b, rfl⟩
          subst hrs
          obtain ⟨GP, hx0, hG0⟩ := hG 0 x0 rfl
          subst hx0
          have hg1 : GSt wr GP 1 := hG0
          have hsend := hide (send_ready (gpid := 1) wr hL.run hL.evs (by omega) hL.m hL.p hL.me hg1 hL.c)
          have HL := hide hL
          have HG := hide hG
          have HR := hide (And.intro hRow hRs)
          clear hL hG hRow hRs hGs HH hG0 hg1
          rw [hqe]
          go_wp2_with fail
          refine hsend.out.mono ?_
          rintro e w4 ⟨rfl, eb', a1, a2, a3, a4, a5, a6⟩
          have F4 := fin_of HL.out.run HL.out.evs tP tM HL.out.c HR.out.1 HR.out.2 HG.out hsV hrV hsU hrU a6 a1 a4 a3 a5
          have hd1 := hide (drain_r 600 a5 (by simp at hke; omega) (by decide))
          have K4 := hide (And.intro F4 (And.intro a5 a6))
          clear a1 a2 a3 a4 a5 a6 F4 hsend
          go_wp2_with fail
          refine hd1.out.mono ?_
          rintro e w5 ⟨rq, rfl, b1, b2, b3⟩
          obtain ⟨F4, a5, a6⟩ := K4.out
          have F5 := F4.drain b3 a5.rings.2 hrV hrU b2.ty b2.cells
          have hd2 := hide (drain_s 600 b2 (by omega) (by decide))
          have K5 := hide (And.intro F5 (And.intro b1 (And.intro b2 b3)))
          clear F4 a5 a6 F5 b1 b2 b3 hd1
          go_wp2_with fail
          refine hd2.out.mono ?_
          rintro e w6 ⟨sq, rfl, d1, d2, d3⟩
          obtain ⟨F5, b1, b2, b3⟩ := K5.out
          have F6 := F5.drain d3 b2.rings.1 hsV hsU d2.ty d2.cells
          have hrl : rs'.length + 1 = kk := by simpa using hke
          have h6 : Below w.heap.size w w6 := below_kept (below_kept (below_kept hbel K4.out.2.2 (Nat.le_refl _) (by
            rintro b (e | e | e | e | e | e | e)
            · omega
            · cases e
            · have := hup.2.1; omega
            · have := hup.2.2.1; omega
            · have := hup.2.2.2.1; omega
            · exact hup.2.2.2.2 b (Or.inl e)
            · exact hup.2.2.2.2 b (Or.inr e))) b3 (Nat.le_refl _) (by
            rintro b (e | e)
            · have := hup.2.2.2.1; omega
            · exact hup.2.2.2.2 b (Or.inr e))) d3 (Nat.le_refl _) (by
            rintro b (e | e)
            · have := hup.2.2.2.1; omega
            · exact hup.2.2.2.2 b (Or.inl e))
          have hsq : Holds w6 sq ss := d1.holds
          have hrq : Holds w6 rq rs' := (b1.same d3.1.size (fun g hg => (stay d3 b2.ty b2.rings.1).2 g (by
            obtain ⟨h1, _⟩ := b1
            rcases h1.2 with ⟨rfl, _⟩ | ⟨g', cap', cur, rfl, _, hg', _⟩
            · cases hg
            · obtain rfl : g' = g := by simpa [Value.ownBlock] using hg
              exact ⟨cur, hg'⟩) (fun e => by
            have h1 := (b1.2 g hg).1
            have h2 := (K4.out.2.1.rings.1 g e).lt
            omega))).holds
          obtain ⟨ra, rcap, rfl⟩ := hrq.form
          obtain ⟨sa, scap, rfl⟩ := hsq.form
          have hs1 : Hid (∀ (a : Option Addr) (n c : Nat) (o : Obj) (q : Nat), n = rs'.length → (rs' ≠ [] → a = some ⟨V, 1, none⟩) → Calls Ybaf.prog 8 #[.slice ra rs'.length rcap, .slice a n c] ((w6.alloc o).drewN q) fun e w' => e = .returned (.bool true) ∧ ∃ q', w' = ((w6.alloc o).drewN q).drewN q') := by
            intro a n c o q hn ha
            subst hn
            exact same_true _ _ rs' _ (hrq.alloc o q) ((Holds.cut (by simpa using F6.rv) ha).alloc o q) (by omega)
          have hs2 : Hid (∀ (o : Obj) (q : Nat), Calls Ybaf.prog 8 #[.slice sa ss.length scap, .slice (some ⟨U, 0, none⟩) qq qq] ((w6.alloc o).drewN q) fun e w' => e = .returned (.bool true) ∧ ∃ q', w' = ((w6.alloc o).drewN q).drewN q') := by
            intro o q
            have hru := F6.ru.holds
            rw [hqe] at hru
            rw [hqe] at hsq ⊢
            exact same_true _ _ ss _ (by rw [← hqe] at hsq ⊢; exact hsq.alloc o q) (by rw [← hqe] at hru ⊢; exact hru.alloc o q) (by omega)
          obtain ⟨rc, hRb, _, _, f9, f20⟩ := F6.run
          obtain ⟨pc, hPb, p0, p1, p9⟩ := F6.p
          obtain ⟨mc, hMb, m0, m1, m2⟩ := F6.m
          obtain ⟨B, bcap, es, hBlt, e0, e1, e2, e3, e4, e5, e6, e7, e8, e9⟩ := evs_one F6.evs
          obtain ⟨cV, hV6, _, hVx6⟩ := F6.rv
          obtain ⟨GP', hGP', hg6⟩ := F6.gr 0 _ rfl
          obtain rfl : GP = GP' := by simpa using hGP'
          obtain ⟨gc, hGb, g0⟩ := hg6
          have y9 : w6.cell? ⟨R, 9, none⟩ = some (.slice none 0 0) := (cell_at hRb 9).trans f9
          have y20 : w6.cell? ⟨R, 20, none⟩ = some .nilIface := (cell_at hRb 20).trans f20
          have yc0 := F6.c0
          have yc1 := F6.c1
          have yc2 := F6.c2
          have yp1 : w6.cell? ⟨PP, 1, none⟩ = some (.pointer none) := (cell_at hPb 1).trans p1
          have yp9 : w6.cell? ⟨PP, 9, none⟩ = some (.pointer (some ⟨GP, 0, none⟩)) := (cell_at hPb 9).trans p9
          have ym2 : w6.cell? ⟨MP, 2, none⟩ = some (.pointer (some ⟨ME, 0, none⟩)) := (cell_at hMb 2).trans m2
          have yv0 : w6.cell? ⟨V, 0, none⟩ = some (.pointer (some ⟨GP, 0, none⟩)) := (cell_at hV6 0).trans (hVx6 0 _ rfl)
          have yg0 : w6.cell? ⟨GP, 0, none⟩ = some (.int .i64 1) := (cell_at hGb 0).trans g0
          have H6 := hide h6
          have i1 : (0 : Int) < (kk : Int) := by omega
          clear hRb hPb hMb hV6 hVx6 hGb f9 f20 p0 p1 p9 m0 m1 m2 g0 F5 F6 b1 b2 b3 d1 d2 d3 hd2 hsq hrq h6 K4 K5 HL HG HR hup hbel tP tM hGP'
          have wp9 : PP < w6.heap.size := World.block_lt_of_cell? w6 _ yp9
          have wm2 : MP < w6.heap.size := World.block_lt_of_cell? w6 _ ym2
          have wv0 : V < w6.heap.size := World.block_lt_of_cell? w6 _ yv0
          have wg0 : GP < w6.heap.size := World.block_lt_of_cell? w6 _ yg0
          rw [hqe] at hs2
          have j1 : (1 : Int) ≤ (kk : Int) := by omega
          have j2 : 1 ≤ kk := by omega
          go_wp2
          generalize hW7 : w6.alloc (Obj.cells #[.int .u8 17, .int .i64 now, .int .i64 pid, .int .i64 0, .int .i64 1, .int .u8 0, .int .i64 gid, .int .i64 0, .int .i64 0, .string ⟨#[]⟩] 78) = W7
          have hE7 : W7.heap[w6.heap.size]? = some (.cells #[.int .u8 17, .int .i64 now, .int .i64 pid, .int .i64 0, .int .i64 1, .int .u8 0, .int .i64 gid, .int .i64 0, .int .i64 0, .string ⟨#[]⟩] 78 (0, 0)) := by rw [← hW7]; exact heap_alloc_new _ _
          have hold : ∀ (b j : Nat), b < w6.heap.size → W7.cell? ⟨b, j, none⟩ = w6.cell? ⟨b, j, none⟩ := fun b j hb => by rw [← hW7]; exact World.cell?_of_block (w := w6) (Below.heap_alloc _ _ _ hb)
          have zp9 := (hold PP 9 wp9).trans yp9
          have zm2 := (hold MP 2 wm2).trans ym2
          have zv0 := (hold V 0 wv0).trans yv0
          have zg0 := (hold GP 0 wg0).trans yg0
          obtain ⟨t0, t1, t2, t3, t4, t5, t6, t7, t8, t9⟩ := ten_cells hE7
          have hc1 : Hid (∀ (a : Option Addr) (n c q : Nat), n = rs'.length → (rs' ≠ [] → a = some ⟨V, 1, none⟩) → Calls Ybaf.prog 8 #[.slice ra rs'.length rcap, .slice a n c] (W7.drewN q) fun e w' => e = .returned (.bool true) ∧ ∃ q', w' = (W7.drewN q).drewN q') := by
            intro a n c q h1 h2
            rw [← hW7]
            exact hs1.out a n c _ q h1 h2
          have hc2 : Hid (∀ (q : Nat), Calls Ybaf.prog 8 #[.slice sa qq scap, .slice (some ⟨U, 0, none⟩) qq qq] (W7.drewN q) fun e w' => e = .returned (.bool true) ∧ ∃ q', w' = (W7.drewN q).drewN q') := by
            intro q
            rw [← hW7]
            exact hs2.out _ q
          have hb7 : Hid (Below w.heap.size w W7) := by
            rw [← hW7]
            exact H6.out.alloc H6.out.size _
          clear hE7 hold hW7 hs1 hs2 y9 y20 yc0 yc1 yc2 yp1 yp9 ym2 yv0 yg0 es e0 e1 e2 e3 e4 e5 e6 e7 e8 e9
          generalize w6.heap.size = E at *
          have hr0 : rs' = [] := List.eq_nil_of_length_eq_zero (by omega)
          have hc3 : Hid (∀ (q : Nat), Calls Ybaf.prog 8 #[.slice ra rs'.length rcap, .slice (some ⟨V, 0, none⟩) 0 0] (W7.drewN q) fun e w' => e = .returned (.bool true) ∧ ∃ q', w' = (W7.drewN q).drewN q') := fun q => hc1.out _ _ _ _ (by omega) (fun h => absurd hr0 h)
          clear hc1 hr0
          conv => arg 2; dsimp only [List.append]
          go_quiet (first | (go_at_call_of 8 (Value.slice ra rs'.length rcap); exact Calls.quiet_of (hc3.out _)) | (go_at_call_of 8 (Value.slice sa qq scap); exact Calls.quiet_of (hc2.out _)))
          go_wp2
          go_ret
          exact ⟨rfl, below_drewN' hb7.out _⟩
end Go.Proofs.YbulkbqeoFmt
