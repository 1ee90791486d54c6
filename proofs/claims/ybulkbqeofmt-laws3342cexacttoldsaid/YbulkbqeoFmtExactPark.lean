/- The walk of LawS3342CExact: the arm 'Park'. By an AI agent. -/
import Derived.Test.YbulkbqeoFmtExactParts
import Derived.Deep.DeepCutAuto
namespace Go.Proofs.YbulkbqeoFmt
open Go Go.RowKit
set_option maxRecDepth 100000 in
set_option maxHeartbeats 4000000 in
theorem exact_park (capv items now pid mid gid : Int) (kk qq : Nat) (nm : ByteArray) (w : World) (hq : qq ≤ 255) (hk0 : kk = 0) (hroom : ¬ items < capv) :
    Calls Ybaf.prog 3 #[.int .i64 capv, .int .i64 items, .int .u8 kk, .int .u8 qq, .int .i64 now, .int .i64 pid, .int .i64 mid, .int .i64 gid, .string nm] w fun e w' => e = .returned (.bool true) ∧ Below w.heap.size w w' := by
  obtain ⟨i0, hi, hz0, hz1, hz2⟩ := info_parts Ybaf.info57
  go_enter Ybaf.func3, Ybaf.ntmps3
  go_wp2_with (at_make; refine wpList_make_full _ rfl _ _ 30 rfl 0 57 i0 _ 1 Ybaf.underlying30 hi hz0 hz1 .i64 .i64 _ _ kk rfl rfl (by omega) (by omega) (by rw [hz2]; omega) (by unfold maxLen; omega) (Nat.zero_le _) ?_; intro w1 hown1 hgrow1)
  obtain ⟨L1, hs1⟩ := start_law (now := now) (pid := pid) (mid := mid) (gid := gid) (cap := capv) (items := items) (nm := nm) hgrow1 rfl ⟨_, _, _, _, _, _, _, _, _, _, _, _, _, _, _, _, _, rfl⟩ ⟨_, _, _, _, _, _, _, _, rfl⟩ ⟨_, _, _, rfl⟩ ⟨_, _, rfl⟩ rfl
  obtain ⟨Z, hZl, hZg0⟩ := made_row hown1
  rw [(chain_get _ _ _ _ _ _ _).2.2.2.2.2.2.1] at hZg0
  have hZg : w1.heap[w.heap.size + 1 + 1 + 1 + 1 + 1 + 1]? = some (.cells Z.toArray 57 (0, 0)) := hZg0
  clear hZg0
  have HL1 := hide L1
  have HZ := hide hZg
  have HN : Hid (w.heap.size = w.heap.size) := rfl
  clear L1 hZg hown1 hgrow1
  generalize hC : w.heap.size + 1 + 1 + 1 + 1 + 1 = C at *
  generalize hMP : w.heap.size + 1 + 1 + 1 + 1 = MP at *
  generalize hME : w.heap.size + 1 + 1 + 1 = ME at *
  generalize hPP : w.heap.size + 1 + 1 = PP at *
  generalize hR : w.heap.size + 1 = R at *
  generalize hV : C + 1 = V at *
  have hVn : ∀ b, none = some b → b ≠ V := fun b hb => by cases hb
  go_loopw [28] (fun i wr => ∃ (rs : List Addr) (rb : Option Nat), i = .int .i64 (rs.length : Int) ∧ rs.length ≤ kk ∧ Law w wr w.heap.size R PP ME MP C now pid mid gid capv items nm none rb [] rs ∧ Gs wr 1 rs ∧ Row wr V kk rs ∧ rb ≠ some V ∧ V < wr.heap.size) (fun i _ => kk - (intOf i).toNat)
  case atStart => exact ⟨[], none, rfl, Nat.zero_le _, HL1.out, fun j x hx => by simp at hx, ⟨Z.toArray, HZ.out, by simpa using hZl, fun j x hx => by simp at hx⟩, (fun h => by cases h), block_lt HZ.out⟩
  case round =>
    obtain ⟨rs, rb, rfl, hrk, hL, hG, hRow, hrV, hVw⟩ := hrel
    by_cases hlt : rs.length < kk
    · exact absurd hlt (by omega)
    · have hke : rs.length = kk := by omega
      have HH := hide (And.intro hL (And.intro hG (And.intro hRow (And.intro hrV hVw))))
      clear hL hG hRow hrV hVw
      rw [hke]
      go_wp2_with (at_make; refine wpList_make_full _ rfl _ _ 30 rfl 0 57 i0 _ 1 Ybaf.underlying30 hi hz0 hz1 .i64 .i64 _ _ qq rfl rfl (by omega) (by omega) (by rw [hz2]; omega) (by unfold maxLen; omega) (Nat.zero_le _) ?_; intro w3 hown3 hgrow3)
      obtain ⟨hL, hG, hRow, hrV, hVw⟩ := HH.out
      have same3 : ∀ b, b < wr.heap.size → w3.heap[b]? = wr.heap[b]? := fun b hb => hgrow3.block b hb (fun e => by cases e)
      have L3 : Law w w3 w.heap.size R PP ME MP C now pid mid gid capv items nm none rb [] rs := hL.same (fun b hb => same3 b (by rcases hb with h | h | h | h | h | h <;> exact h.lt)) (fun b hb => same3 b (by
        rcases hb with h | h
        · cases h
        · exact (hL.rings.2 b h).lt)) (hL.below.grown hgrow3 hL.below.size (fun k hk => by cases hk))
      have G3 : Gs w3 1 rs := hG.same (fun b hb => same3 b hb.lt)
      have R3 : Row w3 V kk rs := hRow.same (same3 V hVw)
      obtain ⟨Z3, hZ3l, hZ3g⟩ := made_row hown3
      have hrU : rb ≠ some wr.heap.size := fun e => by
        have := (hL.rings.2 _ e).lt
        omega
      have hNU : w.heap.size ≤ wr.heap.size := hL.below.size
      have hU3 := block_lt hZ3g
      have hVU : V ≠ wr.heap.size := by omega
      have H3 := hide (And.intro L3 (And.intro G3 (And.intro R3 (And.intro hrU (And.intro hrV hZ3g)))))
      clear hL hG hRow hrV hVw L3 G3 R3 hrU hZ3g hown3 hgrow3 same3 HH
      generalize hU : wr.heap.size = U at *
      go_loopw [30] (fun i wx => ∃ (ss : List Addr) (sb : Option Nat), i = .int .i64 (ss.length : Int) ∧ ss.length ≤ qq ∧ Law w wx w.heap.size R PP ME MP C now pid mid gid capv items nm sb rb ss rs ∧ Gs wx 1 rs ∧ Row wx V kk rs ∧ Gs wx 1000 ss ∧ Row wx U qq ss ∧ sb ≠ some U ∧ sb ≠ some V ∧ U < wx.heap.size) (fun i _ => qq - (intOf i).toNat)
      case atStart =>
        obtain ⟨L3, G3, R3, hrU, hrV, hZ3g⟩ := H3.out
        exact ⟨[], none, rfl, Nat.zero_le _, L3, G3, R3, fun j x hx => by simp at hx, ⟨Z3.toArray, hZ3g, by simpa using hZ3l, fun j x hx => by simp at hx⟩, (fun h => by cases h), (fun h => by cases h), hU3⟩
      case round =>
        obtain ⟨ss, sb, rfl, hsq, hL, hG, hRow, hGs, hRs, hsU, hsV, hUw⟩ := hrel
        by_cases hlt : ss.length < qq
        · obtain ⟨cs, hVb, hVs, hVx⟩ := hRs
          have i1 : (0 : Int) ≤ (ss.length : Int) := by omega
          have i2 : (ss.length : Int) < (qq : Int) := by omega
          obtain ⟨vv, v0⟩ : ∃ v, wr.cell? ⟨U, ss.length, none⟩ = some v := ⟨_, (cell_at hVb _).trans (Array.getElem?_eq_getElem (show ss.length < cs.size by omega))⟩
          have vz := frozen_at hVb
          have HH := hide (And.intro hL (And.intro hG (And.intro hRow (And.intro hGs (And.intro hVb (And.intro hVs hVx))))))
          clear hL hG hRow hGs hVb hVs hVx
          generalize hK : ss.length = k at *
          go_wp2
          generalize hW : (wr.setCell ⟨U, k, none⟩ (.pointer (some ⟨wr.heap.size, 0, none⟩))).alloc (.cells #[.int .i64 ((k : Int) + 1000), .slice none 0 0, .nilIface, .int .i64 0] 65) = W
          obtain ⟨hL, hG, hRow, hGs, hVb, hVs, hVx⟩ := HH.out
          obtain ⟨l1, l2, l3, l4, l5⟩ := box_row hW hL hsU H3.out.2.2.2.1 hVb hNU
          have hcall := hide (law_push_s ⟨wr.heap.size, 0, none⟩ l1 (by omega))
          have u0 : W.cell? ⟨U, k, none⟩ = some (.pointer (some ⟨wr.heap.size, 0, none⟩)) := (cell_at l3 k).trans (Array.getElem?_setIfInBounds_self_of_lt (by omega))
          have H2 := hide (And.intro l1 (And.intro l2 (And.intro l3 (And.intro l4 l5))))
          clear hL hG hRow hGs hVb hVs hVx l1 l2 l3 l4 l5 hW v0 vz
          go_still_tail 7, mixed
          go_wp2_with fail
          refine hcall.out.mono ?_
          rintro e w2 ⟨⟨v2, rfl⟩, hq2⟩
          have HQ := hide hq2
          clear hq2 hcall u0
          go_wp2
          obtain ⟨hL, hG, hRow, hGs, hVb, hVs, hVx⟩ := HH.out
          obtain ⟨l1, l2, l3, l4, l5⟩ := H2.out
          obtain ⟨sb', n1, n2, n3⟩ := HQ.out
          obtain ⟨cV, rV1, rV2⟩ := hRow
          have tVr : Ty wr V 57 := ⟨_, rV1⟩
          have hVW : W.heap[V]? = wr.heap[V]? := l4 V tVr.lt hVU
          have tVW : Ty W V 57 := ⟨_, hVW.trans rV1⟩
          obtain ⟨d1, d2⟩ := push_apart l1.c.ty l1.rings.1 (⟨_, l3⟩ : Ty W U 57) hsU
          obtain ⟨d3, _⟩ := push_apart l1.c.ty l1.rings.1 tVW hsV
          obtain ⟨r1, r2, r3⟩ := row_step hGs hVb hVs hVx hK hlt l2 l3 l4 n3 d1 d2
          have tU : Ty wr U 57 := ⟨_, hVb⟩
          have G2 : Gs w2 1 rs := (hG.same (w' := W) fun b hb => l4 b hb.lt (Ty.ne hb tU (by decide))).same fun b hb => n3.2 b hb.lt (d2 b hb)
          have Rw2 : Row w2 V kk rs := ⟨cV, (n3.2 V tVW.lt d3).trans (hVW.trans rV1), rV2⟩
          have far : ∀ X, X < W.heap.size → sb ≠ some X → sb' ≠ some X := fun X hX hne => by
            rcases n2 with e | ⟨b, e, hb⟩
            · rw [e]; exact hne
            · rw [e]
              intro e2
              have := Option.some.inj e2
              omega
          refine ⟨⟨_, sb', ?_, ?_, n1, G2, Rw2, r1, r2, far U (by omega) hsU, far V tVW.lt hsV, r3⟩, by simp [intOf]; omega⟩
          · rw [List.length_append, hK]; rfl
          · rw [List.length_append, hK]; exact hlt
        · have hqe : ss.length = qq := by omega
          have HH := hide (And.intro hL (And.intro hG (And.intro hRow (And.intro hGs hRs))))
          clear hL hG hRow hGs hRs
          obtain ⟨hL, hG, hRow, hGs, hRs⟩ := HH.out
          have hrV := H3.out.2.2.2.2.1
          have hrU := H3.out.2.2.2.1
          have tP := hL.p.ty
          have tM := hL.m.ty
          have hup := hL.up
          have hbel := hL.below
          have q57 := neq_same
          have p57 := eql_same
          rw [← hke] at hRow
          rw [← hqe] at hRs
          obtain rfl : rs = [] := List.eq_nil_of_length_eq_zero (by omega)
          have hsend := hide (send_park (R := R) wr hL.run hL.evs (by omega) hL.m hL.p hL.me hL.c (by omega) (by omega))
          have HL := hide hL
          have HG := hide hG
          have HR := hide (And.intro hRow hRs)
          clear hL hG hRow hRs hGs HH
          rw [hqe]
          go_wp2_with fail
          refine hsend.out.mono ?_
          rintro e w4 ⟨rfl, eb', sb', a1, a7, a2, a3, a5, a8, a6⟩
          have F4 := fin_of HL.out.run HL.out.evs tP tM HL.out.c HR.out.1 HR.out.2 HG.out hsV hrV hsU hrU a6 a1 a3 a2 a5
          have hd1 := hide (drain_r 600 a5 (by simp) (by decide))
          have far : ∀ X, X < wr.heap.size → sb ≠ some X → sb' ≠ some X := fun X hX hne => by
            rcases a8 with e | ⟨b, e, hb⟩
            · rw [e]; exact hne
            · rw [e]
              intro e2
              have := Option.some.inj e2
              omega
          have hsV' : sb' ≠ some V := far V (by obtain ⟨cs, h1, _⟩ := HR.out.1; exact block_lt h1) hsV
          have hsU' : sb' ≠ some U := far U hUw hsU
          have hup' : ∀ b, sb' = some b → w.heap.size ≤ b := fun b hb => by
            rcases a8 with e | ⟨k, e, hk⟩
            · exact hup.2.2.2.2 b (Or.inl (by rw [← e, hb]))
            · have h1 := hbel.size
              have : k = b := by rw [hb] at e; exact (Option.some.inj e).symm
              omega
          have K4 := hide (And.intro F4 (And.intro a5 a6))
          clear a1 a2 a3 a5 a6 a7 a8 F4 hsend
          go_wp2_with fail
          refine hd1.out.mono ?_
          rintro e w5 ⟨rq, rfl, b1, b2, b3⟩
          obtain ⟨F4, a5, a6⟩ := K4.out
          have F5 := F4.drain b3 a5.rings.2 hrV hrU b2.ty b2.cells
          have hd2 := hide (drain_s 600 b2 (by simp; omega) (by decide))
          have K5 := hide (And.intro F5 (And.intro b1 (And.intro b2 b3)))
          clear F4 a5 a6 F5 b1 b2 b3 hd1
          go_wp2_with fail
          refine hd2.out.mono ?_
          rintro e w6 ⟨sq, rfl, d1, d2, d3⟩
          obtain ⟨F5, b1, b2, b3⟩ := K5.out
          have F6 := F5.drain d3 b2.rings.1 hsV' hsU' d2.ty d2.cells
          have h6 : Below w.heap.size w w6 := below_kept (below_kept (below_kept hbel K4.out.2.2 (Nat.le_refl _) (by
            rintro b (e | e | e | e | e | e | e)
            · omega
            · cases e
            · have := hup.2.1; omega
            · have := hup.2.2.1; omega
            · have := hup.2.2.2.1; omega
            · exact hup.2.2.2.2 b (Or.inl e)
            · exact hup.2.2.2.2 b (Or.inr e))) b3 (Nat.le_refl _) (by
            rintro b (e | e)
            · have := hup.2.2.2.1; omega
            · exact hup.2.2.2.2 b (Or.inr e))) d3 (Nat.le_refl _) (by
            rintro b (e | e)
            · have := hup.2.2.2.1; omega
            · exact hup' b e)
          have hsqb : ∀ g, sq.ownBlock = some g → g < w6.heap.size := fun g hg => (d1.2 g hg).2
          have hsq : Holds w6 sq (ss ++ [⟨ME, 0, none⟩]) := d1.holds
          obtain ⟨ra, rcap, hrqf⟩ := b1.holds.form
          subst hrqf
          obtain ⟨sa, scap, rfl⟩ := hsq.form
          obtain ⟨rc, hRb, _, _, f9, f20⟩ := F6.run
          obtain ⟨pc, hPb, p0, p1, p9⟩ := F6.p
          obtain ⟨mc, hMb, m0, m1, m2⟩ := F6.m
          obtain ⟨B, bcap, es, hBlt, e0, e1, e2, e3, e4, e5, e6, e7, e8, e9⟩ := evs_one F6.evs
          have y9 : w6.cell? ⟨R, 9, none⟩ = some (.slice none 0 0) := (cell_at hRb 9).trans f9
          have y20 : w6.cell? ⟨R, 20, none⟩ = some .nilIface := (cell_at hRb 20).trans f20
          have yc0 := F6.c0
          have yc1 := F6.c1
          have yc2 := F6.c2
          have yp1 : w6.cell? ⟨PP, 1, none⟩ = some (.pointer none) := (cell_at hPb 1).trans p1
          have yp9 : w6.cell? ⟨PP, 9, none⟩ = some (.pointer none) := (cell_at hPb 9).trans p9
          have ym2 : w6.cell? ⟨MP, 2, none⟩ = some (.pointer none) := (cell_at hMb 2).trans m2
          have hU6 := F6.ru
          have H6 := hide h6
          have HS6 := hide (And.intro hsq (And.intro hsqb hU6))
          have i1 : ¬ (0 : Int) < (kk : Int) := by omega
          clear hRb hPb hMb f9 f20 p0 p1 p9 m0 m1 m2 F5 F6 b1 b2 b3 d1 d2 d3 hd2 hsq hsqb hU6 h6 K4 K5 HL HG HR hup hbel tP tM
          rw [List.length_append, List.length_singleton, hqe]
          have wp9 : PP < w6.heap.size := World.block_lt_of_cell? w6 _ yp9
          have wm2 : MP < w6.heap.size := World.block_lt_of_cell? w6 _ ym2
          go_upto_region 36 with fail
          generalize hW7 : w6.alloc (Obj.cells #[.int .u8 16, .int .i64 now, .int .i64 pid, .int .i64 mid, .int .i64 gid, .int .u8 0, .int .i64 0, .int .i64 0, .int .i64 0, .string nm] 78) = W7
          have hE7 : W7.heap[w6.heap.size]? = some (.cells #[.int .u8 16, .int .i64 now, .int .i64 pid, .int .i64 mid, .int .i64 gid, .int .u8 0, .int .i64 0, .int .i64 0, .int .i64 0, .string nm] 78 (0, 0)) := by rw [← hW7]; exact heap_alloc_new _ _
          have hold : ∀ b, b < w6.heap.size → W7.heap[b]? = w6.heap[b]? := fun b hb => by rw [← hW7]; exact Below.heap_alloc _ _ _ hb
          have hW7s : W7.heap.size = w6.heap.size + 1 := by rw [← hW7, alloc_size]
          have hb7 : Below w.heap.size w W7 := by
            rw [← hW7]
            exact H6.out.alloc H6.out.size _
          have H7 := hide (And.intro hb7 (And.intro hE7 (And.intro hold hW7s)))
          have hw7 : w.heap.size ≤ W7.heap.size := hb7.size
          have hnew : Hid (∀ o, ∀ (j : Nat) (u : Value), (ptrs ss)[j]? = some u → (W7.alloc o).cell? ((⟨U, 0, none⟩ : Addr).add j) = some u) := fun o j u hu => by
            obtain ⟨cs, h1, h2, h3⟩ := HS6.out.2.2
            obtain ⟨x, hx, rfl⟩ : ∃ x, ss[j]? = some x ∧ Value.pointer (some x) = u := by simpa [ptrs, List.getElem?_map] using hu
            rw [add_plain, Nat.zero_add]
            have hUl := block_lt h1
            exact (cell_at ((Below.heap_alloc _ _ _ (by omega)).trans ((hold U hUl).trans h1)) j).trans (h3 j x hx)
          have hpl : Hid ((ptrs ss).length = qq * 1) := by rw [Nat.mul_one, ← hqe]; exact List.length_map _
          have hp1 : Hid (∀ (ys : List Addr), ∀ u ∈ ptrs ys, u.oneCell' = true) := fun ys u hu => by
            obtain ⟨x, _, rfl⟩ := List.mem_map.1 hu
            rfl
          have hown0 : Hid ((W7.alloc (.cells #[] 57)).ownsRow W7.heap.size 57 1 (.slice (some ⟨W7.heap.size, 0, none⟩) 0 0) 0 []) := ⟨rfl, Or.inr ⟨_, _, _, rfl, Nat.le_refl _, heap_alloc_new _ _, Nat.le_refl _, Nat.zero_le _, rfl, rfl⟩⟩
          clear hW7s hW7 hb7 hE7 hold y9 y20 yc0 yc1 yc2 yp1 es e0 e1 e2 e3 e4 e5 e6 e7 e8 e9
          go_wp2_with (first
            | (at_builtin; refine wpList_append_own_at _ rfl (.tmp 322) (.tmp 323) 30 rfl W7.heap.size 57 i0 (.pointer none) 1 8 Ybaf.underlying30 hi hz0 hz1 hz2 rfl (by decide) _ 0 [] rfl hown0.out ⟨U, 0, none⟩ qq qq (ptrs ss) rfl hpl.out (hnew.out _) (hp1.out _) (by unfold maxLen; omega) (by omega) (by simp) ?_; intro v8 w8 hown8 hgrow8 hnil8 hat8; rw [Nat.zero_add, List.nil_append] at hown8; have HO8 := hide (And.intro hown8 (And.intro hgrow8 hat8)); clear hown8 hgrow8 hnil8 hat8)
            | (at_builtin; refine wpList_append_lies _ rfl (.tmp 324) (.tmp 326) 30 rfl W7.heap.size 57 i0 (.pointer none) 1 8 Ybaf.underlying30 hi hz0 hz1 hz2 rfl (by decide) v8 qq (ptrs ss) rfl (HO8.out.1.alloc _) ⟨w8.heap.size, 0, none⟩ 1 1 [.pointer (some ⟨ME, 0, none⟩)] rfl rfl (World.news_of_block (heap_alloc_new _ _)) (by intro u hu; simp at hu; subst hu; rfl) (by omega) (by unfold maxLen; omega) (by omega) (by have h1 := HO8.out.2.1.size; rw [alloc_size] at h1 ⊢; omega) (w8.heap.size + 1) (by simp) ?_; intro g9 cap9 w9 hown9 hgrow9 hat9 hlt9
               obtain ⟨n1, n2, n3⟩ := want_end HO8.out.2.1 HO8.out.2.2 hgrow9 hown9 hqe
               obtain ⟨hb7, hE7, hold, hW7s⟩ := H7.out
               have zp9 : w9.cell? ⟨PP, 9, none⟩ = some (.pointer none) := (World.cell?_of_block (w := w6) ((n1 PP (by omega)).trans (hold PP wp9))).trans yp9
               have zm2 : w9.cell? ⟨MP, 2, none⟩ = some (.pointer none) := (World.cell?_of_block (w := w6) ((n1 MP (by omega)).trans (hold MP wm2))).trans ym2
               obtain ⟨t0, t1, t2, t3, t4, t5, t6, t7, t8, t9⟩ := ten_cells ((n1 w6.heap.size (by omega)).trans hE7)
               have H9 := hide (n2 w hb7)
               have hs9 := hide (same_true _ _ (ss ++ [⟨ME, 0, none⟩]) w9 (HS6.out.1.same (w' := w9) fun b hb => by
                 have h2 := HS6.out.2.1 b hb
                 exact (n1 b (by omega)).trans (hold b h2)) n3 (by simp; omega))
               rw [List.length_append, List.length_singleton, hqe] at hs9
               clear hown9 hgrow9 hat9 hlt9 n1 n2 n3 hb7 hE7 hold hW7s H7 HO8 yp9 ym2)
            | (go_at_call 8; refine hs9.out.mono ?_; rintro e w10 ⟨rfl, q10, rfl⟩))
          go_ret
          exact ⟨rfl, below_drewN' H9.out _⟩
end Go.Proofs.YbulkbqeoFmt
