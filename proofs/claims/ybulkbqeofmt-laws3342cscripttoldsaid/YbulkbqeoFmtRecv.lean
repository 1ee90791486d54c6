/- run.recv. By an AI agent. -/
import Derived.Test.YbulkbqeoFmtSend
namespace Go.Proofs.YbulkbqeoFmt
open Go Go.RowKit

set_option maxRecDepth 100000 in
set_option maxHeartbeats 2000000 in
theorem recv_ready {R S MP PP ME GP C n : Nat} {eb sb rb : Option Nat} {xs : List Value} {ss rs : List Addr} {nm : ByteArray} {cap items now pid mid gid gpid : Int} (w : World) (hR : RunSt w R S now) (hev : Evs w S eb n xs) (hn : n ≤ 2000)
    (hM : MSt w MP PP (.pointer (some ⟨ME, 0, none⟩)) mid) (hP : PSt w PP pid (.pointer none)) (hE : GSt w ME gid) (hG : GSt w GP gpid) (hC : CSt w C nm cap items sb rb (⟨GP, 0, none⟩ :: ss) rs) :
    Calls Ybaf.prog 9 #[.pointer (some ⟨R, 0, none⟩), .pointer (some ⟨MP, 0, none⟩), .pointer (some ⟨C, 0, none⟩)] w fun e w' => e = .returned (.bool true) ∧
      ∃ eb', Evs w' S eb' (n + 1) (xs ++ evc 17 now pid 0 gpid 0 gid 0 0 ⟨#[]⟩) ∧ (eb' = eb ∨ ∃ b, eb' = some b ∧ w.heap.size ≤ b) ∧ MSt w' MP PP (.pointer (some ⟨ME, 0, none⟩)) mid ∧ PSt w' PP pid (.pointer (some ⟨GP, 0, none⟩)) ∧
      CSt w' C nm cap items sb rb ss rs ∧ Kept (Dirty S eb PP MP C sb rb) w w' := by
  obtain ⟨s0, r0, hs, hr, hCb, hs1, hr1, hsr⟩ := hC
  have tC : Ty w C 70 := ⟨_, hCb⟩
  have hpop := hide (Pop_any (o := 3) w hCb rfl rfl rfl hs1 (fun e => Ty.ne tC (hs1.ty C e) (by decide) rfl))
  have H := hide (And.intro hR (And.intro hev (And.intro hM (And.intro hP (And.intro hE (And.intro hG (And.intro hCb (And.intro hs1 (And.intro hr1 hsr)))))))))
  clear hR hev hM hP hE hG hCb hs1 hr1 hsr
  go_enter Ybaf.func9, Ybaf.ntmps9
  go_wp2_with fail
  refine hpop.out.mono ?_
  rintro e w1 ⟨rfl, h', q1, q2, q3⟩
  clear hpop
  obtain ⟨hR, hev, hM, hP, hE, hG, hCb, hs1, hr1, hsr⟩ := H.out
  have no : ∀ (b : Nat) (t : TypeId), Ty w b t → t ≠ 70 → t ≠ 57 → w1.heap[b]? = w.heap[b]? := fun b t hb h1 h2 => q3.2 b hb.lt (hs1.not tC hb h1 h2)
  have R1 := hR.same (no R 52 hR.ty (by decide) (by decide))
  have M1 := hM.same (no MP 67 hM.ty (by decide) (by decide))
  have P1 := hP.same (no PP 60 hP.ty (by decide) (by decide))
  have E1 := hE.same (no ME 65 hE.ty (by decide) (by decide))
  have G1 := hG.same (no GP 65 hG.ty (by decide) (by decide))
  have V1 : Evs w1 S eb n xs := hev.same (no S 25 hev.tyS (by decide) (by decide)) (fun b hb => no b 78 (hev.tyB b hb) (by decide) (by decide))
  obtain ⟨rc, hRb, r0', r1', r9', r20'⟩ := R1
  obtain ⟨mc, hMb, m0', m1', m2'⟩ := M1
  obtain ⟨pc, hPb, p0', p1', p9'⟩ := P1
  obtain ⟨ec, hEb, e0'⟩ := E1
  obtain ⟨gc, hGb, g0'⟩ := G1
  have tR1 : Ty w1 R 52 := ⟨_, hRb⟩
  have tM1 : Ty w1 MP 67 := ⟨_, hMb⟩
  have tP1 : Ty w1 PP 60 := ⟨_, hPb⟩
  have hrd := hide (ready_any (MP := MP) (PP := PP) (ME := ME) (GP := GP) now pid gid gpid w1 V1 hn ((cell_at hRb 0).trans r0') ((cell_at hRb 1).trans r1') ((cell_at hRb 9).trans r9') ((cell_at hRb 20).trans r20')
    ((cell_at hMb 1).trans m1') ((cell_at hMb 2).trans m2') ((cell_at hEb 0).trans e0') ((cell_at hGb 0).trans g0') hPb p0' p9'
    (Ty.ne tP1 V1.tyS (by decide)) (fun e => Ty.ne tP1 (V1.tyB PP e) (by decide) rfl) (Ty.ne tR1 V1.tyS (by decide)) (fun e => Ty.ne tR1 (V1.tyB R e) (by decide) rfl) (Ty.ne tM1 V1.tyS (by decide)) (fun e => Ty.ne tM1 (V1.tyB MP e) (by decide) rfl) (Ty.ne tR1 tP1 (by decide)))
  have F := hide (And.intro q1 (And.intro q2 (And.intro q3 (And.intro V1 (And.intro tR1 (And.intro tM1 (And.intro tP1 (And.intro hMb (And.intro m0' (And.intro m1' (And.intro m2' (And.intro p0' (And.intro p1' p9')))))))))))))
  clear q1 q2 q3 V1 tR1 tM1 tP1 hRb hMb hPb hEb hGb r0' r1' r9' r20' m0' m1' m2' p0' p1' p9' e0' g0' no hR hev hM hP hE hG hCb hs1 hr1 hsr
  go_wp2_with (go_at_call 12; refine hrd.out.mono ?_; rintro e w2 ⟨⟨v2, rfl⟩, hq⟩)
  go_ret
  obtain ⟨eb', a1, a2, a3, a4⟩ := hq
  obtain ⟨q1, q2, q3, V1, tR1, tM1, tP1, hMb, m0', m1', m2', p0', p1', p9'⟩ := F.out
  obtain ⟨hR, hev, hM, hP, hE, hG, hCb, hs1, hr1, hsr⟩ := H.out
  have tC1 : Ty w1 C 70 := ⟨_, q2⟩
  have no2 : ∀ (b : Nat) (t : TypeId), Ty w1 b t → t ≠ 25 → t ≠ 78 → t ≠ 60 → w2.heap[b]? = w1.heap[b]? := fun b t hb h1 h2 h3 => a4.2 b hb.lt (by
    rintro (e | e | e)
    · exact Ty.ne hb V1.tyS h1 e
    · exact Ty.ne hb (V1.tyB b e) h2 rfl
    · exact Ty.ne hb tP1 h3 e)
  have hr1' : Ring w1 rb r0 hr rs := hr1.kept q3 (fun b hb => by
    rintro (e | e)
    · exact Ty.ne (hr1.ty b hb) tC (by decide) e
    · exact hsr b e hb)
  refine ⟨rfl, eb', a1, ?_, ⟨mc, (no2 MP 67 tM1 (by decide) (by decide) (by decide)).trans hMb, m0', m1', m2'⟩, ⟨_, a3, ?_, ?_, ?_⟩, ⟨s0, r0, h', hr, ?_, q1.same (fun b hb => no2 b 57 (q1.ty b hb) (by decide) (by decide) (by decide)), hr1'.same (fun b hb => no2 b 57 (hr1'.ty b hb) (by decide) (by decide) (by decide)), hsr⟩, q3.1.trans a4.1, fun b hb hD => ?_⟩
  · have := q3.1.size
    rcases a2 with e | ⟨k, e, hk⟩
    · exact Or.inl e
    · exact Or.inr ⟨k, e, by omega⟩
  · rw [Array.getElem?_setIfInBounds_ne (by decide)]; exact p0'
  · rw [Array.getElem?_setIfInBounds_ne (by decide)]; exact p1'
  · rw [Array.getElem?_setIfInBounds_self_of_lt (idx_lt p9')]
  · rw [no2 C 70 tC1 (by decide) (by decide) (by decide), q2]
    rfl
  · have := q3.1.size
    rw [a4.2 b (by omega) (fun e => hD (e.elim Or.inl (fun e => e.elim (fun e => Or.inr (Or.inl e)) (fun e => Or.inr (Or.inr (Or.inl e)))))), q3.2 b hb (fun e => hD (e.elim (fun e => Or.inr (Or.inr (Or.inr (Or.inr (Or.inl e))))) (fun e => Or.inr (Or.inr (Or.inr (Or.inr (Or.inr (Or.inl e))))))))]

set_option maxRecDepth 100000 in
set_option maxHeartbeats 2000000 in
theorem recv_room {R S MP PP C n : Nat} {eb sb rb : Option Nat} {xs : List Value} {rs : List Addr} {nm : ByteArray} {cap items pid mid : Int} {g rn : Value} (w : World) (hev : Evs w S eb n xs)
    (hM : MSt w MP PP g mid) (hP : PSt w PP pid rn) (hC : CSt w C nm cap items sb rb [] rs) (hlt : 0 < items) (hi1 : items ≤ 9223372036854775807) :
    Calls Ybaf.prog 9 #[.pointer (some ⟨R, 0, none⟩), .pointer (some ⟨MP, 0, none⟩), .pointer (some ⟨C, 0, none⟩)] w fun e w' => e = .returned (.bool true) ∧
      Evs w' S eb n xs ∧ MSt w' MP PP g mid ∧ PSt w' PP pid rn ∧ CSt w' C nm cap (items - 1) sb rb [] rs ∧ Kept (Dirty S eb PP MP C sb rb) w w' := by
  obtain ⟨s0, r0, hs, hr, hCb, hs1, hr1, hsr⟩ := hC
  have tC : Ty w C 70 := ⟨_, hCb⟩
  have c8 : w.cell? ⟨C, 3 + 2, none⟩ = some (.int .i64 0) := cell_at hCb 5
  have c2 : w.cell? ⟨C, 2, none⟩ = some (.int .i64 items) := cell_at hCb 2
  have fz := frozen_at hCb
  have hpop := hide (Pop_empty (C := C) (o := 3) w c8)
  have H := hide (And.intro hev (And.intro hM (And.intro hP (And.intro hCb (And.intro hs1 (And.intro hr1 hsr))))))
  clear hev hM hP hCb hs1 hr1 hsr c8
  go_enter Ybaf.func9, Ybaf.ntmps9
  go_wp2_with fail
  refine hpop.out.mono ?_
  rintro e w1 ⟨rfl, rfl⟩
  clear hpop
  go_wp2
  go_ret
  obtain ⟨hev, hM, hP, hCb, hs1, hr1, hsr⟩ := H.out
  have ne : ∀ (b : Nat) (t : TypeId), Ty w1 b t → t ≠ 70 → ∀ v, (w1.setCell ⟨C, 2, none⟩ v).heap[b]? = w1.heap[b]? := fun b t hb h v => (Below.heap_setCell _ _ _ _ (Ty.ne hb tC h))
  refine ⟨rfl, hev.same (ne S 25 hev.tyS (by decide) _) (fun b hb => ne b 78 (hev.tyB b hb) (by decide) _), hM.same (ne MP 67 hM.ty (by decide) _), hP.same (ne PP 60 hP.ty (by decide) _),
    ⟨s0, r0, hs, hr, ?_, hs1.same (fun b hb => ne b 57 (hs1.ty b hb) (by decide) _), hr1.same (fun b hb => ne b 57 (hr1.ty b hb) (by decide) _), hsr⟩, (Below.refl 0 w1).setCell (Nat.zero_le _) _, fun b hb hD => ?_⟩
  · exact heap_setCell_at (w := w1) hCb _
  · exact Below.heap_setCell _ _ _ _ (fun e => hD (Or.inr (Or.inr (Or.inr (Or.inr (Or.inl e))))))

set_option maxRecDepth 100000 in
set_option maxHeartbeats 2000000 in
theorem recv_park {R S MP PP ME C n : Nat} {eb sb rb : Option Nat} {xs : List Value} {rs : List Addr} {nm : ByteArray} {cap items now pid mid gid : Int} {rn : Value} (w : World) (hR : RunSt w R S now) (hev : Evs w S eb n xs) (hn : n ≤ 2000)
    (hM : MSt w MP PP (.pointer (some ⟨ME, 0, none⟩)) mid) (hP : PSt w PP pid rn) (hE : GSt w ME gid) (hC : CSt w C nm cap items sb rb [] rs) (hge : ¬ 0 < items) (hy : rs.length ≤ 2000) :
    Calls Ybaf.prog 9 #[.pointer (some ⟨R, 0, none⟩), .pointer (some ⟨MP, 0, none⟩), .pointer (some ⟨C, 0, none⟩)] w fun e w' => e = .returned (.bool false) ∧
      ∃ eb' rb', Evs w' S eb' (n + 1) (xs ++ evc 16 now pid mid gid 0 0 0 0 nm) ∧ (eb' = eb ∨ ∃ b, eb' = some b ∧ w.heap.size ≤ b) ∧ MSt w' MP PP (.pointer none) mid ∧ PSt w' PP pid rn ∧
      CSt w' C nm cap items sb rb' [] (rs ++ [⟨ME, 0, none⟩]) ∧ (rb' = rb ∨ ∃ b, rb' = some b ∧ w.heap.size ≤ b) ∧ Kept (Dirty S eb PP MP C sb rb) w w' := by
  obtain ⟨s0, r0, hs, hr, hCb, hs1, hr1, hsr⟩ := hC
  have tC : Ty w C 70 := ⟨_, hCb⟩
  have c8 : w.cell? ⟨C, 3 + 2, none⟩ = some (.int .i64 0) := cell_at hCb 5
  have c2 : w.cell? ⟨C, 2, none⟩ = some (.int .i64 items) := cell_at hCb 2
  have hpop := hide (Pop_empty (C := C) (o := 3) w c8)
  obtain ⟨rc, hRb, r0', r1', r9', r20'⟩ := hR
  obtain ⟨mc, hMb, m0', m1', m2'⟩ := hM
  obtain ⟨pc, hPb, p0', p1', p9'⟩ := hP
  obtain ⟨ec, hEb, e0'⟩ := hE
  have hpk : Calls Ybaf.prog 13 #[.pointer (some ⟨R, 0, none⟩), .pointer (some ⟨MP, 0, none⟩), .pointer (some ⟨C, 0, none⟩), .pointer (some ⟨C, 6, none⟩)] w _ := park_any (o := 6) now pid mid gid nm w hev hn ((cell_at hRb 0).trans r0') ((cell_at hRb 1).trans r1') ((cell_at hRb 20).trans r20') hMb m0' m1' m2' ((cell_at hPb 0).trans p0') ((cell_at hEb 0).trans e0') hCb rfl rfl rfl rfl hr1 hy
  have HK := hide hpk
  have H := hide (And.intro hev (And.intro hMb (And.intro hPb (And.intro hCb (And.intro hs1 (And.intro hr1 hsr))))))
  clear hev hMb hPb hCb hs1 hr1 hsr c8 hRb hEb r0' r1' r9' r20' e0' hpk
  have D := hide (And.intro m0' (And.intro m1' (And.intro m2' (And.intro p0' (And.intro p1' p9')))))
  clear m0' m1' m2' p0' p1' p9'
  go_enter Ybaf.func9, Ybaf.ntmps9
  go_wp2_with fail
  refine hpop.out.mono ?_
  rintro e w1 ⟨rfl, rfl⟩
  clear hpop
  go_wp2_with (go_at_call 13; refine HK.out.mono ?_; rintro e w2 ⟨⟨v2, rfl⟩, hq⟩)
  go_ret
  obtain ⟨eb', rb', sl', h', a1, a2, a3, a4, a5, a6, a7⟩ := hq
  obtain ⟨m0', m1', m2', p0', p1', p9'⟩ := D.out
  obtain ⟨hev, hMb, hPb, hCb, hs1, hr1, hsr⟩ := H.out
  have tM : Ty w1 MP 67 := ⟨_, hMb⟩
  have tP : Ty w1 PP 60 := ⟨_, hPb⟩
  have nP : w2.heap[PP]? = w1.heap[PP]? := a7.2 PP tP.lt (by
    rintro (e | e | e | e | e)
    · exact Ty.ne tP hev.tyS (by decide) e
    · exact Ty.ne tP (hev.tyB PP e) (by decide) rfl
    · exact Ty.ne tP tC (by decide) e
    · exact Ty.ne tP (hr1.ty PP e) (by decide) rfl
    · exact Ty.ne tP tM (by decide) e)
  have nr : ∀ b, sb = some b → w2.heap[b]? = w1.heap[b]? := fun b hb => a7.2 b (hs1.lt b hb) (by
    have tb := hs1.ty b hb
    rintro (e | e | e | e | e)
    · exact Ty.ne tb hev.tyS (by decide) e
    · exact Ty.ne tb (hev.tyB b e) (by decide) rfl
    · exact Ty.ne tb tC (by decide) e
    · exact hsr b hb e
    · exact Ty.ne tb tM (by decide) e)
  refine ⟨rfl, eb', rb', a1, a2, ⟨_, a6, ?_, ?_, ?_⟩, ⟨pc, nP.trans hPb, p0', p1', p9'⟩, ⟨s0, sl', hs, h', ?_, hs1.same nr, a3, fun b hb e => ?_⟩, a4, a7.1, fun b hb hD => ?_⟩
  · rw [Array.getElem?_setIfInBounds_ne (by decide)]; exact m0'
  · rw [Array.getElem?_setIfInBounds_ne (by decide)]; exact m1'
  · rw [Array.getElem?_setIfInBounds_self_of_lt (idx_lt m2')]
  · rw [a5]
    simp [three]
  · rcases a4 with e' | ⟨k, e', hk⟩
    · exact hsr b hb (by rw [← e', e])
    · have := hs1.lt b hb
      have : k = b := by rw [e] at e'; exact (Option.some.inj e').symm
      omega
  · exact a7.2 b hb (by
      rintro (e | e | e | e | e)
      · exact hD (Or.inl e)
      · exact hD (Or.inr (Or.inl e))
      · exact hD (Or.inr (Or.inr (Or.inr (Or.inr (Or.inl e)))))
      · exact hD (Or.inr (Or.inr (Or.inr (Or.inr (Or.inr (Or.inr e))))))
      · exact hD (Or.inr (Or.inr (Or.inr (Or.inl e)))))
end Go.Proofs.YbulkbqeoFmt
