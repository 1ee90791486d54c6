/- run.send. By an AI agent. -/
import Derived.Test.YbulkbqeoFmtPark
namespace Go.Proofs.YbulkbqeoFmt
open Go Go.RowKit
def RunSt (w : World) (R S : Nat) (now : Int) : Prop := ∃ rc, w.heap[R]? = some (.cells rc 52 (0, 0)) ∧ rc[0]? = some (.iface 22 (.pointer (some ⟨S, 0, none⟩))) ∧ rc[1]? = some (.int .i64 now) ∧ rc[9]? = some (.slice none 0 0) ∧ rc[20]? = some .nilIface
def MSt (w : World) (MP PP : Nat) (g : Value) (mid : Int) : Prop := ∃ mc, w.heap[MP]? = some (.cells mc 67 (0, 0)) ∧ mc[0]? = some (.int .i64 mid) ∧ mc[1]? = some (.pointer (some ⟨PP, 0, none⟩)) ∧ mc[2]? = some g
def PSt (w : World) (PP : Nat) (pid : Int) (rn : Value) : Prop := ∃ pc, w.heap[PP]? = some (.cells pc 60 (0, 0)) ∧ pc[0]? = some (.int .i64 pid) ∧ pc[1]? = some (.pointer none) ∧ pc[9]? = some rn
def GSt (w : World) (b : Nat) (id : Int) : Prop := ∃ gc, w.heap[b]? = some (.cells gc 65 (0, 0)) ∧ gc[0]? = some (.int .i64 id)
/-- A channel: its two rings in blocks sb, rb of their own; ss waits to send, rs to receive. -/
def CSt (w : World) (C : Nat) (nm : ByteArray) (cap items : Int) (sb rb : Option Nat) (ss rs : List Addr) : Prop :=
  ∃ s0 r0, ∃ (hs hr : Nat), w.heap[C]? = some (.cells #[.string nm, .int .i64 cap, .int .i64 items, s0, .int .i64 hs, .int .i64 ss.length, r0, .int .i64 hr, .int .i64 rs.length] 70 (0, 0)) ∧ Ring w sb s0 hs ss ∧ Ring w rb r0 hr rs ∧ ∀ b, sb = some b → rb ≠ some b
/-- The blocks that an operation on a channel may write. -/
def Dirty (S : Nat) (eb : Option Nat) (PP MP C : Nat) (sb rb : Option Nat) (b : Nat) : Prop := b = S ∨ eb = some b ∨ b = PP ∨ b = MP ∨ b = C ∨ sb = some b ∨ rb = some b

theorem RunSt.ty {w : World} {R S : Nat} {now : Int} (h : RunSt w R S now) : Ty w R 52 := by obtain ⟨rc, h, _⟩ := h; exact ⟨rc, h⟩
theorem MSt.ty {w : World} {MP PP : Nat} {g : Value} {mid : Int} (h : MSt w MP PP g mid) : Ty w MP 67 := by obtain ⟨rc, h, _⟩ := h; exact ⟨rc, h⟩
theorem PSt.ty {w : World} {PP : Nat} {pid : Int} {rn : Value} (h : PSt w PP pid rn) : Ty w PP 60 := by obtain ⟨rc, h, _⟩ := h; exact ⟨rc, h⟩
theorem GSt.ty {w : World} {b : Nat} {id : Int} (h : GSt w b id) : Ty w b 65 := by obtain ⟨rc, h, _⟩ := h; exact ⟨rc, h⟩
theorem CSt.ty {w : World} {C : Nat} {nm : ByteArray} {cap items : Int} {sb rb : Option Nat} {ss rs : List Addr} (h : CSt w C nm cap items sb rb ss rs) : Ty w C 70 := by obtain ⟨_, _, _, _, h, _⟩ := h; exact ⟨_, h⟩
theorem RunSt.same {w w' : World} {R S : Nat} {now : Int} (h : RunSt w R S now) (hw : w'.heap[R]? = w.heap[R]?) : RunSt w' R S now := by obtain ⟨rc, h1, h2⟩ := h; exact ⟨rc, hw.trans h1, h2⟩
theorem MSt.same {w w' : World} {MP PP : Nat} {g : Value} {mid : Int} (h : MSt w MP PP g mid) (hw : w'.heap[MP]? = w.heap[MP]?) : MSt w' MP PP g mid := by obtain ⟨rc, h1, h2⟩ := h; exact ⟨rc, hw.trans h1, h2⟩
theorem PSt.same {w w' : World} {PP : Nat} {pid : Int} {rn : Value} (h : PSt w PP pid rn) (hw : w'.heap[PP]? = w.heap[PP]?) : PSt w' PP pid rn := by obtain ⟨rc, h1, h2⟩ := h; exact ⟨rc, hw.trans h1, h2⟩
theorem GSt.same {w w' : World} {b : Nat} {id : Int} (h : GSt w b id) (hw : w'.heap[b]? = w.heap[b]?) : GSt w' b id := by obtain ⟨rc, h1, h2⟩ := h; exact ⟨rc, hw.trans h1, h2⟩

set_option maxRecDepth 100000 in
set_option maxHeartbeats 2000000 in
theorem send_ready {R S MP PP ME GP C n : Nat} {eb sb rb : Option Nat} {xs : List Value} {ss rs : List Addr} {nm : ByteArray} {cap items now pid mid gid gpid : Int} (w : World) (hR : RunSt w R S now) (hev : Evs w S eb n xs) (hn : n ≤ 2000)
    (hM : MSt w MP PP (.pointer (some ⟨ME, 0, none⟩)) mid) (hP : PSt w PP pid (.pointer none)) (hE : GSt w ME gid) (hG : GSt w GP gpid) (hC : CSt w C nm cap items sb rb ss (⟨GP, 0, none⟩ :: rs)) :
    Calls Ybaf.prog 6 #[.pointer (some ⟨R, 0, none⟩), .pointer (some ⟨MP, 0, none⟩), .pointer (some ⟨C, 0, none⟩)] w fun e w' => e = .returned (.bool true) ∧
      ∃ eb', Evs w' S eb' (n + 1) (xs ++ evc 17 now pid 0 gpid 0 gid 0 0 ⟨#[]⟩) ∧ (eb' = eb ∨ ∃ b, eb' = some b ∧ w.heap.size ≤ b) ∧ MSt w' MP PP (.pointer (some ⟨ME, 0, none⟩)) mid ∧ PSt w' PP pid (.pointer (some ⟨GP, 0, none⟩)) ∧
      CSt w' C nm cap items sb rb ss rs ∧ Kept (Dirty S eb PP MP C sb rb) w w' := by
  obtain ⟨s0, r0, hs, hr, hCb, hs1, hr1, hsr⟩ := hC
  have tC : Ty w C 70 := ⟨_, hCb⟩
  have hpop := hide (Pop_any (o := 6) w hCb rfl rfl rfl hr1 (fun e => Ty.ne tC (hr1.ty C e) (by decide) rfl))
  have H := hide (And.intro hR (And.intro hev (And.intro hM (And.intro hP (And.intro hE (And.intro hG (And.intro hCb (And.intro hs1 (And.intro hr1 hsr)))))))))
  clear hR hev hM hP hE hG hCb hs1 hr1 hsr
  go_enter Ybaf.func6, Ybaf.ntmps6
  go_wp2_with fail
  refine hpop.out.mono ?_
  rintro e w1 ⟨rfl, h', q1, q2, q3⟩
  clear hpop
  obtain ⟨hR, hev, hM, hP, hE, hG, hCb, hs1, hr1, hsr⟩ := H.out
  have no : ∀ (b : Nat) (t : TypeId), Ty w b t → t ≠ 70 → t ≠ 57 → w1.heap[b]? = w.heap[b]? := fun b t hb h1 h2 => q3.2 b hb.lt (hr1.not tC hb h1 h2)
  have R1 := hR.same (no R 52 hR.ty (by decide) (by decide))
  have M1 := hM.same (no MP 67 hM.ty (by decide) (by decide))
  have P1 := hP.same (no PP 60 hP.ty (by decide) (by decide))
  have E1 := hE.same (no ME 65 hE.ty (by decide) (by decide))
  have G1 := hG.same (no GP 65 hG.ty (by decide) (by decide))
  have V1 : Evs w1 S eb n xs := hev.same (no S 25 hev.tyS (by decide) (by decide)) (fun b hb => no b 78 (hev.tyB b hb) (by decide) (by decide))
  obtain ⟨rc, hRb, r0', r1', r9', r20'⟩ := R1
  obtain ⟨mc, hMb, m0', m1', m2'⟩ := M1
  obtain ⟨pc, hPb, p0', p1', p9'⟩ := P1
  obtain ⟨ec, hEb, e0'⟩ := E1
  obtain ⟨gc, hGb, g0'⟩ := G1
  have tR1 : Ty w1 R 52 := ⟨_, hRb⟩
  have tM1 : Ty w1 MP 67 := ⟨_, hMb⟩
  have tP1 : Ty w1 PP 60 := ⟨_, hPb⟩
  have hrd := hide (ready_any (MP := MP) (PP := PP) (ME := ME) (GP := GP) now pid gid gpid w1 V1 hn ((cell_at hRb 0).trans r0') ((cell_at hRb 1).trans r1') ((cell_at hRb 9).trans r9') ((cell_at hRb 20).trans r20')
    ((cell_at hMb 1).trans m1') ((cell_at hMb 2).trans m2') ((cell_at hEb 0).trans e0') ((cell_at hGb 0).trans g0') hPb p0' p9'
    (Ty.ne tP1 V1.tyS (by decide)) (fun e => Ty.ne tP1 (V1.tyB PP e) (by decide) rfl) (Ty.ne tR1 V1.tyS (by decide)) (fun e => Ty.ne tR1 (V1.tyB R e) (by decide) rfl) (Ty.ne tM1 V1.tyS (by decide)) (fun e => Ty.ne tM1 (V1.tyB MP e) (by decide) rfl) (Ty.ne tR1 tP1 (by decide)))
  have F := hide (And.intro q1 (And.intro q2 (And.intro q3 (And.intro V1 (And.intro tR1 (And.intro tM1 (And.intro tP1 (And.intro hMb (And.intro m0' (And.intro m1' (And.intro m2' (And.intro p0' (And.intro p1' p9')))))))))))))
  clear q1 q2 q3 V1 tR1 tM1 tP1 hRb hMb hPb hEb hGb r0' r1' r9' r20' m0' m1' m2' p0' p1' p9' e0' g0' no hR hev hM hP hE hG hCb hs1 hr1 hsr
  go_wp2_with (go_at_call 12; refine hrd.out.mono ?_; rintro e w2 ⟨⟨v2, rfl⟩, hq⟩)
  go_ret
  obtain ⟨eb', a1, a2, a3, a4⟩ := hq
  obtain ⟨q1, q2, q3, V1, tR1, tM1, tP1, hMb, m0', m1', m2', p0', p1', p9'⟩ := F.out
  obtain ⟨hR, hev, hM, hP, hE, hG, hCb, hs1, hr1, hsr⟩ := H.out
  have tC1 : Ty w1 C 70 := ⟨_, q2⟩
  have no2 : ∀ (b : Nat) (t : TypeId), Ty w1 b t → t ≠ 25 → t ≠ 78 → t ≠ 60 → w2.heap[b]? = w1.heap[b]? := fun b t hb h1 h2 h3 => a4.2 b hb.lt (by
    rintro (e | e | e)
    · exact Ty.ne hb V1.tyS h1 e
    · exact Ty.ne hb (V1.tyB b e) h2 rfl
    · exact Ty.ne hb tP1 h3 e)
  have hs1' : Ring w1 sb s0 hs ss := hs1.kept q3 (fun b hb => by
    rintro (e | e)
    · exact Ty.ne (hs1.ty b hb) tC (by decide) e
    · exact hsr b hb e)
  refine ⟨rfl, eb', a1, ?_, ⟨mc, (no2 MP 67 tM1 (by decide) (by decide) (by decide)).trans hMb, m0', m1', m2'⟩, ⟨_, a3, ?_, ?_, ?_⟩, ⟨s0, r0, hs, h', ?_, hs1'.same (fun b hb => no2 b 57 (hs1'.ty b hb) (by decide) (by decide) (by decide)), q1.same (fun b hb => no2 b 57 (q1.ty b hb) (by decide) (by decide) (by decide)), hsr⟩, q3.1.trans a4.1, fun b hb hD => ?_⟩
  · have := q3.1.size
    rcases a2 with e | ⟨k, e, hk⟩
    · exact Or.inl e
    · exact Or.inr ⟨k, e, by omega⟩
  · rw [Array.getElem?_setIfInBounds_ne (by decide)]; exact p0'
  · rw [Array.getElem?_setIfInBounds_ne (by decide)]; exact p1'
  · rw [Array.getElem?_setIfInBounds_self_of_lt (idx_lt p9')]
  · rw [no2 C 70 tC1 (by decide) (by decide) (by decide), q2]
    rfl
  · have := q3.1.size
    rw [a4.2 b (by omega) (fun e => hD (e.elim Or.inl (fun e => e.elim (fun e => Or.inr (Or.inl e)) (fun e => Or.inr (Or.inr (Or.inl e)))))), q3.2 b hb (fun e => hD (e.elim (fun e => Or.inr (Or.inr (Or.inr (Or.inr (Or.inl e))))) (fun e => Or.inr (Or.inr (Or.inr (Or.inr (Or.inr (Or.inr e))))))))]

set_option maxRecDepth 100000 in
set_option maxHeartbeats 2000000 in
theorem send_room {R S MP PP C n : Nat} {eb sb rb : Option Nat} {xs : List Value} {ss : List Addr} {nm : ByteArray} {cap items pid mid : Int} {g rn : Value} (w : World) (hev : Evs w S eb n xs)
    (hM : MSt w MP PP g mid) (hP : PSt w PP pid rn) (hC : CSt w C nm cap items sb rb ss []) (hlt : items < cap) (hi0 : -9223372036854775808 ≤ items) (hc1 : cap ≤ 9223372036854775807) :
    Calls Ybaf.prog 6 #[.pointer (some ⟨R, 0, none⟩), .pointer (some ⟨MP, 0, none⟩), .pointer (some ⟨C, 0, none⟩)] w fun e w' => e = .returned (.bool true) ∧
      Evs w' S eb n xs ∧ MSt w' MP PP g mid ∧ PSt w' PP pid rn ∧ CSt w' C nm cap (items + 1) sb rb ss [] ∧ Kept (Dirty S eb PP MP C sb rb) w w' := by
  obtain ⟨s0, r0, hs, hr, hCb, hs1, hr1, hsr⟩ := hC
  have tC : Ty w C 70 := ⟨_, hCb⟩
  have c8 : w.cell? ⟨C, 6 + 2, none⟩ = some (.int .i64 0) := cell_at hCb 8
  have c1 : w.cell? ⟨C, 1, none⟩ = some (.int .i64 cap) := cell_at hCb 1
  have c2 : w.cell? ⟨C, 2, none⟩ = some (.int .i64 items) := cell_at hCb 2
  have fz := frozen_at hCb
  have hpop := hide (Pop_empty (C := C) (o := 6) w c8)
  have H := hide (And.intro hev (And.intro hM (And.intro hP (And.intro hCb (And.intro hs1 (And.intro hr1 hsr))))))
  clear hev hM hP hCb hs1 hr1 hsr c8
  go_enter Ybaf.func6, Ybaf.ntmps6
  go_wp2_with fail
  refine hpop.out.mono ?_
  rintro e w1 ⟨rfl, rfl⟩
  clear hpop
  go_wp2
  go_quiet (fail)
  go_wp2
  go_ret
  obtain ⟨hev, hM, hP, hCb, hs1, hr1, hsr⟩ := H.out
  have ne : ∀ (b : Nat) (t : TypeId), Ty w1 b t → t ≠ 70 → ∀ v, ((w1.drewN nq).setCell ⟨C, 2, none⟩ v).heap[b]? = w1.heap[b]? := fun b t hb h v => (Below.heap_setCell _ _ _ _ (Ty.ne hb tC h))
  refine ⟨rfl, hev.same (ne S 25 hev.tyS (by decide) _) (fun b hb => ne b 78 (hev.tyB b hb) (by decide) _), hM.same (ne MP 67 hM.ty (by decide) _), hP.same (ne PP 60 hP.ty (by decide) _),
    ⟨s0, r0, hs, hr, ?_, hs1.same (fun b hb => ne b 57 (hs1.ty b hb) (by decide) _), hr1.same (fun b hb => ne b 57 (hr1.ty b hb) (by decide) _), hsr⟩, (below_drewN' (Below.refl 0 w1) nq).setCell (Nat.zero_le _) _, fun b hb hD => ?_⟩
  · exact heap_setCell_at (w := w1.drewN nq) hCb _
  · exact Below.heap_setCell _ _ _ _ (fun e => hD (Or.inr (Or.inr (Or.inr (Or.inr (Or.inl e))))))

set_option maxRecDepth 100000 in
set_option maxHeartbeats 2000000 in
theorem send_park {R S MP PP ME C n : Nat} {eb sb rb : Option Nat} {xs : List Value} {ss : List Addr} {nm : ByteArray} {cap items now pid mid gid : Int} {rn : Value} (w : World) (hR : RunSt w R S now) (hev : Evs w S eb n xs) (hn : n ≤ 2000)
    (hM : MSt w MP PP (.pointer (some ⟨ME, 0, none⟩)) mid) (hP : PSt w PP pid rn) (hE : GSt w ME gid) (hC : CSt w C nm cap items sb rb ss []) (hge : ¬ items < cap) (hy : ss.length ≤ 2000) :
    Calls Ybaf.prog 6 #[.pointer (some ⟨R, 0, none⟩), .pointer (some ⟨MP, 0, none⟩), .pointer (some ⟨C, 0, none⟩)] w fun e w' => e = .returned (.bool false) ∧
      ∃ eb' sb', Evs w' S eb' (n + 1) (xs ++ evc 16 now pid mid gid 0 0 0 0 nm) ∧ (eb' = eb ∨ ∃ b, eb' = some b ∧ w.heap.size ≤ b) ∧ MSt w' MP PP (.pointer none) mid ∧ PSt w' PP pid rn ∧
      CSt w' C nm cap items sb' rb (ss ++ [⟨ME, 0, none⟩]) [] ∧ (sb' = sb ∨ ∃ b, sb' = some b ∧ w.heap.size ≤ b) ∧ Kept (Dirty S eb PP MP C sb rb) w w' := by
  obtain ⟨s0, r0, hs, hr, hCb, hs1, hr1, hsr⟩ := hC
  have tC : Ty w C 70 := ⟨_, hCb⟩
  have c8 : w.cell? ⟨C, 6 + 2, none⟩ = some (.int .i64 0) := cell_at hCb 8
  have c1 : w.cell? ⟨C, 1, none⟩ = some (.int .i64 cap) := cell_at hCb 1
  have c2 : w.cell? ⟨C, 2, none⟩ = some (.int .i64 items) := cell_at hCb 2
  have hpop := hide (Pop_empty (C := C) (o := 6) w c8)
  obtain ⟨rc, hRb, r0', r1', r9', r20'⟩ := hR
  obtain ⟨mc, hMb, m0', m1', m2'⟩ := hM
  obtain ⟨pc, hPb, p0', p1', p9'⟩ := hP
  obtain ⟨ec, hEb, e0'⟩ := hE
  have hpk : ∀ q, Calls Ybaf.prog 13 #[.pointer (some ⟨R, 0, none⟩), .pointer (some ⟨MP, 0, none⟩), .pointer (some ⟨C, 0, none⟩), .pointer (some ⟨C, 3, none⟩)] (w.drewN q) _ := fun q => park_any (o := 3) now pid mid gid nm (w.drewN q) hev hn ((cell_at hRb 0).trans r0') ((cell_at hRb 1).trans r1') ((cell_at hRb 20).trans r20') hMb m0' m1' m2' ((cell_at hPb 0).trans p0') ((cell_at hEb 0).trans e0') hCb rfl rfl rfl rfl hs1 hy
  have HK := hide hpk
  have H := hide (And.intro hev (And.intro hMb (And.intro hPb (And.intro hCb (And.intro hs1 (And.intro hr1 hsr))))))
  clear hev hMb hPb hCb hs1 hr1 hsr c8 hRb hEb r0' r1' r9' r20' e0' hpk
  have D := hide (And.intro m0' (And.intro m1' (And.intro m2' (And.intro p0' (And.intro p1' p9')))))
  clear m0' m1' m2' p0' p1' p9'
  go_enter Ybaf.func6, Ybaf.ntmps6
  go_wp2_with fail
  refine hpop.out.mono ?_
  rintro e w1 ⟨rfl, rfl⟩
  clear hpop
  go_wp2
  go_quiet (fail)
  go_wp2_with (go_at_call 13; refine (HK.out _).mono ?_; rintro e w2 ⟨⟨v2, rfl⟩, hq⟩)
  go_ret
  obtain ⟨eb', sb', sl', h', a1, a2, a3, a4, a5, a6, a7⟩ := hq
  obtain ⟨m0', m1', m2', p0', p1', p9'⟩ := D.out
  obtain ⟨hev, hMb, hPb, hCb, hs1, hr1, hsr⟩ := H.out
  have tM : Ty w1 MP 67 := ⟨_, hMb⟩
  have tP : Ty w1 PP 60 := ⟨_, hPb⟩
  have hsd : (w1.drewN nq).heap.size = w1.heap.size := rfl
  have nP : w2.heap[PP]? = w1.heap[PP]? := a7.2 PP tP.lt (by
    rintro (e | e | e | e | e)
    · exact Ty.ne tP hev.tyS (by decide) e
    · exact Ty.ne tP (hev.tyB PP e) (by decide) rfl
    · exact Ty.ne tP tC (by decide) e
    · exact Ty.ne tP (hs1.ty PP e) (by decide) rfl
    · exact Ty.ne tP tM (by decide) e)
  have nr : ∀ b, rb = some b → w2.heap[b]? = w1.heap[b]? := fun b hb => a7.2 b (hr1.lt b hb) (by
    have tb := hr1.ty b hb
    rintro (e | e | e | e | e)
    · exact Ty.ne tb hev.tyS (by decide) e
    · exact Ty.ne tb (hev.tyB b e) (by decide) rfl
    · exact Ty.ne tb tC (by decide) e
    · exact hsr b e hb
    · exact Ty.ne tb tM (by decide) e)
  refine ⟨rfl, eb', sb', a1, a2, ⟨_, a6, ?_, ?_, ?_⟩, ⟨pc, nP.trans hPb, p0', p1', p9'⟩, ⟨sl', r0, h', hr, ?_, a3, hr1.same nr, fun b hb e => ?_⟩, a4, (below_drewN' (Below.refl 0 w1) nq).trans a7.1, fun b hb hD => ?_⟩
  · rw [Array.getElem?_setIfInBounds_ne (by decide)]; exact m0'
  · rw [Array.getElem?_setIfInBounds_ne (by decide)]; exact m1'
  · rw [Array.getElem?_setIfInBounds_self_of_lt (idx_lt m2')]
  · rw [a5]
    simp [three]
  · rcases a4 with e' | ⟨k, e', hk⟩
    · exact hsr b (by rw [← e', hb]) e
    · have := hr1.lt b e
      have : k = b := by rw [hb] at e'; exact (Option.some.inj e').symm
      omega
  · exact a7.2 b hb (by
      rintro (e | e | e | e | e)
      · exact hD (Or.inl e)
      · exact hD (Or.inr (Or.inl e))
      · exact hD (Or.inr (Or.inr (Or.inr (Or.inr (Or.inl e)))))
      · exact hD (Or.inr (Or.inr (Or.inr (Or.inr (Or.inr (Or.inl e))))))
      · exact hD (Or.inr (Or.inr (Or.inr (Or.inl e)))))
end Go.Proofs.YbulkbqeoFmt
