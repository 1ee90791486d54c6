/- zzs3342csame, zzs3342cdrain. By an AI agent. -/
import Derived.Test.YbulkbqeoFmtPush
import Derived.Deep.AppendLies
import Derived.LaidEqlPtr
import Derived.Lib.Builder
namespace Go.Proofs.YbulkbqeoFmt
open Go Go.RowKit

/-- A slice of pointers that holds xs. -/
def Holds (w : World) (v : Value) (xs : List Addr) : Prop := ∃ a cap, v = .slice a xs.length cap ∧ ∀ (j : Nat) (x : Addr), xs[j]? = some x → ∃ b off, a = some ⟨b, off, none⟩ ∧ w.cell? ⟨b, off + j, none⟩ = some (Value.pointer (some x))

theorem Ybaf.info65 : ∃ j, Ybaf.prog.info? 65 = some j := by
  cases h : Ybaf.prog.info? 65 with
  | none => exact absurd (show (Ybaf.prog.info? 65).isSome = true by kernel_rfl) (by rw [h]; simp)
  | some j => exact ⟨j, rfl⟩
theorem eql_same (a : Addr) (w : World) : (binOp .eql 57 (.pointer (some a)) (.pointer (some a))).run Ybaf.prog w = .ok (.bool true) w := by
  obtain ⟨j, hj⟩ := Ybaf.info65
  exact run_eql_ptr_same w a Ybaf.underlying57 hj
theorem neq_same (a : Addr) (w : World) : (binOp .neq 57 (.pointer (some a)) (.pointer (some a))).run Ybaf.prog w = .ok (.bool false) w := by
  obtain ⟨j, hj⟩ := Ybaf.info65
  exact Lib.run_neq_ptr_same w a Ybaf.underlying57 hj

set_option maxRecDepth 100000 in
set_option maxHeartbeats 1000000 in
theorem same_true (u v : Value) (xs : List Addr) (w : World) (hu : Holds w u xs) (hv : Holds w v xs) (hl : xs.length ≤ 4096) :
    Calls Ybaf.prog 8 #[u, v] w fun e w' => e = .returned (.bool true) ∧ ∃ q, w' = w.drewN q := by
  obtain ⟨a, ca, rfl, ha⟩ := hu
  obtain ⟨b, cb, rfl, hb⟩ := hv
  have HA := hide ha
  have HB := hide hb
  clear ha hb
  have q57 := neq_same
  go_enter Ybaf.func8, Ybaf.ntmps8
  go_wp2
  go_loopw [13] (fun i wr => ∃ (k q : Nat), i = .int .i64 k ∧ k ≤ xs.length ∧ wr = w.drewN q) (fun i _ => xs.length - (intOf i).toNat)
  case atStart => exact ⟨0, 0, rfl, by omega, rfl⟩
  case round =>
    obtain ⟨k, q, rfl, hk, hw⟩ := hrel
    by_cases hlt : k < xs.length
    · have hx : xs[k]? = some xs[k] := List.getElem?_eq_getElem hlt
      obtain ⟨b1, o1, rfl, c1⟩ := HA.out k _ hx
      obtain ⟨b2, o2, rfl, c2⟩ := HB.out k _ hx
      clear hx
      generalize xs[k] = x at c1 c2
      have d1 : wr.cell? ⟨b1, o1 + k, none⟩ = some (.pointer (some x)) := by rw [hw]; exact c1
      have d2 : wr.cell? ⟨b2, o2 + k, none⟩ = some (.pointer (some x)) := by rw [hw]; exact c2
      have HW := hide hw
      clear hw c1 c2
      generalize hL : xs.length = L at *
      go_wp2
      go_quiet (fail)
      go_wp2
      refine ⟨⟨k + 1, q + nq, rfl, by omega, by rw [HW.out, World.drewN_drewN]⟩, by simp [intOf]; omega⟩
    · have hke : k = xs.length := by omega
      subst hke
      go_wp2
      go_ret
      exact ⟨rfl, q, rfl⟩

theorem three_set {cc : Array Value} {o : Nat} (a b c b' c' : Value) : (((three cc o a b c).setIfInBounds (o + 1) b').setIfInBounds (o + 2) c') = three cc o a b' c' := by
  apply Array.ext_getElem?
  intro i
  unfold three
  simp only [Array.getElem?_setIfInBounds, Array.size_setIfInBounds]
  split
  · rfl
  · split
    · rfl
    · simp_all
theorem three_self {cc : Array Value} {o : Nat} {a b c : Value} (h0 : cc[o]? = some a) (h1 : cc[o + 1]? = some b) (h2 : cc[o + 2]? = some c) : three cc o a b c = cc := by
  unfold three
  rw [set_same h0, set_same h1, set_same h2]
theorem three_get {cc : Array Value} {o : Nat} (h : o + 2 < cc.size) (a b c : Value) : (three cc o a b c)[o]? = some a ∧ (three cc o a b c)[o + 1]? = some b ∧ (three cc o a b c)[o + 2]? = some c := by
  unfold three
  refine ⟨?_, ?_, ?_⟩
  · rw [Array.getElem?_setIfInBounds_ne (by omega), Array.getElem?_setIfInBounds_ne (by omega), Array.getElem?_setIfInBounds_self_of_lt (by omega)]
  · rw [Array.getElem?_setIfInBounds_ne (by omega), Array.getElem?_setIfInBounds_self_of_lt (by simp; omega)]
  · rw [Array.getElem?_setIfInBounds_self_of_lt (by simp; omega)]
theorem Kept.refl (D : Nat → Prop) (w : World) : Kept D w w := ⟨Below.refl _ _, fun _ _ _ => rfl⟩
theorem Kept.trans {D : Nat → Prop} {a b c : World} (h : Kept D a b) (k : Kept D b c) : Kept D a c := ⟨h.1.trans k.1, fun x hx hD => (k.2 x (Nat.lt_of_lt_of_le hx h.1.size) hD).trans (h.2 x hx hD)⟩
theorem Kept.mono {D D' : Nat → Prop} {w w' : World} (h : Kept D w w') (hD : ∀ b, b < w.heap.size → D b → D' b) : Kept D' w w' := ⟨h.1, fun b hb hn => h.2 b hb fun hd => hn (hD b hb hd)⟩
theorem Ring.same {w w' : World} {rb : Option Nat} {sl : Value} {h : Nat} {xs : List Addr} (hr : Ring w rb sl h xs) (hw : ∀ b, rb = some b → w'.heap[b]? = w.heap[b]?) : Ring w' rb sl h xs := by
  rcases hr with h0 | ⟨B, L, cs, rfl, rfl, hB, rest⟩
  · exact Or.inl h0
  · exact Or.inr ⟨B, L, cs, rfl, rfl, (hw B rfl).trans hB, rest⟩
theorem Ring.lt {w : World} {rb : Option Nat} {sl : Value} {h : Nat} {xs : List Addr} (hr : Ring w rb sl h xs) : ∀ b, rb = some b → b < w.heap.size := by
  rcases hr with ⟨rfl, _⟩ | ⟨B, L, cs, rfl, rfl, hB, rest⟩
  · intro b hb; cases hb
  · intro b hb
    cases hb
    rcases Nat.lt_or_ge B w.heap.size with hlt | hge
    · exact hlt
    · rw [Array.getElem?_eq_none hge] at hB; cases hB
def ptrs (xs : List Addr) : List Value := xs.map fun x => Value.pointer (some x)
theorem block_lt {w : World} {b : Nat} {o : Obj} (h : w.heap[b]? = some o) : b < w.heap.size := by
  rcases Nat.lt_or_ge b w.heap.size with hlt | hge
  · exact hlt
  · rw [Array.getElem?_eq_none hge] at h; cases h

/-- A slice of pointers of its own, in a block from lo on. -/
def Mine (w : World) (lo : Nat) (v : Value) (xs : List Addr) : Prop := w.ownsRow 0 57 1 v xs.length (ptrs xs) ∧ ∀ g, v.ownBlock = some g → lo ≤ g ∧ g < w.heap.size

theorem heap_alloc_new (w : World) (o : Obj) : (w.alloc o).heap[w.heap.size]? = some o := by
  show (w.heap.push o)[w.heap.size]? = some o
  simp
theorem owns_same {w w' : World} {base : Nat} {e : TypeId} {size : Nat} {v : Value} {n : Nat} {xs : List Value} (h : w.ownsRow base e size v n xs) (hw : ∀ g, v.ownBlock = some g → w'.heap[g]? = w.heap[g]?) : w'.ownsRow base e size v n xs := by
  refine ⟨h.1, ?_⟩
  rcases h.2 with h0 | ⟨g, cap, cur, rfl, hb, hg, rest⟩
  · exact Or.inl h0
  · exact Or.inr ⟨g, cap, cur, rfl, hb, (hw g rfl).trans hg, rest⟩
theorem Mine.same {w w' : World} {lo : Nat} {v : Value} {xs : List Addr} (h : Mine w lo v xs) (hs : w.heap.size ≤ w'.heap.size) (hw : ∀ g, v.ownBlock = some g → w'.heap[g]? = w.heap[g]?) : Mine w' lo v xs :=
  ⟨owns_same h.1 hw, fun g hg => ⟨(h.2 g hg).1, Nat.lt_of_lt_of_le (h.2 g hg).2 hs⟩⟩
/-- Behind an append onto such a slice. -/
theorem mine_step {w2 w1 : World} {lo g cap : Nat} {v : Value} {ys : List Addr} {x : Addr} {o : Obj} (h : Mine w2 lo v ys) (hlo : lo ≤ w2.heap.size)
    (hown : w1.ownsRow 0 57 1 (.slice (some ⟨g, 0, none⟩) (ys.length + 1) cap) (ys.length + 1) (ptrs ys ++ [.pointer (some x)])) (hg : (w2.alloc o).grownBy w1 v.ownBlock) (hat : v.ownBlock = some g ∨ g = w2.heap.size + 1) (hlt : g < w1.heap.size) :
    Mine w1 lo (.slice (some ⟨g, 0, none⟩) (ys.length + 1) cap) (ys ++ [x]) ∧ Below 0 w2 w1 ∧ ∀ b, b < w2.heap.size → b < lo → w1.heap[b]? = w2.heap[b]? := by
  have hsz : (w2.alloc o).heap.size = w2.heap.size + 1 := by
    show (w2.heap.push o).size = _
    rw [Array.size_push]
  have hs := hg.size
  refine ⟨⟨?_, fun g' hg' => ?_⟩, ⟨hg.os, hg.tape, hg.output, by omega, fun k hk => absurd hk (Nat.not_lt_zero _)⟩, fun b hb hbl => ?_⟩
  · have e1 : (ys ++ [x]).length = ys.length + 1 := by simp
    have e2 : ptrs (ys ++ [x]) = ptrs ys ++ [.pointer (some x)] := by simp [ptrs]
    rw [e1, e2]; exact hown
  · obtain rfl : g = g' := by simpa [Value.ownBlock] using hg'
    refine ⟨?_, hlt⟩
    rcases hat with h1 | h1
    · exact (h.2 g h1).1
    · omega
  · rw [hg.block b (by omega) (fun e => ?_), Below.heap_alloc _ _ _ hb]
    have := (h.2 b e.symm).1
    omega

set_option maxRecDepth 100000 in
set_option maxHeartbeats 2000000 in
/-- zzs3342cdrain. -/
theorem drain_any {C o h : Nat} {t : TypeId} {cc : Array Value} {rb : Option Nat} {sl : Value} {xs : List Addr} (mx : Nat) (w : World) (hC : w.heap[C]? = some (.cells cc t (0, 0)))
    (h0 : cc[o]? = some sl) (h1 : cc[o + 1]? = some (.int .i64 h)) (h2 : cc[o + 2]? = some (.int .i64 xs.length)) (hr : Ring w rb sl h xs) (hCB : rb ≠ some C) (hx2 : xs.length < mx) (hmx : mx ≤ 2000) :
    Calls Ybaf.prog 7 #[.pointer (some ⟨C, o, none⟩), .int .i64 mx] w fun e w' => ∃ v, e = .returned v ∧ Mine w' w.heap.size v xs ∧
      (∃ h' : Nat, Ring w' rb sl h' [] ∧ w'.heap[C]? = some (.cells (three cc o sl (.int .i64 h') (.int .i64 0)) t (0, 0))) ∧ Kept (fun b => b = C ∨ rb = some b) w w' := by
  obtain ⟨i0, hi, hz0, hz1, hz2⟩ := info_parts Ybaf.info57
  have hCw := block_lt hC
  have hcs := idx_lt h2
  have HRB := hide hr.lt
  have hr0 : Ring w rb sl h (xs.drop 0) := by simpa using hr
  have hC0 : w.heap[C]? = some (.cells (three cc o sl (.int .i64 h) (.int .i64 ((xs.length - 0 : Nat) : Int))) t (0, 0)) := by rw [Nat.sub_zero, three_self h0 h1 h2]; exact hC
  clear hC h0 h1 h2 hr
  go_enter Ybaf.func7, Ybaf.ntmps7
  go_wp2
  go_loopw [5, 6] (fun ov i wr => ∃ (k h' : Nat), i = .int .i64 k ∧ k ≤ xs.length ∧ Mine wr w.heap.size ov (xs.take k) ∧ Ring wr rb sl h' (xs.drop k) ∧
      wr.heap[C]? = some (.cells (three cc o sl (.int .i64 h') (.int .i64 ((xs.length - k : Nat) : Int))) t (0, 0)) ∧ Kept (fun b => b = C ∨ rb = some b) w wr) (fun _ i _ => xs.length - (intOf i).toNat)
  case atStart => exact ⟨0, h, rfl, by omega, ⟨⟨rfl, Or.inl ⟨rfl, rfl⟩⟩, fun g hg => by cases hg⟩, hr0, hC0, Kept.refl _ _⟩
  case round =>
    obtain ⟨k, h', rfl, hk, hmine, hring, hCr, hkept⟩ := hrel
    have i1 : (k : Int) < (mx : Int) := by omega
    obtain ⟨g0, g1, g2⟩ := three_get hcs sl (.int .i64 h') (.int .i64 ((xs.length - k : Nat) : Int))
    by_cases hlt : k < xs.length
    · have hd : xs.drop k = xs[k] :: xs.drop (k + 1) := List.drop_eq_getElem_cons hlt
      rw [hd] at hring
      have hlen : xs.length - k = (xs.drop (k + 1)).length + 1 := by rw [List.length_drop]; omega
      have hpop := hide (Pop_any wr hCr g0 g1 (by rw [g2, hlen]) hring hCB)
      have HM := hide hmine
      have HK := hide hkept
      have HC := hide hCr
      clear hring hCr hmine hkept g0 g1 g2 hd hlen
      go_wp2_with fail
      refine hpop.out.mono ?_
      rintro e w2 ⟨rfl, h'', hr2, hC2, hk2⟩
      rw [three_set] at hC2
      have HR2 := hide hr2
      have HC2 := hide hC2
      have HK2 := hide hk2
      clear hr2 hC2 hk2 hpop
      have hm2 : Mine w2 w.heap.size u5 (xs.take k) := HM.out.same HK2.out.1.size fun g hg => HK2.out.2 g (HM.out.2 g hg).2 (fun hD => by
        have h3 := (HM.out.2 g hg).1
        rcases hD with h4 | h4
        · omega
        · have := HRB.out g h4; omega)
      have HM2 := hide hm2
      clear hm2
      have hw2 : w.heap.size ≤ w2.heap.size := Nat.le_trans HK.out.1.size HK2.out.1.size
      generalize hX : xs[k] = x
      have htl : (xs.take k).length = k := by rw [List.length_take]; omega
      go_wp2_with (at_builtin; refine wpList_append_lies _ rfl _ _ 30 rfl 0 57 i0 (.pointer none) 1 8 Ybaf.underlying30 hi hz0 hz1 hz2 rfl (by decide) u5 (xs.take k).length _ rfl (HM2.out.1.alloc _) ⟨w2.heap.size, 0, none⟩ 1 1 [.pointer (some x)] rfl rfl (World.news_of_block (heap_alloc_new _ _)) (by intro u hu; simp at hu; subst hu; rfl) (by omega) (by unfold maxLen; omega) (by omega) (Nat.zero_le _) (w2.heap.size + 1) (by simp) ?_; intro g1 cap1 w1 hown1 hgrow1 hat hglt)
      obtain ⟨s1, s2, s3⟩ := mine_step HM2.out hw2 hown1 hgrow1 hat hglt
      have htk : xs.take (k + 1) = xs.take k ++ [x] := by rw [List.take_succ_eq_append_getElem hlt, hX]
      have hC2' : C < w2.heap.size := by omega
      refine ⟨⟨k + 1, h'', rfl, by omega, ?_, ?_, ?_, ?_⟩, by simp [intOf]; omega⟩
      · rw [htk]
        rw [htl] at s1
        exact s1
      · refine HR2.out.same fun b hb => s3 b ?_ (HRB.out b hb)
        have := HRB.out b hb
        omega
      · rw [s3 C hC2' hCw, HC2.out, List.length_drop]
      · have hall := HK.out.trans HK2.out
        exact ⟨hall.1.trans s2, fun b hb hD => (s3 b (by omega) hb).trans (hall.2 b hb hD)⟩
    · have hke : k = xs.length := by omega
      subst hke
      rw [Nat.sub_self] at g2 hCr
      rw [List.drop_length] at hring
      have hpop := hide (Pop_empty (C := C) (o := o) wr ((cell_at hCr (o + 2)).trans g2))
      have HM := hide hmine
      have HK := hide hkept
      have HC := hide hCr
      have HR := hide hring
      clear hring hCr hmine hkept g0 g1 g2
      go_wp2_with fail
      refine hpop.out.mono ?_
      rintro e w2 ⟨rfl, rfl⟩
      go_wp2
      go_ret
      rw [List.take_length] at HM
      exact ⟨_, rfl, HM.out, ⟨h', HR.out, HC.out⟩, HK.out⟩
end Go.Proofs.YbulkbqeoFmt
