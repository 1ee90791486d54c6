/- zzs3342bmodel: it comes to 'valF' of the tree. By an AI agent. -/
import Derived.Test.YbulkbqeoBuild
import Derived.Shelf.Lay
import Derived.Shelf.Bits.Mul64
import Derived.BigQuiet
namespace Go.Proofs.Ybulkbqeo
open Go.RowKit Go.Shelf
shelf_lay Lays.n264 Nm 264 at Yba as Yba.lays264
theorem mul64 (x y : Nat) (hx : x < 18446744073709551616) (hy : y < 18446744073709551616) (w : World) :
    Calls Yba.prog 11 #[.int .u64 x, .int .u64 y] w fun e w' => e = .returned (.tuple #[.int .u64 ((x * y / 18446744073709551616 : Nat) : Int), .int .u64 ((x * y % 18446744073709551616 : Nat) : Int)]) ∧ w' = w :=
  Any.bits_Mul64 Yba.lays264 x y hx hy w
/-- bits.Mul64 over integers. -/
theorem mul64_int (x y : Int) (hx0 : 0 ≤ x) (hx : x < 18446744073709551616) (hy0 : 0 ≤ y) (hy : y < 18446744073709551616) (w : World) :
    Calls Yba.prog 11 #[.int .u64 x, .int .u64 y] w fun e w' => e = .returned (.tuple #[.int .u64 (x * y / 18446744073709551616), .int .u64 (x * y % 18446744073709551616)]) ∧ w' = w := by
  obtain ⟨a, rfl⟩ := Int.eq_ofNat_of_zero_le hx0
  obtain ⟨b, rfl⟩ := Int.eq_ofNat_of_zero_le hy0
  exact mul64 a b (by omega) (by omega) w

theorem itm_drop {α : Type} {l : List α} {k : Nat} {x : α} (h : itm l k = some x) : l.drop k = x :: l.drop (k + 1) := by
  unfold itm at h
  obtain ⟨hk, rfl⟩ := List.getElem?_eq_some_iff.1 h
  exact List.drop_eq_getElem_cons hk

theorem itm_lt {α : Type} {l : List α} {k : Nat} (h : k < l.length) : ∃ x, itm l k = some x := ⟨l[k], by unfold itm; exact List.getElem?_eq_getElem h⟩

theorem valL_work {α : Type} (f : α → Int) {kd us ct : Int} {z : α} {r : List (Int × Int × Int × α)} {tot : Int} (h : kd = 1 ∨ kd = 5) (ho : 4611686018427387904 < tot + us) : valL f ((kd, us, ct, z) :: r) tot = 4611686018427387905 := by
  unfold valL; rw [if_pos h, if_pos (show lim < tot + us from ho)]; rfl
theorem valL_work' {α : Type} (f : α → Int) {kd us ct : Int} {z : α} {r : List (Int × Int × Int × α)} {tot : Int} (h : kd = 1 ∨ kd = 5) (ho : ¬ 4611686018427387904 < tot + us) : valL f ((kd, us, ct, z) :: r) tot = valL f r (tot + us) := by
  rw [valL, if_pos h, if_neg (show ¬ lim < tot + us from ho)]
theorem valL_go {α : Type} (f : α → Int) {us ct : Int} {z : α} {r : List (Int × Int × Int × α)} {tot : Int} (ho : 4611686018427387904 < tot + ct * f z) : valL f ((2, us, ct, z) :: r) tot = 4611686018427387905 := by
  unfold valL; rw [if_neg (by omega), if_pos rfl, if_pos (show lim < tot + ct * f z from ho)]; rfl
theorem valL_go' {α : Type} (f : α → Int) {us ct : Int} {z : α} {r : List (Int × Int × Int × α)} {tot : Int} (ho : ¬ 4611686018427387904 < tot + ct * f z) : valL f ((2, us, ct, z) :: r) tot = valL f r (tot + ct * f z) := by
  rw [valL, if_neg (by omega), if_pos rfl, if_neg (show ¬ lim < tot + ct * f z from ho)]
theorem valL_exit {α : Type} (f : α → Int) {us ct : Int} {z : α} {r : List (Int × Int × Int × α)} {tot : Int} : valL f ((3, us, ct, z) :: r) tot = tot := by
  unfold valL; rw [if_neg (by omega), if_neg (by omega), if_pos rfl]
theorem valL_else {α : Type} (f : α → Int) {kd us ct : Int} {z : α} {r : List (Int × Int × Int × α)} {tot : Int} (m1 : ¬ kd = 1) (m5 : ¬ kd = 5) (m2 : ¬ kd = 2) (m3 : ¬ kd = 3) : valL f ((kd, us, ct, z) :: r) tot = valL f r tot := by
  rw [valL, if_neg (by dsimp only; omega), if_neg m2, if_neg m3]

set_option maxRecDepth 100000 in
theorem model_nil (w : World) : Calls Yba.prog 8 #[.slice none 0 0] w fun e w' => e = .returned (.int .u64 0) ∧ w' = w := by
  go_enter Yba.func8, Yba.ntmps8
  go_wp2
  go_loop [3, 11] (fun s i => s = .int .u64 0 ∧ i = .int .i64 0) (fun _ _ => 0)
  case atStart => exact ⟨rfl, rfl⟩
  case round =>
    obtain ⟨rfl, rfl⟩ := hrel
    go_wp2
    go_ret
    exact ⟨rfl, rfl⟩

set_option maxRecDepth 100000 in
set_option maxHeartbeats 2000000 in
theorem model_any (lo hi : Nat) (w : World) : ∀ (d : Nat) (u : Value) (t : Tr d), Ops lo hi w d u t → Calls Yba.prog 8 #[u] w fun e w' => e = .returned (.int .u64 (valF d t)) ∧ w' = w := by
  intro d
  induction d with
  | zero => intro u t h; cases h; exact model_nil w
  | succ d ih =>
    intro u t h
    have IH := hide ih
    clear ih
    have hval := h.val
    obtain ⟨a, cap, rfl, hl, hx⟩ := h
    have HX := hide hx
    clear hx
    change List (Int × Int × Int × Tr d) at t
    have hv : valF (d + 1) t = valL (valF d) t 0 := rfl
    rw [hv] at hval ⊢
    clear hv
    obtain ⟨V, hV⟩ : ∃ V, valL (valF d) t 0 = V := ⟨_, rfl⟩
    rw [hV] at hval ⊢
    go_enter Yba.func8, Yba.ntmps8
    go_wp2
    go_loop [3, 11] (fun s i => ∃ (k : Nat) (tot : Int), s = .int .u64 tot ∧ i = .int .i64 k ∧ k ≤ t.length ∧ 0 ≤ tot ∧ tot ≤ lim ∧ valL (valF d) (t.drop k) tot = V)
      (fun _ i => t.length - (intOf i).toNat)
    case atStart => exact ⟨0, 0, rfl, rfl, by omega, by omega, by unfold lim; omega, hV⟩
    case round =>
      obtain ⟨k, tot, rfl, rfl, hk, ht0, ht1, hsum⟩ := hrel
      by_cases hlt : k < t.length
      · obtain ⟨⟨kd, us, ct, tb⟩, hxk⟩ := itm_lt hlt
        obtain ⟨b, off, body, ha, _, _, ⟨f0, f1, f2, f3, f4, f5⟩, c0, c1, c2, c3, c4, c5, hob⟩ := HX.out k _ hxk
        dsimp only at f0 f1 f2 f3 f4 f5 c0 c1 c2 c3 c4 c5 hob
        rw [itm_drop hxk] at hsum
        subst ha
        have HS := hide hsum
        clear hsum
        unfold lim at ht1
        generalize hL : t.length = L at *
        have hV : 0 ≤ valF d tb ∧ valF d tb ≤ 4611686018427387905 := hob.val
        by_cases hw : kd = 1 ∨ kd = 5
        · have hs := HS.out
          by_cases hov : 4611686018427387904 < tot + us
          · rw [valL_work _ hw hov] at hs
            rcases hw with rfl | rfl
            all_goals
              go_wp2
              go_ret
              rw [← hs]
              exact ⟨rfl, rfl⟩
          · rw [valL_work' _ hw hov] at hs
            rcases hw with rfl | rfl
            all_goals
              go_wp2
              exact ⟨⟨k + 1, tot + us, rfl, rfl, by omega, by omega, by unfold lim; omega, hs⟩, by simp [intOf]; omega⟩
        · have hs := HS.out
          have m1 : ¬ kd = 1 := fun h => hw (Or.inl h)
          have m5 : ¬ kd = 5 := fun h => hw (Or.inr h)
          have n1 : (kd == 1) = false := by simp [m1]
          have n5 : (kd == 5) = false := by simp [m5]
          clear hw
          have hcall := hide (IH.out body tb hob)
          by_cases h2 : kd = 2
          · subst h2
            have hm : 0 ≤ ct * valF d tb := Int.mul_nonneg (by omega) hV.1
            go_wp2_with fail
            refine hcall.out.mono ?_
            rintro e w' ⟨rfl, rfl⟩
            by_cases hov : 4611686018427387904 < ct * valF d tb
            · rw [valL_go _ (by omega)] at hs
              generalize valF d tb = vb at *
              go_wp2_with (go_at_call 11; refine (mul64_int ct vb (by omega) (by omega) (by omega) (by omega) _).mono ?_; rintro e w' ⟨rfl, rfl⟩)
              all_goals
                go_ret
                rw [← hs]
                exact ⟨rfl, rfl⟩
            · have e1 : ct * valF d tb / 18446744073709551616 = 0 := by omega
              have e2 : ct * valF d tb % 18446744073709551616 = ct * valF d tb := by omega
              by_cases hov2 : 4611686018427387904 < tot + ct * valF d tb
              · rw [valL_go _ hov2] at hs
                generalize valF d tb = vb at *
                go_wp2_with (go_at_call 11; refine (mul64_int ct vb (by omega) (by omega) (by omega) (by omega) _).mono ?_; rw [e1, e2]; rintro e w' ⟨rfl, rfl⟩)
                go_ret
                rw [← hs]
                exact ⟨rfl, rfl⟩
              · rw [valL_go' _ hov2] at hs
                generalize valF d tb = vb at *
                go_wp2_with (go_at_call 11; refine (mul64_int ct vb (by omega) (by omega) (by omega) (by omega) _).mono ?_; rw [e1, e2]; rintro e w' ⟨rfl, rfl⟩)
                exact ⟨⟨k + 1, tot + ct * vb, rfl, rfl, by omega, by omega, by unfold lim; omega, hs⟩, by simp [intOf]; omega⟩
          · by_cases h3 : kd = 3
            · subst h3
              rw [valL_exit] at hs
              go_wp2
              go_ret
              rw [← hs]
              exact ⟨rfl, rfl⟩
            · rw [valL_else _ m1 m5 h2 h3] at hs
              go_wp2
              exact ⟨⟨k + 1, tot, rfl, rfl, by omega, by omega, by unfold lim; omega, hs⟩, by simp [intOf]; omega⟩
      · have hke : k = t.length := by omega
        subst hke
        rw [List.drop_length] at hsum
        unfold valL at hsum
        go_wp2
        go_ret
        rw [← hsum]
        exact ⟨rfl, rfl⟩
end Go.Proofs.Ybulkbqeo
