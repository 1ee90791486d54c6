/- A walk of an ordinary call in which a region sends, receives or selects, in one goroutine: 'wpN' is the kit's 'Code.wp' for frames that are ordinary calls alone. By an AI agent. -/
import Derived.Calls
import Derived.Conc.LoneCalls
import Derived.Conc.LoneSelectN
namespace Go.Proofs.Ybulkbqbi
open Go Go.Conc

section
variable {P : Program} {Q : Exit → Act → World → Prop} {a : Act} {w : World} {ops : Array Oper}

def wpN (P : Program) (c : Code) (Q : Exit → Act → World → Prop) (a : Act) (w : World) : Prop :=
  ∀ (b : Frame) (k : List Item) (cs : List Frame), b.kind = .normal →
    ∃ e a' w', Q e a' w' ∧ Arrives P (lone (b.at a (.code c :: k)) cs w) b k cs e a' w'

/-- The same, in the middle of a region. -/
def regN (P : Program) (ops : Array Oper) (Q : Exit → Act → World → Prop) (l : List Nat) (a : Act) (w : World) : Prop :=
  ∀ (b : Frame) (k : List Item) (cs : List Frame), b.kind = .normal →
    ∃ e a' w', Q e a' w' ∧ Arrives P (lone (b.at a (.inRegion ops l :: k)) cs w) b k cs e a' w'

theorem wpN_of_wp {c : Code} (h : c.wp P Q a w) : wpN P c Q a w := fun b k cs _ => h b k cs

theorem wpN_seq {x y : Code} (h : wpN P x (Exit.then (wpN P y Q) Q) a w) : wpN P (.seq x y) Q a w := by
  intro b k cs hb
  obtain ⟨e, a1, w1, hq, harr⟩ := h b (.code y :: k) cs hb
  by_cases he : e = .normal
  · subst he
    obtain ⟨e2, a2, w2, hq2, harr2⟩ := hq b k cs hb
    exact ⟨e2, a2, w2, hq2, .of_steps (.head step_seq harr) harr2⟩
  · have hq' : Q e a1 w1 := by cases e <;> first | exact hq | exact absurd rfl he
    exact ⟨e, a1, w1, hq', .of_steps (.one step_seq) (.pass (x := .code y) rfl (fun _ _ => .inl he) harr)⟩

/-- The first statement walked by the kit's own walk, then the rest. -/
theorem wpN_then {x y : Code} (h : ∀ K : Act → World → Prop, (∀ a w, wpN P y Q a w → K a w) → x.wp P (Exit.then K Q) a w) : wpN P (.seq x y) Q a w :=
  wpN_seq (wpN_of_wp (h _ fun _ _ h => h))

theorem wpN_seq_k {x y : Code} (h : ∀ K : Act → World → Prop, (∀ a w, wpN P y Q a w → K a w) → wpN P x (Exit.then K Q) a w) : wpN P (.seq x y) Q a w :=
  wpN_seq (h _ fun _ _ h => h)

theorem wpN_cond {c : Operand} {x y : Code} {t : Bool} (hc : a.eval c = .bool t) (h : wpN P (if t then x else y) Q a w) : wpN P (.cond c x y) Q a w :=
  fun b k cs hb => let ⟨e, a', w', q, r⟩ := h b k cs hb; ⟨e, a', w', q, .of_steps (.one (step_cond hc)) r⟩

theorem wpN_region {id : Nat} (h : regN P ops Q (List.range ops.size) a w) : wpN P (.region id ops false) Q a w :=
  fun b k cs hb => let ⟨e, a', w', q, r⟩ := h b k cs hb; ⟨e, a', w', q, .of_steps (.one step_region) r⟩

theorem regN_nil (h : Q .normal a w) : regN P ops Q [] a w := fun _ _ _ _ => ⟨.normal, a, w, h, .one step_region_end⟩

theorem regN_ops {l : List Nat} (h : wpOps P ops Q l a w) : regN P ops Q l a w := fun b k cs _ => wp_ops l a w h b k cs

/-- One step of the machine, to the next operation of the region. -/
theorem regN_step {l l' : List Nat} {a' : Act} {w' : World} (hs : ∀ (b : Frame) (k : List Item) (cs : List Frame), b.kind = .normal → step P (lone (b.at a (.inRegion ops l :: k)) cs w) = .next (lone (b.at a' (.inRegion ops l' :: k)) cs w'))
    (h : regN P ops Q l' a' w') : regN P ops Q l a w :=
  fun b k cs hb => let ⟨e, a2, w2, q, r⟩ := h b k cs hb; ⟨e, a2, w2, q, .of_steps (.one (hs b k cs hb)) r⟩

variable {i : Nat} {rest : List Nat} {o : Oper}

theorem regN_value {v : Value} {w' : World} (ho : ops[i]? = some o) (hw : Region.wanted o (yielded ops a.tmps) = true) (hr : (execOp a.eval o).run P w = .ok (.value v) w') (h : regN P ops Q rest (a.put o.dst v) w') : regN P ops Q (i :: rest) a w := by
  refine regN_step (fun b k cs _ => ?_) h
  have hfin : (b.at a (.inRegion ops (i :: rest) :: k)).finish v = b.at (a.put o.dst v) (.inRegion ops rest :: k) := by rw [Frame.finish_at, ho]; rfl
  refine step_lone_go ?_
  rw [stepG_op ho hw, ← hfin]
  simp [stepG.apply, hr]

/-- What is asked once a plain operation has yielded this. -/
def uponV (o : Oper) (a : Act) (K : Act → World → Prop) : Result Next → Prop
  | .ok (.value v) w' => K (a.put o.dst v) w'
  | .ok .skip w' => K (a.put o.dst undef) w'
  | _ => False
theorem uponV_value (o : Oper) (a : Act) (K : Act → World → Prop) (v : Value) (w : World) : uponV o a K (.ok (.value v) w) = K (a.put o.dst v) w := rfl
theorem uponV_skip (o : Oper) (a : Act) (K : Act → World → Prop) (w : World) : uponV o a K (.ok .skip w) = K (a.put o.dst undef) w := rfl

theorem regN_op (ho : ops[i]? = some o) (hw : Region.wanted o (yielded ops a.tmps) = true) (h : ∀ K : Act → World → Prop, (∀ a w, regN P ops Q rest a w → K a w) → uponV o a K ((execOp a.eval o).run P w)) : regN P ops Q (i :: rest) a w := by
  have h1 := h (regN P ops Q rest) (fun _ _ h => h)
  cases hr : (execOp a.eval o).run P w with
  | halt x w' => rw [hr] at h1; exact h1.elim
  | ok n w' =>
    rw [hr] at h1
    cases n with
    | value v => exact regN_value ho hw hr h1
    | skip =>
      refine regN_step (fun b k cs _ => ?_) h1
      have hfin : (b.at a (.inRegion ops (i :: rest) :: k)).finish undef = b.at (a.put o.dst undef) (.inRegion ops rest :: k) := by rw [Frame.finish_at, ho]; rfl
      refine step_lone_go ?_
      rw [stepG_op ho hw, ← hfin]
      simp [stepG.apply, hr]
    | _ => exact h1.elim

/-- A send into a channel that has room. -/
theorem regN_send {c cap s r : Nat} {buf : Array Value} {v z : Value} {tm : Bool} (ho : ops[i]? = some o) (hw : Region.wanted o (yielded ops a.tmps) = true)
    (hr : (execOp a.eval o).run P w = .ok (.comm #[scase c v z] true .send) w) (hc : w.heap[c]? = some (.chan cap buf false s r tm)) (hroom : buf.size < cap)
    (h : regN P ops Q rest (a.put o.dst undef) (w.setChan c cap (buf.push v) false (s + 1) r tm)) : regN P ops Q (i :: rest) a w := by
  refine regN_step (fun b k cs hb => ?_) h
  have h1 := step_lone_send_room (stepG_comm (P := P) (main := true) (b := b) (k := k) (cs := cs) (rest := rest) ho hw (by rw [hb]; decide) hr) hc hroom
  rw [Frame.finish_at, ho] at h1
  exact h1

/-- A receive (without ok) from a channel that is closed and empty. -/
theorem regN_recv_shut {c cap s r : Nat} {z : Value} {tm : Bool} (ho : ops[i]? = some o) (hw : Region.wanted o (yielded ops a.tmps) = true)
    (hr : (execOp a.eval o).run P w = .ok (.comm #[rcase c z] true (.recv false)) w) (hc : w.heap[c]? = some (.chan cap #[] true s r tm))
    (h : regN P ops Q rest (a.put o.dst z) w) : regN P ops Q (i :: rest) a w := by
  refine regN_step (fun b k cs hb => ?_) h
  have h1 := step_lone_recv_shut false (stepG_comm (P := P) (main := true) (b := b) (k := k) (cs := cs) (rest := rest) ho hw (by rw [hb]; decide) hr) hc
  rw [Frame.finish_at, ho] at h1
  exact h1

/-- A select of one send and a default: there is room: it is sent. -/
theorem regN_select_room {c cap s r : Nat} {buf : Array Value} {v z : Value} {tm : Bool} (ho : ops[i]? = some o) (hw : Region.wanted o (yielded ops a.tmps) = true)
    (hr : (execOp a.eval o).run P w = .ok (.comm #[scase c v z] false .select) w) (hc : w.heap[c]? = some (.chan cap buf false s r tm)) (hroom : buf.size < cap)
    (h : regN P ops Q rest (a.put o.dst (.tuple #[goInt 0, .bool false])) (w.setChan c cap (buf.push v) false (s + 1) r tm)) : regN P ops Q (i :: rest) a w := by
  refine regN_step (fun b k cs hb => ?_) h
  have h1 := step_lone_sel_send_room (k := 0) (stepG_comm (P := P) (main := true) (b := b) (k := k) (cs := cs) (rest := rest) ho hw (by rw [hb]; decide) hr) rfl (fun m c' hm hc' => by
    rcases m with _ | m
    · exact absurd rfl hm
    · simp at hc') hc hroom
  have hres : commResult #[scase c v z] .select ((0 : Nat) : Int) undef false = .tuple #[goInt 0, .bool false] := by simp [commResult, scase, List.zipIdx_cons]
  rw [Frame.finish_at, ho, hres] at h1
  exact h1

/-- A select of one send and a default: the channel is full: the default. -/
theorem regN_select_full {c cap s r : Nat} {buf : Array Value} {v z : Value} {tm : Bool} (ho : ops[i]? = some o) (hw : Region.wanted o (yielded ops a.tmps) = true)
    (hr : (execOp a.eval o).run P w = .ok (.comm #[scase c v z] false .select) w) (hc : w.heap[c]? = some (.chan cap buf false s r tm)) (hfull : cap ≤ buf.size)
    (h : regN P ops Q rest (a.put o.dst (.tuple #[goInt (-1), .bool false])) w) : regN P ops Q (i :: rest) a w := by
  refine regN_step (fun b k cs hb => ?_) h
  have h1 := step_lone_sel_default (stepG_comm (P := P) (main := true) (b := b) (k := k) (cs := cs) (rest := rest) ho hw (by rw [hb]; decide) hr) (fun cc hcc => by
    simp only [List.mem_toArray, List.mem_cons, List.not_mem_nil, or_false] at hcc
    subst hcc
    exact noWay_send hc hfull)
  have hres : commResult #[scase c v z] .select (-1) undef false = .tuple #[goInt (-1), .bool false] := by simp [commResult, scase, List.zipIdx_cons]
  rw [Frame.finish_at, ho, hres] at h1
  exact h1
end

theorem calls_of_wpN {P : Program} {f : FuncId} {fn : Func} {c : Code} {args : Array Value} {w : World} {R : Ending → World → Prop} (hf : P.funcs[f]? = some fn) (hb : fn.body = some c)
    (h : wpN P c (bodyPost P fn R) { tmps := args ++ Array.replicate (fn.ntmps - args.size) undef, defers := [] } w) : Calls P f args w R := by
  intro cs
  have henter : Frame.enter P f args .normal = ({ (default : Frame) with fn := f, kind := .normal } : Frame).at { tmps := args ++ Array.replicate (fn.ntmps - args.size) undef, defers := [] } [.code c] := by
    simp [Frame.enter, Frame.at, hf, hb]
  obtain ⟨e, a', w', hq, harr⟩ := h { (default : Frame) with fn := f, kind := .normal } [] cs rfl
  rw [← henter] at harr
  cases e with
  | normal =>
    obtain ⟨hd, v, hr, hR⟩ := hq
    exact ⟨.returned v, w', _, hR, Steps.trans harr (.one step_end), rfl, rfl, hd, rfl, fn, hf, hr⟩
  | ret =>
    obtain ⟨hd, v, hr, hR⟩ := hq
    obtain ⟨todo, hs⟩ := harr
    exact ⟨.returned v, w', _, hR, hs, rfl, rfl, hd, rfl, fn, hf, hr⟩
  | panic chain =>
    obtain ⟨hd, hR⟩ := hq
    obtain ⟨todo, hs⟩ := harr
    exact ⟨.panicked chain, w', _, hR, hs, rfl, rfl, hd, fn, hf⟩
  | exit id => exact hq.elim
  | goto l => exact hq.elim
  | outgrown => exact ⟨.outgrown, w', { (default : Frame) with fn := f, kind := .normal }, hq, harr.resolve_left (by simp), rfl, trivial⟩
end Go.Proofs.Ybulkbqbi
