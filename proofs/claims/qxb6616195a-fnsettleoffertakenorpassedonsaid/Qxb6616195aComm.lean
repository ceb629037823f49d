/- A region that holds a send, or a select of one receive with a default, in one goroutine: laws for the walk; 'WpN' is 'Code.wp' in frames that are no early ones. -/
import Derived.WalkKit
import Derived.Defers
import Derived.Conc.LoneSelect
namespace Go.Conc
open Go.RowKit

/-- 'Code.wp' in an ordinary frame. -/
def WpN (P : Program) (c : Code) (Q : Exit → Act → World → Prop) (a : Act) (w : World) : Prop :=
  ∀ (b : Frame) (k : List Item) (cs : List Frame), b.kind = .normal → ∃ e a' w', Q e a' w' ∧ Arrives P (lone (b.at a (.code c :: k)) cs w) b k cs e a' w'
/-- From a region's remaining operations the machine of one arrives at a state of which Q holds. -/
def Arr (P : Program) (Q : Exit → Act → World → Prop) (ops : Array Oper) (l : List Nat) (a : Act) (w : World) : Prop :=
  ∀ (b : Frame) (k : List Item) (cs : List Frame), b.kind = .normal → ∃ e a' w', Q e a' w' ∧ Arrives P (lone (b.at a (.inRegion ops l :: k)) cs w) b k cs e a' w'

section
variable {P : Program} {Q : Exit → Act → World → Prop} {ops : Array Oper} {a : Act} {w : World} {i : Nat} {rest : List Nat} {o : Oper}

theorem wpN_of {c : Code} (h : c.wp P Q a w) : WpN P c Q a w := fun b k cs _ => h b k cs

theorem wpN_seqN {x y : Code} (h : WpN P x (Exit.then (WpN P y Q) Q) a w) : WpN P (Code.seq x y) Q a w := by
  intro b k cs hb
  obtain ⟨e, a₁, w₁, hq, harr⟩ := h b (.code y :: k) cs hb
  cases e with
  | normal =>
    obtain ⟨e₂, a₂, w₂, hq₂, harr₂⟩ := hq b k cs hb
    exact ⟨e₂, a₂, w₂, hq₂, .of_steps (.head step_seq harr) harr₂⟩
  | exit id => exact ⟨_, a₁, w₁, hq, .of_steps (.one step_seq) (.pass (x := .code y) rfl (fun _ _ => .inl (by simp)) harr)⟩
  | goto l => exact ⟨_, a₁, w₁, hq, .of_steps (.one step_seq) (.pass (x := .code y) rfl (fun _ _ => .inl (by simp)) harr)⟩
  | ret => exact ⟨_, a₁, w₁, hq, .of_steps (.one step_seq) (.pass (x := .code y) rfl (fun _ _ => .inl (by simp)) harr)⟩
  | panic ch => exact ⟨_, a₁, w₁, hq, .of_steps (.one step_seq) (.pass (x := .code y) rfl (fun _ _ => .inl (by simp)) harr)⟩
  | outgrown => exact ⟨_, a₁, w₁, hq, .of_steps (.one step_seq) (.pass (x := .code y) rfl (fun _ _ => .inl (by simp)) harr)⟩

/-- The first part is walked as ever. -/
theorem wpN_seq {x y : Code} (h : ∀ K : Act → World → Prop, (∀ a w, WpN P y Q a w → K a w) → x.wp P (Exit.then K Q) a w) : WpN P (Code.seq x y) Q a w := wpN_seqN (wpN_of (h _ fun _ _ h => h))
/-- The first part holds the communication; behind it the walk is as ever. -/
theorem wpN_seqC {x y : Code} (h : ∀ K : Act → World → Prop, (∀ a w, y.wp P Q a w → K a w) → WpN P x (Exit.then K Q) a w) : WpN P (Code.seq x y) Q a w := wpN_seqN (h _ fun _ _ h => wpN_of h)

theorem wpN_block {id : Nat} {c : Code} (h : WpN P c (Exit.inBlock id Q) a w) : WpN P (Code.block id c) Q a w := by
  intro b k cs hb
  obtain ⟨e, a₁, w₁, hq, harr⟩ := h b (.inBlock id :: k) cs hb
  cases e with
  | normal => exact ⟨.normal, a₁, w₁, hq, .head step_block (Steps.trans harr (.one step_inBlock))⟩
  | exit id' =>
    by_cases hid : id' = id
    · simp only [Exit.inBlock, hid, if_true] at hq
      exact ⟨.normal, a₁, w₁, hq, .head step_block (harr k (by simp [exitTo, hid]))⟩
    · simp only [Exit.inBlock, hid, if_false] at hq
      refine ⟨.exit id', a₁, w₁, hq, fun k' hk => .head step_block (harr k' ?_)⟩
      have : (id == id') = false := by simp; exact fun h => hid h.symm
      simp [exitTo, this, hk]
  | goto l => exact ⟨_, a₁, w₁, hq, fun k' hk => .head step_block (harr k' (by simp [gotoIn, hk]))⟩
  | ret => exact ⟨_, a₁, w₁, hq, .of_steps (.one step_block) harr⟩
  | panic ch => exact ⟨_, a₁, w₁, hq, .of_steps (.one step_block) harr⟩
  | outgrown => exact ⟨_, a₁, w₁, hq, .of_steps (b := b) (k := k) (cs := cs) (e := .outgrown) (.one step_block) harr⟩

theorem arr_region {id : Nat} (h : Arr P Q ops (List.range ops.size) a w) : WpN P (Code.region id ops false) Q a w :=
  fun b k cs hb => let ⟨e, a', w', q, r⟩ := h b k cs hb; ⟨e, a', w', q, .of_steps (.one step_region) r⟩

theorem arr_nil (h : Q .normal a w) : Arr P Q ops [] a w := fun _ _ _ _ => ⟨.normal, a, w, h, .one step_region_end⟩

theorem arr_finish (b : Frame) (k : List Item) (ho : ops[i]? = some o) (v : Value) : (b.at a (.inRegion ops (i :: rest) :: k)).finish v = b.at (a.put o.dst v) (.inRegion ops rest :: k) := by
  rw [Frame.finish_at, ho]; rfl

theorem arr_step (ho : ops[i]? = some o) (hw : Region.wanted o (yielded ops a.tmps) = true)
    (h : ∀ K : Result Next → Prop, (∀ v w', Arr P Q ops rest (a.put o.dst v) w' → K (.ok (.value v) w')) → K ((execOp a.eval o).run P w)) : Arr P Q ops (i :: rest) a w := by
  obtain ⟨v, w', hr, hA⟩ := h (fun r => ∃ v w', r = .ok (.value v) w' ∧ Arr P Q ops rest (a.put o.dst v) w') (fun v w' hA => ⟨v, w', rfl, hA⟩)
  intro b k cs hb
  obtain ⟨e, a', w'', hq, harr⟩ := hA b k cs hb
  refine ⟨e, a', w'', hq, .of_steps (.one (step_lone_go ?_)) harr⟩
  rw [stepG_op ho hw, ← arr_finish b k ho v]
  simp [stepG.apply, hr]

/-- What a communication leaves in the frame, and the world behind it. -/
theorem arr_comm {v : Value} {w' : World} (ho : ops[i]? = some o)
    (hs : ∀ (b : Frame) (k : List Item) (cs : List Frame), b.kind ≠ .early → step P (solo (G (b.at a (.inRegion ops (i :: rest) :: k)) cs) w) = .next (solo (G ((b.at a (.inRegion ops (i :: rest) :: k)).finish v) cs) w'))
    (hA : Arr P Q ops rest (a.put o.dst v) w') : Arr P Q ops (i :: rest) a w := by
  intro b k cs hb
  obtain ⟨e, a', w'', hq, harr⟩ := hA b k cs hb
  refine ⟨e, a', w'', hq, .of_steps (.one ?_) harr⟩
  have := hs b k cs (by rw [hb]; decide)
  rw [arr_finish b k ho v] at this
  exact this

theorem calls_of_wpN_defers {f : FuncId} {fn : Func} {c : Code} {args : Array Value} {R : Ending → World → Prop}
    (hf : P.funcs[f]? = some fn) (hb : fn.body = some c)
    (h : WpN P c (bodyPostD P fn R) { tmps := args ++ Array.replicate (fn.ntmps - args.size) undef, defers := [] } w) : Calls P f args w R := by
  intro cs
  let b : Frame := { (default : Frame) with fn := f, kind := .normal }
  have henter : Frame.enter P f args .normal =
      b.at { tmps := args ++ Array.replicate (fn.ntmps - args.size) undef, defers := [] } [.code c] := by
    simp [Frame.enter, Frame.at, hf, hb, b]
  obtain ⟨e, a', w', hq, harr⟩ := h b [] cs rfl
  rw [← henter] at harr
  cases e with
  | normal =>
    obtain ⟨e', w'', fr', hR, hs, hfn, hl⟩ := leaves_steps a'.defers .returning w' { b.at a' [] with mode := .returning } cs rfl rfl rfl hf rfl hq
    exact ⟨e', w'', fr', hR, Comes.of_steps (Steps.trans harr (.one step_end)) hs, hfn, hl⟩
  | ret =>
    obtain ⟨todo, hs₀⟩ := harr
    obtain ⟨e', w'', fr', hR, hs, hfn, hl⟩ := leaves_steps a'.defers .returning w' { b.at a' todo with mode := .returning } cs rfl rfl rfl hf rfl hq
    exact ⟨e', w'', fr', hR, Comes.of_steps hs₀ hs, hfn, hl⟩
  | panic chain =>
    obtain ⟨todo, hs₀⟩ := harr
    obtain ⟨e', w'', fr', hR, hs, hfn, hl⟩ := leaves_steps a'.defers (.panicking chain) w' { b.at a' todo with mode := .panicking chain } cs rfl rfl rfl hf rfl hq
    exact ⟨e', w'', fr', hR, Comes.of_steps hs₀ hs, hfn, hl⟩
  | exit id => exact hq.elim
  | goto l => exact hq.elim
  | outgrown => exact ⟨.outgrown, w', b, hq, harr.resolve_left (by simp [b]), rfl, trivial⟩

theorem wpN_mono {c : Code} {Q' : Exit → Act → World → Prop} (h : WpN P c Q a w) (hq : ∀ e a w, Q e a w → Q' e a w) : WpN P c Q' a w :=
  fun b k cs hb => let ⟨e, a', w', q, r⟩ := h b k cs hb; ⟨e, a', w', hq _ _ _ q, r⟩
theorem calls_of_wpN {f : FuncId} {fn : Func} {c : Code} {args : Array Value} {R : Ending → World → Prop}
    (hf : P.funcs[f]? = some fn) (hb : fn.body = some c)
    (h : WpN P c (bodyPost P fn R) { tmps := args ++ Array.replicate (fn.ntmps - args.size) undef, defers := [] } w) : Calls P f args w R := by
  refine calls_of_wpN_defers hf hb (wpN_mono h fun e a w hq => ?_)
  cases e with
  | normal => obtain ⟨hd, hv⟩ := hq; simp only [bodyPostD, hd, Leaves]; exact hv
  | ret => obtain ⟨hd, hv⟩ := hq; simp only [bodyPostD, hd, Leaves]; exact hv
  | panic chain => obtain ⟨hd, hv⟩ := hq; simp only [bodyPostD, hd, Leaves]; exact hv
  | exit id => exact hq.elim
  | goto l => exact hq.elim
  | outgrown => exact hq
end

end Go.Conc
