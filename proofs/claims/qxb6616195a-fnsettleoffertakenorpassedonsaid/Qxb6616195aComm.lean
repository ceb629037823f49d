/- A region that holds a send, or a select of one receive with a default, in one goroutine: laws for the walk; 'WpN' is 'Code.wp' in frames that are no early ones. -/
import Derived.WalkKit
import Derived.Defers
import Derived.Conc.LoneSelect
namespace Go.Conc
open Go.RowKit

/-- 'Code.wp' in an ordinary frame. -/
def WpN (P : Program) (c : Code) (Q : Exit → Act → World → Prop) (a : Act) (w : World) : Prop :=
  ∀ (b : Frame) (k : List Item) (cs : List Frame), b.kind = .normal → ∃ e a' w', Q e a' w' ∧ Arrives P (lone (b.at a (.code c :: k)) cs w) b k cs e a' w'
/-- From a region's remaining operations the machine of one arrives at a state of which Q holds. -/
def Arr (P : Program) (Q : Exit → Act → World → Prop) (ops : Array Oper) (l : List Nat) (a : Act) (w : World) : Prop :=
  ∀ (b : Frame) (k : List Item) (cs : List Frame), b.kind = .normal → ∃ e a' w', Q e a' w' ∧ Arrives P (lone (b.at a (.inRegion ops l :: k)) cs w) b k cs e a' w'

section
variable {P : Program} {Q : Exit → Act → World → Prop} {ops : Array Oper} {a : Act} {w : World} {i : Nat} {rest : List Nat} {o : Oper}

theorem wpN_of {c : Code} (h : c.wp P Q a w) : WpN P c Q a w := fun b k cs _ => h b k cs

theorem wpN_seqN {x y : Code} (h : WpN P x (Exit.then (WpN P y Q) Q) a w) : WpN P (Code.seq x y) Q a w := by
  intro b k cs hb
  obtain ⟨e, a1, w1, hq, harr⟩ := h b (.code y :: k) cs hb
  by_cases he : e = .normal
  · subst he
    obtain ⟨e2, a2, w2, hq2, harr2⟩ := hq b k cs hb
    exact ⟨e2, a2, w2, hq2, .of_steps (.head step_seq harr) harr2⟩
  · have hQ : Q e a1 w1 := by cases e <;> first | exact hq | exact absurd rfl he
    exact ⟨e, a1, w1, hQ, .of_steps (.one step_seq) (.pass (x := .code y) rfl (fun _ _ => .inl he) harr)⟩

/-- The first part is walked as ever. -/
theorem wpN_seq {x y : Code} (h : ∀ K : Act → World → Prop, (∀ a w, WpN P y Q a w → K a w) → x.wp P (Exit.then K Q) a w) : WpN P (Code.seq x y) Q a w := wpN_seqN (wpN_of (h _ fun _ _ h => h))
/-- The first part holds the communication; behind it the walk is as ever. -/
theorem wpN_seqC {x y : Code} (h : ∀ K : Act → World → Prop, (∀ a w, y.wp P Q a w → K a w) → WpN P x (Exit.then K Q) a w) : WpN P (Code.seq x y) Q a w := wpN_seqN (h _ fun _ _ h => wpN_of h)

theorem arr_region {id : Nat} (h : Arr P Q ops (List.range ops.size) a w) : WpN P (Code.region id ops false) Q a w :=
  fun b k cs hb => let ⟨e, a', w', q, r⟩ := h b k cs hb; ⟨e, a', w', q, .of_steps (.one step_region) r⟩

theorem arr_nil (h : Q .normal a w) : Arr P Q ops [] a w := fun _ _ _ _ => ⟨.normal, a, w, h, .one step_region_end⟩

theorem arr_finish (b : Frame) (k : List Item) (ho : ops[i]? = some o) (v : Value) : (b.at a (.inRegion ops (i :: rest) :: k)).finish v = b.at (a.put o.dst v) (.inRegion ops rest :: k) := by
  rw [Frame.finish_at, ho]; rfl

theorem arr_step (ho : ops[i]? = some o) (hw : Region.wanted o (yielded ops a.tmps) = true)
    (h : ∀ K : Result Next → Prop, (∀ v w', Arr P Q ops rest (a.put o.dst v) w' → K (.ok (.value v) w')) → K ((execOp a.eval o).run P w)) : Arr P Q ops (i :: rest) a w := by
  obtain ⟨v, w', hr, hA⟩ := h (fun r => ∃ v w', r = .ok (.value v) w' ∧ Arr P Q ops rest (a.put o.dst v) w') (fun v w' hA => ⟨v, w', rfl, hA⟩)
  intro b k cs hb
  obtain ⟨e, a', w'', hq, harr⟩ := hA b k cs hb
  refine ⟨e, a', w'', hq, .of_steps (.one (step_lone_go ?_)) harr⟩
  rw [stepG_op ho hw, ← arr_finish b k ho v]
  simp [stepG.apply, hr]

/-- What a communication leaves in the frame, and the world behind it. -/
theorem arr_comm {v : Value} {w' : World} (ho : ops[i]? = some o)
    (hs : ∀ (b : Frame) (k : List Item) (cs : List Frame), b.kind ≠ .early → step P (solo (G (b.at a (.inRegion ops (i :: rest) :: k)) cs) w) = .next (solo (G ((b.at a (.inRegion ops (i :: rest) :: k)).finish v) cs) w'))
    (hA : Arr P Q ops rest (a.put o.dst v) w') : Arr P Q ops (i :: rest) a w := by
  intro b k cs hb
  obtain ⟨e, a', w'', hq, harr⟩ := hA b k cs hb
  refine ⟨e, a', w'', hq, .of_steps (.one ?_) harr⟩
  have := hs b k cs (by rw [hb]; decide)
  rw [arr_finish b k ho v] at this
  exact this

/-- Whatever way the body ends, the deferred calls stand at the door. -/
theorem calls_of_wpN_defers {f : FuncId} {fn : Func} {c : Code} {args : Array Value} {R : Ending → World → Prop} (hf : P.funcs[f]? = some fn) (hb : fn.body = some c)
    (h : WpN P c (bodyPostD P fn R) { tmps := args ++ Array.replicate (fn.ntmps - args.size) undef, defers := [] } w) : Calls P f args w R := by
  intro cs
  obtain ⟨e, a', w', hq, harr⟩ := h { (default : Frame) with fn := f, kind := .normal } [] cs rfl
  have hen : Frame.enter P f args .normal = Frame.at { (default : Frame) with fn := f, kind := .normal } { tmps := args ++ Array.replicate (fn.ntmps - args.size) undef, defers := [] } [.code c] := by
    simp [Frame.enter, Frame.at, hf, hb]
  rw [← hen] at harr
  have door : ∀ (todo : List Item) (u : FrameMode), Steps P (lone (Frame.enter P f args .normal) cs w) (lone { Frame.at { (default : Frame) with fn := f, kind := .normal } a' todo with mode := u } cs w') → Leaves P fn a'.tmps R a'.defers u w' →
      ∃ e w'' fr, R e w'' ∧ Comes P (lone (Frame.enter P f args .normal) cs w) (lone fr cs w'') e ∧ fr.fn = f ∧ fr.leaving P w'' e := by
    intro todo u hs hl
    obtain ⟨e2, w2, fr2, h1, h2, h3, h4⟩ := leaves_steps a'.defers u w' { Frame.at { (default : Frame) with fn := f, kind := .normal } a' todo with mode := u } cs rfl rfl rfl hf rfl hl
    exact ⟨e2, w2, fr2, h1, Comes.of_steps hs h2, h3, h4⟩
  match e, hq, harr with
  | .normal, hq, harr => exact door [] .returning (Steps.trans harr (.one step_end)) hq
  | .ret, hq, ⟨todo, hs⟩ => exact door todo .returning hs hq
  | .panic ch, hq, ⟨todo, hs⟩ => exact door todo (.panicking ch) hs hq
  | .outgrown, hq, harr => exact ⟨.outgrown, w', { (default : Frame) with fn := f, kind := .normal }, hq, harr.resolve_left (by simp), rfl, trivial⟩
  | .exit _, hq, _ => exact hq.elim
  | .goto _, hq, _ => exact hq.elim

theorem wpN_mono {c : Code} {Q' : Exit → Act → World → Prop} (h : WpN P c Q a w) (hq : ∀ e a w, Q e a w → Q' e a w) : WpN P c Q' a w :=
  fun b k cs hb => let ⟨e, a', w', q, r⟩ := h b k cs hb; ⟨e, a', w', hq _ _ _ q, r⟩
theorem calls_of_wpN {f : FuncId} {fn : Func} {c : Code} {args : Array Value} {R : Ending → World → Prop}
    (hf : P.funcs[f]? = some fn) (hb : fn.body = some c)
    (h : WpN P c (bodyPost P fn R) { tmps := args ++ Array.replicate (fn.ntmps - args.size) undef, defers := [] } w) : Calls P f args w R := by
  refine calls_of_wpN_defers hf hb (wpN_mono h fun e a w hq => ?_)
  cases e with
  | normal => obtain ⟨hd, hv⟩ := hq; simp only [bodyPostD, hd, Leaves]; exact hv
  | ret => obtain ⟨hd, hv⟩ := hq; simp only [bodyPostD, hd, Leaves]; exact hv
  | panic chain => obtain ⟨hd, hv⟩ := hq; simp only [bodyPostD, hd, Leaves]; exact hv
  | exit id => exact hq.elim
  | goto l => exact hq.elim
  | outgrown => exact hq
end

end Go.Conc
