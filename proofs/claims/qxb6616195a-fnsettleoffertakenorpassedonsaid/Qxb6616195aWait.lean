/- The waiters in memory; the lines as a function of the key. -/
import Derived.Test.Qxb6616195aSet
namespace Go.Proofs.Qxb6616195a
open Go.RowKit

theorem lkA {β : Type} (V : List (Ky × β)) (k k' : Ky) (c : β) : (V ++ [(k, c)]).lookup k' = (V.lookup k').or (if k' = k then some c else none) := by
  induction V with
  | nil =>
    simp only [List.nil_append, List.lookup_cons, List.lookup_nil, Option.none_or]
    by_cases h : k' = k
    · simp [h]
    · have : (k' == k) = false := by simpa using h
      simp [this, h]
  | cons p V ih =>
    obtain ⟨a, b⟩ := p
    simp only [List.cons_append, List.lookup_cons]
    split
    · rfl
    · exact ih
theorem lkN {β : Type} (V : List (Ky × β)) (k : Ky) : V.lookup k = none ↔ k ∉ V.map (·.1) := by
  induction V with
  | nil => simp
  | cons p V ih =>
    obtain ⟨a, b⟩ := p
    rw [List.lookup_cons]
    by_cases h : k = a
    · subst h; simp
    · have : (k == a) = false := by simpa using h
      simp [this, h, ih]
theorem lkD {β : Type} (V : List (Ky × β)) (k k' : Ky) : (V.filter (fun p => !(p.1 == k))).lookup k' = if k' = k then none else V.lookup k' := by
  induction V with
  | nil => simp
  | cons p V ih =>
    obtain ⟨a, b⟩ := p
    rw [List.filter_cons]
    by_cases h : a = k
    · subst h
      simp only [beq_self_eq_true, Bool.not_true, Bool.false_eq_true, if_false, ih, List.lookup_cons]
      by_cases h2 : k' = a
      · simp [h2]
      · have : (k' == a) = false := by simpa using h2
        simp [this, h2]
    · have h1 : (a == k) = false := by simpa using h
      simp only [h1, Bool.not_false, if_true, List.lookup_cons, ih]
      by_cases h2 : k' = a
      · subst h2; simp [h]
      · have : (k' == a) = false := by simpa using h2
        simp [this]

def LV (M : List Ent) (k : Ky) : Option (List Nat) := (ln M).lookup k
theorem LV_none {M : List Ent} {k : Ky} : LV M k = none ↔ (vw M).lookup k = none := by
  unfold LV; rw [lkN, lkN, ln_keys, vw_keys]
theorem LV_keys {M : List Ent} {k : Ky} : LV M k = none ↔ k ∉ M.map (·.1) := by
  unfold LV; rw [lkN, ln_keys]
theorem LV_app (M : List Ent) (k k' : Ky) (c : Nat) (v : Value) (l : List Nat) : LV (M ++ [(k, c, v, l)]) k' = (LV M k').or (if k' = k then some l else none) := by
  unfold LV
  rw [← lkA]; simp [ln]
theorem LV_drop (M : List Ent) (k k' : Ky) : LV (dropK M k) k' = if k' = k then none else LV M k' := by
  unfold LV
  rw [← lkD]
  congr 1
  unfold ln dropK
  rw [List.filter_map]; rfl
theorem LV_split {M1 M2 : List Ent} {x : Ent} (hn : ((M1 ++ x :: M2).map (·.1)).Nodup) (c : Nat) (v : Value) (l : List Nat) (k : Ky) : LV (M1 ++ (x.1, c, v, l) :: M2) k = if k = x.1 then some l else LV (M1 ++ x :: M2) k := by
  induction M1 with
  | nil =>
    unfold LV
    simp only [ln, List.nil_append, List.map_cons, List.lookup_cons]
    by_cases h : k = x.1
    · subst h; simp
    · have : (k == x.1) = false := by simpa using h
      simp [this, h]
  | cons y M1 ih =>
    rw [List.cons_append, List.map_cons, List.nodup_cons] at hn
    have ih := ih hn.2
    unfold LV at ih ⊢
    simp only [ln, List.cons_append, List.map_cons, List.lookup_cons] at ih ⊢
    by_cases h : k = y.1
    · have hne : k ≠ x.1 := by
        rintro rfl
        exact hn.1 (by rw [← h]; simp)
      have : (k == y.1) = true := by simpa using h
      simp [this, hne]
    · have : (k == y.1) = false := by simpa using h
      simp only [this]
      exact ih
theorem LV_mem {M1 M2 : List Ent} {x : Ent} (hn : ((M1 ++ x :: M2).map (·.1)).Nodup) : LV (M1 ++ x :: M2) x.1 = some x.2.2.2 := by
  have := LV_split hn x.2.1 x.2.2.1 x.2.2.2 x.1
  simpa using this

/-- One waiter: its channel, its queued keys, its offer, its tokens. -/
structure WS where
  ch : Nat
  qv : Value
  qs : List Ky
  off : Ky
  tok : Nat
def isCh (o : Obj) : Prop := ∃ c b d s r t, o = .chan c b d s r t
structure WT (w : World) (F W : Nat) (p : WS) : Prop where
  low : F ≤ W
  blk : w.heap[W]? = some (.cells #[.chan (some p.ch), p.qv, .string ⟨p.off.toArray⟩] 66 (0, 0))
  lowC : F ≤ p.ch
  chan : ∃ buf s r, w.heap[p.ch]? = some (.chan 1 buf false s r false) ∧ buf.size = p.tok
  row : SROW w p.qv p.qs
theorem WT.keep {w w' : World} {F W : Nat} {p : WS} (h : WT w F W p) (h1 : w'.heap[W]? = w.heap[W]?) (h2 : w'.heap[p.ch]? = w.heap[p.ch]?) (h3 : ∀ b, ty 9 w b → w'.heap[b]? = w.heap[b]?) : WT w' F W p := by
  obtain ⟨buf, s, r, hc, hb⟩ := h.chan
  exact ⟨h.low, h1.trans h.blk, h.lowC, ⟨buf, s, r, h2.trans hc, hb⟩, h.row.keep h3⟩
theorem WT.fr {w w' : World} {F W : Nat} {p : WS} {X : Nat → Obj → Prop} (h : WT w F W p) (k : Fr F X w w') (hX : ∀ b o, X b o → ¬ isT 66 o ∧ ¬ isCh o ∧ ¬ isT 9 o) : WT w' F W p := by
  obtain ⟨buf, s, r, hc, hb⟩ := h.chan
  refine h.keep ?_ ?_ ?_
  · rw [h.blk]; exact k.keep _ _ h.blk fun hx => (hX _ _ hx).1 ⟨_, _, rfl⟩
  · rw [hc]; exact k.keep _ _ hc fun hx => (hX _ _ hx).2.1 ⟨_, _, _, _, _, _, rfl⟩
  · rintro b ⟨C, m, hb⟩
    rw [hb]; exact k.keep _ _ hb fun hx => (hX _ _ hx).2.2 ⟨_, _, rfl⟩
theorem WT.isW {w : World} {F W : Nat} {p : WS} (h : WT w F W p) : isW w W := ⟨_, h.blk⟩
theorem WT.cells {w : World} {F W : Nat} {p : WS} (h : WT w F W p) : w.cell? ⟨W, 0, none⟩ = some (.chan (some p.ch)) ∧ w.cell? ⟨W, 1, none⟩ = some p.qv ∧ w.cell? ⟨W, 2, none⟩ = some (.string ⟨p.off.toArray⟩) ∧ W < w.heap.size ∧ ∀ i, w.frozen? ⟨W, i, none⟩ = false := by
  have ht := h.blk
  refine ⟨by rw [cell_of_row _ _ 0 _ 66 _ ht]; rfl, by rw [cell_of_row _ _ 1 _ 66 _ ht]; rfl, by rw [cell_of_row _ _ 2 _ 66 _ ht]; rfl, (Array.getElem?_eq_some_iff.1 ht).1, fun i => ?_⟩
  unfold World.frozen?; simp [ht]

/-- The turns' own blocks. -/
def XA (_b : Nat) (o : Obj) : Prop := isT 64 o ∨ isM o ∨ isT 78 o ∨ isT 29 o
/-- Whatever settle may turn. -/
def XS (_b : Nat) (o : Obj) : Prop := isT 64 o ∨ isM o ∨ isT 78 o ∨ isT 29 o ∨ isT 66 o ∨ isCh o
theorem isT_ne {a b : TypeId} {o : Obj} (h : isT a o) (hne : a ≠ b) : ¬ isT b o := by
  rintro ⟨C, m, rfl⟩
  obtain ⟨C', m', h⟩ := h
  simp at h; exact hne h.2.1.symm
theorem isT_nM {a : TypeId} {o : Obj} (h : isT a o) : ¬ isM o := by
  rintro ⟨C, m, rfl⟩
  obtain ⟨C', m', h⟩ := h
  cases h
theorem isT_nC {a : TypeId} {o : Obj} (h : isT a o) : ¬ isCh o := by
  rintro ⟨_, _, _, _, _, _, rfl⟩
  obtain ⟨C', m', h⟩ := h
  cases h
theorem isM_nC {o : Obj} (h : isM o) : ¬ isCh o := by
  rintro ⟨_, _, _, _, _, _, rfl⟩
  obtain ⟨C', m', h⟩ := h
  cases h
theorem XA_S (b : Nat) (o : Obj) (h : XA b o) : XS b o := by
  rcases h with h | h | h | h
  · exact .inl h
  · exact .inr (.inl h)
  · exact .inr (.inr (.inl h))
  · exact .inr (.inr (.inr (.inl h)))
theorem XC_A (b : Nat) (o : Obj) (h : XC b o) : XA b o := by
  rcases h with h | h
  · exact .inl h
  · exact .inr (.inl h)
theorem XM_A (b : Nat) (o : Obj) (h : XM b o) : XA b o := .inr (.inl h)
theorem XL_A (b : Nat) (o : Obj) (h : XL b o) : XA b o := by
  rcases h with h | h
  · exact .inr (.inr (.inl h))
  · exact .inr (.inr (.inr h))
theorem XA_w (b : Nat) (o : Obj) (h : XA b o) : ¬ isT 66 o ∧ ¬ isCh o ∧ ¬ isT 9 o := by
  rcases h with h | h | h | h
  · exact ⟨isT_ne h (by decide), isT_nC h, isT_ne h (by decide)⟩
  · exact ⟨fun k => isT_nM k h, isM_nC h, fun k => isT_nM k h⟩
  · exact ⟨isT_ne h (by decide), isT_nC h, isT_ne h (by decide)⟩
  · exact ⟨isT_ne h (by decide), isT_nC h, isT_ne h (by decide)⟩
theorem XS_ro (b : Nat) (o : Obj) (h : XS b o) : ¬ isT 5 o ∧ ¬ isT 9 o ∧ ¬ isT 49 o ∧ ¬ isT 69 o := by
  rcases h with h | h | h | h | h | h
  · exact ⟨isT_ne h (by decide), isT_ne h (by decide), isT_ne h (by decide), isT_ne h (by decide)⟩
  · exact ⟨fun k => isT_nM k h, fun k => isT_nM k h, fun k => isT_nM k h, fun k => isT_nM k h⟩
  · exact ⟨isT_ne h (by decide), isT_ne h (by decide), isT_ne h (by decide), isT_ne h (by decide)⟩
  · exact ⟨isT_ne h (by decide), isT_ne h (by decide), isT_ne h (by decide), isT_ne h (by decide)⟩
  · exact ⟨isT_ne h (by decide), isT_ne h (by decide), isT_ne h (by decide), isT_ne h (by decide)⟩
  · exact ⟨fun k => isT_nC k h, fun k => isT_nC k h, fun k => isT_nC k h, fun k => isT_nC k h⟩
theorem Fr.rok {F : Nat} {w w' : World} (h : Fr F XS w w') : RoK w w' := by
  refine ⟨h.size, ?_⟩
  rintro b ⟨C, t, m, hb, ht⟩
  rw [hb]
  refine h.keep _ _ hb fun hx => ?_
  have := XS_ro _ _ hx
  rcases ht with rfl | rfl | rfl | rfl
  · exact this.1 ⟨_, _, rfl⟩
  · exact this.2.1 ⟨_, _, rfl⟩
  · exact this.2.2.1 ⟨_, _, rfl⟩
  · exact this.2.2.2 ⟨_, _, rfl⟩

/-- The turns and two waiters. -/
structure TW (w : World) (F T : Nat) (s : Int) (M : List Ent) (W : Nat) (p : WS) (O : Nat) (q : WS) : Prop where
  size : F ≤ w.heap.size
  ts : ∃ mb, TS w F T s mb M
  tp : WT w F W p
  tq : WT w F O q
  ne : W ≠ O
  nc : p.ch ≠ q.ch
theorem TW.swap {w : World} {F T : Nat} {s : Int} {M : List Ent} {W : Nat} {p : WS} {O : Nat} {q : WS} (h : TW w F T s M W p O q) : TW w F T s M O q W p :=
  ⟨h.size, h.ts, h.tq, h.tp, fun e => h.ne e.symm, fun e => h.nc e.symm⟩
theorem TW.nodup {w : World} {F T : Nat} {s : Int} {M : List Ent} {W : Nat} {p : WS} {O : Nat} {q : WS} (h : TW w F T s M W p O q) : (M.map (·.1)).Nodup := h.ts.choose_spec.nodup
/-- The state stands while only new memory and read-only rows are touched. -/
theorem TW.below {w w' : World} {F T : Nat} {s : Int} {M : List Ent} {W : Nat} {p : WS} {O : Nat} {q : WS} (h : TW w F T s M W p O q) (k : Below w.heap.size w w') : TW w' F T s M W p O q := by
  have f : Fr F (fun _ _ => False) w w' := Fr.of_below k h.size
  obtain ⟨mb, ht⟩ := h.ts
  exact ⟨Nat.le_trans h.size k.size, ⟨mb, ht.fr f fun _ _ h => h.elim⟩, h.tp.fr f fun _ _ h => h.elim, h.tq.fr f fun _ _ h => h.elim, h.ne, h.nc⟩
end Go.Proofs.Qxb6616195a
