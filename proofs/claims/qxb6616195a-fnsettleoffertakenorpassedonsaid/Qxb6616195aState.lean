/- The turns in memory: the lock, the map of counts, each count and its line. -/
import Derived.Test.Qxb6616195aMap
namespace Go.Proofs.Qxb6616195a
open Go.RowKit

/-- What a call may turn: blocks of which X holds, none below F. -/
structure Fr (F : Nat) (X : Nat → Obj → Prop) (w w' : World) : Prop where
  os : w'.os = w.os
  tape : w'.tape = w.tape
  output : w'.output = w.output
  size : w.heap.size ≤ w'.heap.size
  low : ∀ b, b < F → w'.heap[b]? = w.heap[b]?
  keep : ∀ b o, w.heap[b]? = some o → ¬ X b o → w'.heap[b]? = some o
theorem Fr.refl (F : Nat) (X : Nat → Obj → Prop) (w : World) : Fr F X w w := ⟨rfl, rfl, rfl, Nat.le_refl _, fun _ _ => rfl, fun _ _ h _ => h⟩
theorem Fr.trans {F : Nat} {X : Nat → Obj → Prop} {w w' w'' : World} (h : Fr F X w w') (k : Fr F X w' w'') : Fr F X w w'' :=
  ⟨k.os.trans h.os, k.tape.trans h.tape, k.output.trans h.output, Nat.le_trans h.size k.size, fun b hb => (k.low b hb).trans (h.low b hb), fun b o ho hx => k.keep b o (h.keep b o ho hx) hx⟩
theorem Fr.mono {F : Nat} {X Y : Nat → Obj → Prop} {w w' : World} (h : Fr F X w w') (hXY : ∀ b o, X b o → Y b o) : Fr F Y w w' :=
  ⟨h.os, h.tape, h.output, h.size, h.low, fun b o ho hy => h.keep b o ho fun hx => hy (hXY b o hx)⟩
theorem Fr.of_below {F : Nat} {X : Nat → Obj → Prop} {w w' : World} (h : Below w.heap.size w w') (hF : F ≤ w.heap.size) : Fr F X w w' :=
  ⟨h.os, h.tape, h.output, h.size, fun b hb => h.block b (by omega), fun b o ho _ => by
    have := (Array.getElem?_eq_some_iff.1 ho).1
    rw [h.block b this]; exact ho⟩
theorem Fr.below {F : Nat} {X : Nat → Obj → Prop} {w w' : World} (h : Fr F X w w') : Below F w w' := ⟨h.os, h.tape, h.output, h.size, h.low⟩
theorem Fr.set {F : Nat} {X : Nat → Obj → Prop} (w : World) (g i : Nat) (u : Value) (hF : F ≤ g) (hX : ∀ o, w.heap[g]? = some o → X g o) : Fr F X w (w.setCell ⟨g, i, none⟩ u) :=
  ⟨rfl, rfl, rfl, by simp, fun b hb => Below.heap_setCell w _ u b (by show b ≠ g; omega), fun b o ho hx => by
    rw [Below.heap_setCell w _ u b (by rintro rfl; exact hx (hX o ho))]; exact ho⟩
theorem Fr.grown {F g : Nat} {X : Nat → Obj → Prop} {w w' : World} (h : w.grownBy w' (some g)) (hFs : F ≤ w.heap.size) (hF : F ≤ g) (hX : ∀ o, w.heap[g]? = some o → X g o) : Fr F X w w' :=
  ⟨h.os, h.tape, h.output, h.size, fun b hb => h.block b (by omega) (by simp; omega), fun b o ho hx => by
    have := (Array.getElem?_eq_some_iff.1 ho).1
    rw [h.block b this (by intro e; cases e; exact hx (hX o ho))]; exact ho⟩

/-- the kinds of blocks -/
def isT (t : TypeId) (o : Obj) : Prop := ∃ C m, o = .cells C t m
def isM (o : Obj) : Prop := ∃ es c, o = .map es c

/-- One count: its key, its block, its line's slice, its line. -/
abbrev Ent := Ky × Nat × Value × List Nat
def ptr (g : Nat) : Value := .pointer (some ⟨g, 0, none⟩)
structure ENT (w : World) (F : Nat) (x : Ent) : Prop where
  low : F ≤ x.2.1
  cnt : w.heap[x.2.1]? = some (.cells #[.int .i64 0, x.2.2.1] 78 (0, 0))
  row : w.ownsRow F 29 1 x.2.2.1 x.2.2.2.length (x.2.2.2.map ptr)
  key : x.1.length ≤ 1048576
def apart (x y : Ent) : Prop := x.2.1 ≠ y.2.1 ∧ (x.2.2.1.ownBlock = none ∨ x.2.2.1.ownBlock ≠ y.2.2.1.ownBlock)
def vw (M : List Ent) : List (Ky × Nat) := M.map fun x => (x.1, x.2.1)
/-- The turns at block T: its lock's word is s, its map is mb, what is kept is M. -/
structure TS (w : World) (F T : Nat) (s : Int) (mb : Option Nat) (M : List Ent) : Prop where
  lowT : F ≤ T
  tb : ∃ q e o u d c, w.heap[T]? = some (.cells #[.int .i32 s, q, .map mb, e, o, u, d, c] 64 (0, 0))
  lowM : ∀ b, mb = some b → F ≤ b
  mp : MP w mb (vw M)
  ents : ∀ x ∈ M, ENT w F x
  apart : M.Pairwise apart

theorem ENT.keep {w w' : World} {F : Nat} {x : Ent} (h : ENT w F x) (h1 : w'.heap[x.2.1]? = w.heap[x.2.1]?) (h2 : ∀ g, x.2.2.1.ownBlock = some g → w'.heap[g]? = w.heap[g]?) : ENT w' F x :=
  ⟨h.low, h1.trans h.cnt, owns_heap h.row h2, h.key⟩
theorem ENT.rowT {w : World} {F : Nat} {x : Ent} (h : ENT w F x) {g : Nat} (hg : x.2.2.1.ownBlock = some g) : ∃ C, w.heap[g]? = some (.cells C 29 (0, 0)) := by
  rcases h.row.2 with ⟨e, _⟩ | ⟨g', cap, cur, e, _, hgg, _⟩
  · rw [e] at hg; cases hg
  · rw [e] at hg; cases hg; exact ⟨cur, hgg⟩
/-- The turns stand while nothing of theirs is turned. -/
theorem TS.fr {w w' : World} {F T : Nat} {s : Int} {mb : Option Nat} {M : List Ent} {X : Nat → Obj → Prop} (h : TS w F T s mb M) (k : Fr F X w w')
    (hX : ∀ b o, X b o → ¬ isT 64 o ∧ ¬ isM o ∧ ¬ isT 78 o ∧ ¬ isT 29 o) : TS w' F T s mb M := by
  obtain ⟨q, e, o, u, d, c, ht⟩ := h.tb
  refine ⟨h.lowT, ⟨q, e, o, u, d, c, k.keep _ _ ht fun hx => (hX _ _ hx).1 ⟨_, _, rfl⟩⟩, h.lowM, ?_, ?_, h.apart⟩
  · refine h.mp.keep ?_
    rintro b rfl
    obtain ⟨es, cl, hb⟩ := h.mp.isMap
    rw [hb]
    exact k.keep _ _ hb fun hx => (hX _ _ hx).2.1 ⟨_, _, rfl⟩
  · intro x hx
    have hx' := h.ents x hx
    refine hx'.keep ?_ ?_
    · rw [hx'.cnt]; exact k.keep _ _ hx'.cnt fun hx => (hX _ _ hx).2.2.1 ⟨_, _, rfl⟩
    · intro g hg
      obtain ⟨C, hC⟩ := hx'.rowT hg
      rw [hC]; exact k.keep _ _ hC fun hx => (hX _ _ hx).2.2.2 ⟨_, _, rfl⟩
end Go.Proofs.Qxb6616195a
