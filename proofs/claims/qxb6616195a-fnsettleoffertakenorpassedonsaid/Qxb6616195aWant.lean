/- 'want', built by append. -/
import Derived.Test.Qxb6616195aStage
namespace Go.Proofs.Qxb6616195a
open Go.RowKit Go.Conc

structure AP (b0 wa : World) (v : Value) (n : Nat) (xs : List Value) (B x : Nat) : Prop where
  own : wa.ownsRow b0.heap.size 29 1 v n xs
  news : ∀ t u, ([ptr x] : List Value)[t]? = some u → wa.cell? ((⟨B, 0, none⟩ : Addr).add t) = some u
  size : b0.heap.size ≤ wa.heap.size
  fin : ∀ w3, wa.grownBy w3 v.ownBlock → Below b0.heap.size b0 w3
theorem one_ptr (x : Nat) : ∀ u ∈ ([ptr x] : List Value), u.oneCell' = true := by simp [Value.oneCell', ptr]
theorem want_gen {b0 w : World} {v : Value} {n : Nat} {xs : List Value} (hb : Below b0.heap.size b0 w) (hr : w.ownsRow b0.heap.size 29 1 v n xs) (x : Nat) : AP b0 (w.alloc (.cells #[ptr x] 29)) v n xs w.heap.size x := by
  have hbA : Below w.heap.size w (w.alloc (.cells #[ptr x] 29)) := (Below.refl _ _).alloc (Nat.le_refl _) _
  have hb2 := hb.trans (hbA.mono hb.size)
  refine ⟨owns_heap hr fun g hg => ?_, World.news_of_block (cs := #[ptr x]) (t := 29) (fr := (0, 0)) (heap_alloc_new w _), hb2.size, fun w3 hg => hb2.grown hg hb2.size ?_⟩
  · rcases hr.2 with ⟨e, _⟩ | ⟨g', cap, cur, e, _, hgg, _⟩
    · rw [e] at hg; cases hg
    · rw [e] at hg; cases hg; exact hbA.block _ (Array.getElem?_eq_some_iff.1 hgg).1
  · intro g' hg'
    rcases hr.2 with ⟨e, _⟩ | ⟨g2, cap2, cur2, e, hb2, _⟩
    · rw [e] at hg'; cases hg'
    · rw [e] at hg'
      have : g2 = g' := by simpa [Value.ownBlock] using hg'
      omega
theorem want_first {b0 w : World} (hb : Below b0.heap.size b0 w) (x : Nat) : AP b0 (w.alloc (.cells #[ptr x] 29)) (.slice none 0 0) 0 [] w.heap.size x := want_gen hb ⟨rfl, .inl ⟨rfl, rfl⟩⟩ x
end Go.Proofs.Qxb6616195a
