/- Fresh turns and two fresh waiters. -/
import Derived.Test.Qxb6616195aPlain
namespace Go.Proofs.Qxb6616195a
open Go.RowKit Go.Conc

theorem turns_ts {w w' : World} {F : Nat} (hF : F ≤ w.heap.size) (h : ∃ q e o u d c, w' = w.alloc (.cells #[.int .i32 0, q, .map none, e, o, u, d, c] 64)) : TS w' F w.heap.size 0 none [] ∧ Below w.heap.size w w' := by
  obtain ⟨q, e, o, u, d, c, rfl⟩ := h
  exact ⟨⟨hF, ⟨q, e, o, u, d, c, heap_alloc_new w _⟩, fun b hb => (by cases hb), rfl, by simp, by simp⟩, (Below.refl _ _).alloc (Nat.le_refl _) _⟩
def fresh (ch : Nat) : WS := { ch := ch, qv := .slice none 0 0, qs := [], off := [], tok := 0 }
theorem waiter_wt {w w' : World} {F : Nat} (hF : F ≤ w.heap.size) (h : w' = (w.alloc (.chan 1 #[] false 0 0 false)).alloc (.cells #[.chan (some w.heap.size), .slice none 0 0, .string ⟨#[]⟩] 66)) :
    WT w' F (w.heap.size + 1) (fresh w.heap.size) ∧ Below w.heap.size w w' := by
  subst h
  have hs : (w.alloc (.chan 1 #[] false 0 0 false)).heap.size = w.heap.size + 1 := by simp
  refine ⟨⟨by omega, ?_, hF, ⟨#[], 0, 0, ?_, rfl⟩, SROW.nil _ _ _⟩, ((Below.refl _ _).alloc (Nat.le_refl _) _).alloc (by rw [hs]; omega) _⟩
  · have := heap_alloc_new (w.alloc (.chan 1 #[] false 0 0 false)) (.cells #[.chan (some w.heap.size), .slice none 0 0, .string ⟨#[]⟩] 66 (0, 0))
    rw [hs] at this
    exact this
  · exact (Below.heap_alloc _ _ _ (by rw [hs]; show w.heap.size < _; omega)).trans (heap_alloc_new w _)
theorem start_tw {w wA wB wC : World} {F : Nat} (hF : F ≤ w.heap.size) (hA : TS wA F w.heap.size 0 none [] ∧ Below w.heap.size w wA) (hB : WT wB F (wA.heap.size + 1) (fresh wA.heap.size) ∧ Below wA.heap.size wA wB)
    (hC : WT wC F (wB.heap.size + 1) (fresh wB.heap.size) ∧ Below wB.heap.size wB wC) :
    TW wC F w.heap.size 0 [] (wA.heap.size + 1) (fresh wA.heap.size) (wB.heap.size + 1) (fresh wB.heap.size) ∧ Below w.heap.size w wC := by
  have sA := hA.2.size
  have sB := hB.2.size
  have sC := hC.2.size
  have hBl := (Array.getElem?_eq_some_iff.1 hB.1.blk).1
  have fB : Fr F (fun _ _ => False) wA wB := Fr.of_below hB.2 (by omega)
  have fC : Fr F (fun _ _ => False) wB wC := Fr.of_below hC.2 (by omega)
  refine ⟨⟨by omega, ⟨none, (hA.1.fr fB fun _ _ h => h.elim).fr fC fun _ _ h => h.elim⟩, hB.1.fr fC fun _ _ h => h.elim, hC.1, by omega, ?_⟩, (hA.2.trans (hB.2.mono sA)).trans (hC.2.mono (by omega))⟩
  show wA.heap.size ≠ wB.heap.size
  omega
theorem TS.below {w w' : World} {F T : Nat} {s : Int} {mb : Option Nat} {M : List Ent} (h : TS w F T s mb M) (hF : F ≤ w.heap.size) (k : Below w.heap.size w w') : TS w' F T s mb M := h.fr (X := fun _ _ => False) (Fr.of_below k hF) fun _ _ h => h.elim
end Go.Proofs.Qxb6616195a
