/- A []Span that came in, opened into its pairs of numbers. -/
import Derived.Test.Qxb6616010aChecks
import Derived.ProofKit
import Derived.OpenShut
import Derived.Deep.SlicePairs
namespace Go.Proofs.Qxb6616010a
open Go.ChangeShapes Go.WideShapes Go.ChangeAt Go.RowKit

theorem open_spans {H : Type} {enc : TypeId × Value → H} {W : World} {fuel : Nat} {a0 : Option Addr} {len cap : Nat} {x : DataW H × List MemPlace}
    (h : DataW.trod enc Try.prog W 0 (fun _ => true) true fuel 28 [.slice a0 len cap] = some x) :
    ∃ (zs : List (Int × Int)) (b o : Nat), len = zs.length ∧ (0 < len → a0 = some ⟨b, o, none⟩ ∧ b < W.heap.size) ∧ SPN W b o zs ∧ (∀ p ∈ zs, wide p) ∧ len ≤ 9223372036854775807 := by
  rcases Go.Deep.open_slice_pairs (P := Try.prog) Try.underlying28 Try.underlying37 (by kernel_rfl) rfl rfl (by kernel_rfl) (by kernel_rfl) h with ⟨hcs, _⟩ | ⟨a, l, c, m, n, V0, V1, D0, D1, P0, P1, hcs, _, hl, hm, hmm, _, hx⟩
  · simp at hcs
    obtain ⟨rfl, rfl, rfl⟩ := hcs
    exact ⟨[], 0, 0, rfl, fun h => absurd h (by omega), fun j p hp => by simp at hp, fun p hp => by simp at hp, by omega⟩
  · simp at hcs hmm
    obtain ⟨rfl, rfl, rfl⟩ := hcs
    subst hmm
    have hint : ∀ i, i < len → (∃ z, V0 i = .int .i64 z ∧ (Lit.int .i64 z).wf = true) ∧ (∃ z, V1 i = .int .i64 z ∧ (Lit.int .i64 z).wf = true) := by
      intro i hi
      obtain ⟨_, _, t0, t1⟩ := hx i (by omega)
      obtain ⟨z0, e0, _, w0⟩ := DataW.trod_int Try.underlying3 t0
      obtain ⟨z1, e1, _, w1⟩ := DataW.trod_int Try.underlying3 t1
      simp at e0 e1
      exact ⟨⟨z0, e0, w0⟩, ⟨z1, e1, w1⟩⟩
    refine ⟨(List.range len).map fun i => (intOf (V0 i), intOf (V1 i)), a.block, a.off, by simp, fun hpos => ?_, ?_, ?_, by unfold maxLen at hm; omega⟩
    · obtain ⟨c0, _, _, _⟩ := hx 0 (by omega)
      have hs := World.cell?_spot c0
      obtain ⟨b, o, sp⟩ := a
      have : sp = none := by simpa [Addr.add] using hs
      subst this
      refine ⟨rfl, ?_⟩
      have := World.block_lt_of_cell? _ _ c0
      simpa [Addr.add] using this
    · intro j p hp
      rw [List.getElem?_map] at hp
      obtain ⟨t, ht, rfl⟩ := Option.map_eq_some_iff.1 hp
      obtain ⟨hj, ht'⟩ := List.getElem?_eq_some_iff.1 ht
      simp at hj ht'
      subst ht'
      obtain ⟨c0, c1, _, _⟩ := hx j (by omega)
      obtain ⟨⟨z0, e0, _⟩, z1, e1, _⟩ := hint j hj
      have hs := World.cell?_spot (hx 0 (by omega)).1
      obtain ⟨b, o, sp⟩ := a
      have : sp = none := by simpa [Addr.add] using hs
      subst this
      rw [Addr.add_lit] at c0 c1
      simp only [e0, e1, intOf]
      rw [e0] at c0
      rw [e1] at c1
      exact ⟨c0, by rw [Nat.add_assoc]; exact c1⟩
    · intro p hp
      simp at hp
      obtain ⟨j, hj, rfl⟩ := hp
      obtain ⟨⟨z0, e0, w0⟩, z1, e1, w1⟩ := hint j hj
      simp only [e0, e1, intOf]
      have b0 := bounds_i64 w0
      have b1 := bounds_i64 w1
      exact ⟨b0, b1⟩

end Go.Proofs.Qxb6616010a
