/- A []Busy that came in, opened. -/
import Derived.Test.Qxb6616195aLeaf
import Derived.ProofKit
import Derived.OpenShut
import Derived.Deep.SlicePairs
import Derived.ChangeSlices
namespace Go.Proofs.Qxb6616195a
open Go.ChangeShapes Go.WideShapes Go.ChangeAt Go.RowKit

abbrev All (_b : Nat) : Prop := True
theorem addr_plain {W : World} {a : Addr} {v : Value} (c0 : W.cell? (a.add 0) = some v) : ∃ b o, a = ⟨b, o, none⟩ ∧ b < W.heap.size := by
  have hs := World.cell?_spot c0
  obtain ⟨b, o, sp⟩ := a
  have : sp = none := by simpa [Addr.add] using hs
  subst this
  refine ⟨b, o, rfl, ?_⟩
  have := World.block_lt_of_cell? _ _ c0
  simpa [Addr.add] using this

theorem open_key {H : Type} {enc : TypeId × Value → H} {W : World} {fuel : Nat} {v : Value} {x : DataW H × List MemPlace}
    (h : DataW.trod enc Try.prog W 0 (fun _ => true) true fuel 47 [v] = some x) : ∃ l, KEY W All v l := by
  rcases open_ints (P := Try.prog) Try.underlying47 Try.underlying5 (by kernel_rfl) h with ⟨hcs, _⟩ | ⟨a, len, cap, zs, hcs, _, hl, hm, hzl, _, hx, hw⟩
  · simp at hcs
    subst hcs
    exact ⟨[], none, 0, 0, 0, rfl, fun h => absurd h (by simp), fun j x hj => by simp at hj⟩
  · simp at hcs hzl
    subst hcs
    have hb : ∀ i, i < len → ∃ u : UInt8, zs.getD i 0 = (u.toNat : Int) := by
      intro i hi
      have hmem : zs.getD i 0 ∈ zs := by
        rw [List.getD_eq_getElem?_getD, List.getElem?_eq_getElem (by omega)]
        exact List.getElem_mem _
      have := bounds_u8 (hw _ hmem)
      refine ⟨UInt8.ofNat (zs.getD i 0).toNat, ?_⟩
      simp only [List.getD_eq_getElem?_getD] at this ⊢
      rw [UInt8.toNat_ofNat']
      omega
    refine ⟨(List.range len).map fun i => UInt8.ofNat (zs.getD i 0).toNat, ?_⟩
    rcases Nat.eq_zero_or_pos len with h0 | h0
    · subst h0
      exact ⟨some a, cap, 0, 0, by simp, fun h => absurd h (by simp), fun j x hj => by simp at hj⟩
    · obtain ⟨b, o, rfl, hbl⟩ := addr_plain (hx 0 (by omega))
      refine ⟨_, cap, b, o, by simp, fun _ => ⟨rfl, trivial, hbl⟩, ?_⟩
      intro j y hj
      rw [List.getElem?_map] at hj
      obtain ⟨t, ht, rfl⟩ := Option.map_eq_some_iff.1 hj
      obtain ⟨hjl, ht'⟩ := List.getElem?_eq_some_iff.1 ht
      simp at hjl ht'
      subst ht'
      have := hx j (by omega)
      rw [Addr.add_lit] at this
      rw [this]
      obtain ⟨u, hu⟩ := hb j hjl
      rw [hu]
      simp

theorem open_busy {H : Type} {enc : TypeId × Value → H} {W : World} {fuel : Nat} {v : Value} {x : DataW H × List MemPlace}
    (h : DataW.trod enc Try.prog W 0 (fun _ => true) true fuel 22 [v] = some x) : ∃ A, BUSY W All v A := by
  rcases Go.Deep.open_slice_pairs (P := Try.prog) Try.underlying22 Try.underlying49 (by kernel_rfl) rfl rfl (by kernel_rfl) (by kernel_rfl) h with ⟨hcs, _⟩ | ⟨a, len, cap, m, n, V0, V1, D0, D1, P0, P1, hcs, _, hl, hm, hmm, _, hx⟩
  · simp at hcs
    subst hcs
    exact ⟨[], none, 0, 0, 0, rfl, fun h => absurd h (by simp), fun j p hj => by simp at hj⟩
  · simp at hcs hmm
    subst hcs
    subst hmm
    have each : ∀ i, ∃ p : Bz, i < len → KEY W All (V0 i) p.1 ∧ V1 i = .int .i64 p.2 := by
      intro i
      by_cases hi : i < len
      · obtain ⟨_, _, t0, t1⟩ := hx i (by omega)
        obtain ⟨l, hl⟩ := open_key t0
        obtain ⟨z1, e1, _, w1⟩ := DataW.trod_int Try.underlying3 t1
        simp at e1
        exact ⟨(l, z1), fun _ => ⟨hl, e1⟩⟩
      · exact ⟨([], 0), fun h => absurd h hi⟩
    refine ⟨(List.range len).map fun i => (each i).choose, ?_⟩
    rcases Nat.eq_zero_or_pos len with h0 | h0
    · subst h0
      exact ⟨some a, _, 0, 0, by simp; rfl, fun h => absurd h (by simp), fun j x hj => by simp at hj⟩
    · obtain ⟨b, o, rfl, hbl⟩ := addr_plain (by simpa using (hx 0 (by omega)).1)
      refine ⟨_, _, b, o, by simp; rfl, fun _ => ⟨rfl, trivial, hbl⟩, ?_⟩
      intro j y hj
      rw [List.getElem?_map] at hj
      obtain ⟨t, ht, rfl⟩ := Option.map_eq_some_iff.1 hj
      obtain ⟨hjl, ht'⟩ := List.getElem?_eq_some_iff.1 ht
      simp at hjl ht'
      subst ht'
      obtain ⟨c0, c1, _, _⟩ := hx j (by omega)
      rw [Addr.add_lit] at c0 c1
      obtain ⟨k1, k2⟩ := (each j).choose_spec hjl
      exact ⟨V0 j, c0, k1, by rw [Nat.add_assoc, ← k2]; exact c1⟩
end Go.Proofs.Qxb6616195a
