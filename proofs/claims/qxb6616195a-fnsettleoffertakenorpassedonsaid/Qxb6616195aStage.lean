/- What both laws carry from call to call. -/
import Derived.Test.Qxb6616195aStart
import Derived.Test.Qxb6616195aOpen
import Derived.Test.Qxb6616195aZz
import Derived.Test.Qxb6616195aChecks
namespace Go.Proofs.Qxb6616195a
open Go.RowKit Go.Conc

theorem KR.start (w : World) : KR w w (.slice none 0 0) [] := ⟨⟨rfl, .inl ⟨rfl, rfl⟩⟩, Below.refl _ _⟩
def YES (W : World) (e : Ending) (w' : World) : Prop := e = .returned (.bool true) ∧ Below W.heap.size W w'

/-- The clones read as they did. -/
structure CB (w : World) (xa : Value) (A : List Bz) : Prop where
  busy : BUSY w (ro w) xa A
  len : A.length ≤ 4096
  keys : ∀ z ∈ A, z.1.length ≤ 1048576
  nodup : (kys A).Nodup
theorem CB.rok {w w' : World} {xa : Value} {A : List Bz} (h : CB w xa A) (k : RoK w w') : CB w' xa A := ⟨h.busy.rok k, h.len, h.keys, h.nodup⟩
theorem CB.below {w w' : World} {xa : Value} {A : List Bz} (h : CB w xa A) (k : Below w.heap.size w w') : CB w' xa A := h.rok (RoK.below k)
theorem CB.klen {w : World} {xa : Value} {A : List Bz} (h : CB w xa A) : ∀ k ∈ kys A, k.length ≤ 1048576 := by
  intro k hk
  obtain ⟨z, hz, rfl⟩ := List.mem_map.1 hk
  exact h.keys z hz

structure LS (W w : World) (T : Nat) (M : List Ent) (W1 : Nat) (p : WS) (W2 : Nat) (q : WS) (xa : Value) (A : List Bz) (xb : Value) (B : List Bz) (xc : Value) (C : List Bz) : Prop where
  tw : TW w W.heap.size T 0 M W1 p W2 q
  a : CB w xa A
  b : CB w xb B
  c : CB w xc C
  bel : Below W.heap.size W w
section
variable {W w w' : World} {T : Nat} {M : List Ent} {W1 : Nat} {p : WS} {W2 : Nat} {q : WS} {xa : Value} {A : List Bz} {xb : Value} {B : List Bz} {xc : Value} {C : List Bz}
theorem LS.below (h : LS W w T M W1 p W2 q xa A xb B xc C) (k : Below w.heap.size w w') : LS W w' T M W1 p W2 q xa A xb B xc C :=
  ⟨h.tw.below k, h.a.below k, h.b.below k, h.c.below k, h.bel.trans (k.mono h.bel.size)⟩
theorem LS.fr {M' : List Ent} {p' q' : WS} (h : LS W w T M W1 p W2 q xa A xb B xc C) (k : Fr W.heap.size XS w w') (ht : TW w' W.heap.size T 0 M' W1 p' W2 q') : LS W w' T M' W1 p' W2 q' xa A xb B xc C :=
  ⟨ht, h.a.rok k.rok, h.b.rok k.rok, h.c.rok k.rok, h.bel.trans k.below⟩
theorem LS.swap (h : LS W w T M W1 p W2 q xa A xb B xc C) : LS W w T M W2 q W1 p xa A xb B xc C := ⟨h.tw.swap, h.a, h.b, h.c, h.bel⟩
end

/-- What settle leaves where nothing had been offered. -/
theorem SetR.plain {w w' : World} {F T : Nat} {M : List Ent} {W : Nat} {p : WS} {O : Nat} {q : WS} {A : List Bz} {e : Ending} (h : SetR w F T M W p O q A e w') (hp : p.off = []) :
    ∃ M' p', e = .returned (.tuple #[.bool false, .bool (A.any fun z => decide (0 < z.2))]) ∧ TW w' F T 0 M' W p' O q ∧ Fr F XS w w' ∧ M'.length ≤ M.length + 2 * A.length ∧ p'.qs = kys A ∧ p'.off = [] ∧ p'.tok = 0 ∧ ∀ k, LV M' k = setf W (kys A) p.qs (LV M) k := by
  obtain ⟨M', again, p', q', he, ht, hf, hl, h1, h2, h3, h4⟩ := h
  rcases h4 with ⟨_, rfl, rfl, h5⟩ | ⟨h5, _⟩ | ⟨h5, _⟩
  · exact ⟨M', p', he, ht, hf, hl, h1, h2, h3, h5⟩
  · exact absurd hp h5
  · exact absurd hp h5
theorem strs_srow {w : World} {base K : Nat} {A : List Bz} (h : w.ownsRow base 9 1 (.slice (some ⟨K, 0, none⟩) A.length A.length) A.length (strs A)) : SROW w (.slice (some ⟨K, 0, none⟩) A.length A.length) (kys A) := by
  have e : strs A = (kys A).map sv := by simp [strs, kys, sv, Function.comp_def]
  rw [e] at h
  exact owns_srow (by simp [kys]) h
theorem kys_len (A : List Bz) : (kys A).length = A.length := by simp [kys]
end Go.Proofs.Qxb6616195a
