/- The plain law: the fold's nodes at the end of a run are the nodes ahead of the run and the run's own. -/
import Derived.Test.Qxb6616010aScript
namespace Go.Proofs.Qxb6616010a

def g1 (zs : List (Int × Int)) (i : Nat) : Int := (zs.getD i (0, 0)).1
def g2 (zs : List (Int × Int)) (i : Nat) : Int := (zs.getD i (0, 0)).2
theorem g12 (zs : List (Int × Int)) (i : Nat) (h : i < zs.length) : zs[i]? = some (g1 zs i, g2 zs i) := by
  simp [g1, g2, h]

def rn (zs : List (Int × Int)) (i j : Nat) : List (Int × Int) := if j = i + 1 then [(7, g1 zs i)] else [(8, g1 zs i), (8, g2 zs (j - 1))]

/-- what holds while j walks through the run that begins at i -/
def JR (zs : List (Int × Int)) (i j : Nat) : Prop := i < j ∧ j ≤ zs.length ∧ F zs j = ((F zs i).1 ++ rn zs i j, g2 zs (j - 1))

theorem JR_start (zs : List (Int × Int)) (i : Nat) (h : i < zs.length) (hj : joins (F zs i).2 (g1 zs i) = false) : JR zs i (i + 1) := by
  refine ⟨by omega, by omega, ?_⟩
  rw [F_succ zs i _ (g12 zs i h)]
  have := stp_new (F zs i).1 (F zs i).2 (g1 zs i) (g2 zs i) hj
  simpa [rn] using this

theorem JR_step (zs : List (Int × Int)) (i j : Nat) (h : JR zs i j) (hlt : j < zs.length) (hj : joins (g2 zs (j - 1)) (g1 zs j) = true) : JR zs i (j + 1) := by
  obtain ⟨hij, hjn, hF⟩ := h
  refine ⟨by omega, by omega, ?_⟩
  rw [F_succ zs j _ (g12 zs j hlt), hF]
  by_cases e : j = i + 1
  · subst e
    have e1 : rn zs i (i + 1) = [(7, g1 zs i)] := by simp [rn]
    have e2 : rn zs i (i + 1 + 1) = [(8, g1 zs i), (8, g2 zs (i + 1))] := by simp [rn]
    rw [e1, e2]
    rw [stp_two ((F zs i).1 ++ [(7, g1 zs i)]) _ _ (g2 zs (i + 1)) (g1 zs i) (F zs i).1.length hj (by simp) (by simp)]
    simp
  · have e1 : rn zs i j = [(8, g1 zs i), (8, g2 zs (j - 1))] := by simp [rn, e]
    have e2 : rn zs i (j + 1) = [(8, g1 zs i), (8, g2 zs j)] := by simp [rn]; omega
    rw [e1, e2]
    rw [stp_ext ((F zs i).1 ++ [(8, g1 zs i), (8, g2 zs (j - 1))]) _ _ (g2 zs j) (g2 zs (j - 1)) ((F zs i).1.length + 1) hj (by simp) (by simp)]
    simp

theorem F_snd (zs : List (Int × Int)) (hz : ∀ p ∈ zs, spOk p) (n : Nat) (h : n = zs.length) : (F zs n).2 = if 0 < n then g2 zs (n - 1) else 0 := by
  split
  · next hp =>
    obtain ⟨m, rfl⟩ : ∃ m, n = m + 1 := ⟨n - 1, by omega⟩
    rw [F_succ zs m _ (g12 zs m (by omega))]
    have hm : (g1 zs m, g2 zs m) ∈ zs := List.mem_of_getElem? (g12 zs m (by omega))
    exact (stp_good (F zs m).1 (F zs m).2 _ _ (F_good zs hz m).1 (hz _ hm)).2.2.2
  · next hp =>
    obtain rfl : n = 0 := by omega
    rfl

end Go.Proofs.Qxb6616010a
