/- The plain law of the cut: the script's nodes out of the two halves' nodes. -/
import Derived.Test.Qxb6616010aPlain
namespace Go.Proofs.Qxb6616010a

/-- a step of a list that has a tail of its own touches that tail alone -/
theorem stp_append (Q L : List (Int × Int)) (se : Int) (x : Int × Int) (hL : L ≠ []) : stp (Q ++ L, se) x = (Q ++ (stp (L, se) x).1, (stp (L, se) x).2) := by
  unfold stp
  by_cases hj : joins se x.1 = true
  · simp only [hj, if_true]
    obtain ⟨i, hi⟩ : ∃ i, L.length = i + 1 := ⟨L.length - 1, by have := List.length_pos_iff.2 hL; omega⟩
    have e1 : (Q ++ L).getLast? = L.getLast? := by
      rw [List.getLast?_append]
      cases h : L.getLast? with
      | none => exact absurd (List.getLast?_eq_none_iff.1 h) hL
      | some a => rfl
    have e2 : ∀ y, (Q ++ L).set ((Q ++ L).length - 1) y = Q ++ L.set (L.length - 1) y := by
      intro y
      have : (Q ++ L).length - 1 = Q.length + (L.length - 1) := by simp [hi]
      rw [this, List.set_append_right _ _ (by omega)]
      congr 2
      omega
    rw [e1]
    cases h : L.getLast? with
    | none => exact absurd (List.getLast?_eq_none_iff.1 h) hL
    | some a =>
      obtain ⟨k, o⟩ := a
      simp only [e2]
      by_cases h7 : k = 7
      · simp [h7]
      · simp [h7]
  · have : joins se x.1 = false := by simpa using hj
    simp [this]

theorem fold_append (Q : List (Int × Int)) : ∀ (xs : List (Int × Int)) (L : List (Int × Int)) (se : Int), L ≠ [] → (∀ L se x, L ≠ [] → (stp (L, se) x).1 ≠ []) → xs.foldl stp (Q ++ L, se) = (Q ++ (xs.foldl stp (L, se)).1, (xs.foldl stp (L, se)).2)
  | [], _, _, _, _ => rfl
  | x :: xs, L, se, hL, hne => by
    rw [List.foldl_cons, stp_append Q L se x hL, List.foldl_cons]
    exact fold_append Q xs (stp (L, se) x).1 (stp (L, se) x).2 (hne L se x hL) hne

theorem stp_ne (L : List (Int × Int)) (se : Int) (x : Int × Int) (h : L ≠ []) : (stp (L, se) x).1 ≠ [] := by
  unfold stp
  have hl := List.length_pos_iff.2 h
  split
  · split
    · split
      · simp
      · intro e
        have := congrArg List.length e
        simp at this
        exact h this
    · exact h
  · simp

/-- how a script's nodes end: nothing; a lone integer; a run of two nodes -/
def Tail (L : List (Int × Int)) : Prop := L = [] ∨ (∃ Q s, L = Q ++ [(7, s)]) ∨ ∃ Q s e, L = Q ++ [(8, s), (8, e)]

theorem stp_tail (L : List (Int × Int)) (se s t : Int) (hg : Good (L, se)) (h : Tail L) : Tail (stp (L, se) (s, t)).1 := by
  rcases stp_cases L se s t hg with hj | ⟨hj, i, o, hi, hl | hl⟩
  · rw [stp_new _ _ _ _ hj]; exact .inr (.inl ⟨L, s, rfl⟩)
  · rw [stp_two _ _ _ _ o i hj hi hl]
    refine .inr (.inr ⟨L.take i, o, t, ?_⟩)
    have : L.set i (8, o) = L.take i ++ [(8, o)] := by
      rw [List.set_eq_take_append_cons_drop, if_pos (by omega), List.drop_of_length_le (by omega)]
    rw [this]; simp
  · rw [stp_ext _ _ _ _ o i hj hi hl]
    rcases h with rfl | ⟨Q, s', rfl⟩ | ⟨Q, s', e', rfl⟩
    · simp at hi
    · exfalso
      simp at hi
      subst hi
      simp at hl
    · simp at hi
      have hi' : i = Q.length + 1 := by omega
      subst hi'
      refine .inr (.inr ⟨Q, s', t, ?_⟩)
      simp

theorem F_tail (zs : List (Int × Int)) (hz : ∀ p ∈ zs, spOk p) (j : Nat) : Tail (F zs j).1 := by
  induction j with
  | zero => exact .inl rfl
  | succ j ih =>
    rcases h : zs[j]? with _ | p
    · have : F zs (j + 1) = F zs j := by
        have := List.getElem?_eq_none_iff.1 h
        unfold F; rw [List.take_of_length_le (by omega), List.take_of_length_le (by omega)]
      rw [this]; exact ih
    · rw [F_succ zs j p h]
      exact stp_tail (F zs j).1 (F zs j).2 p.1 p.2 (F_good zs hz j).1 ih

theorem F_all (zs : List (Int × Int)) (n : Nat) (h : n = zs.length) : F zs n = zs.foldl stp ([], 0) := by
  unfold F; rw [List.take_of_length_le (by omega)]
theorem F_take (zs : List (Int × Int)) (k : Nat) (_h : k ≤ zs.length) : F (zs.take k) k = F zs k := by
  unfold F; rw [List.take_take, Nat.min_self]

theorem F_cut (zs : List (Int × Int)) (k n : Nat) (hn : n = zs.length) : F zs n = (zs.drop k).foldl stp (F zs k) := by
  rw [F_all zs n hn]
  unfold F
  rw [← List.foldl_append, List.take_append_drop]

/-- the seam does not join -/
theorem cut_plain (zs : List (Int × Int)) (k n : Nat) (hn : n = zs.length) (hk : k < n) (hj : joins (F zs k).2 (g1 zs k) = false) :
    F zs n = ((F zs k).1 ++ (F (zs.drop k) (n - k)).1, (F (zs.drop k) (n - k)).2) := by
  rw [F_cut zs k n hn, F_all (zs.drop k) (n - k) (by simp; omega)]
  have hd : zs.drop k = (g1 zs k, g2 zs k) :: zs.drop (k + 1) := by
    have hlt : k < zs.length := by omega
    rw [List.drop_eq_getElem_cons hlt]
    congr 1
    simp [g1, g2, List.getD, hlt]
  rw [hd, List.foldl_cons, List.foldl_cons]
  have e1 : stp (F zs k) (g1 zs k, g2 zs k) = ((F zs k).1 ++ [(7, g1 zs k)], g2 zs k) := stp_new (F zs k).1 (F zs k).2 _ _ hj
  have e2 : stp ([], 0) (g1 zs k, g2 zs k) = ([(7, g1 zs k)], g2 zs k) := stp_new [] 0 _ _ (by simp [joins])
  rw [e1, e2]
  exact fold_append (F zs k).1 _ _ _ (by simp) stp_ne

/-- what holds of the two folds behind a seam that joins -/
def Seam (Q : List (Int × Int)) (s0 s e : Int) (st1 st2 : List (Int × Int) × Int) : Prop :=
  st1.2 = st2.2 ∧ ∃ R ge, ((st2.1 = [(7, s)] ++ R ∧ ge = e) ∨ st2.1 = [(8, s), (8, ge)] ++ R) ∧ st1.1 = Q ++ [(8, s0), (8, ge)] ++ R

theorem seam_step (Q : List (Int × Int)) (s0 s e : Int) (st1 st2 : List (Int × Int) × Int) (x : Int × Int) (h : Seam Q s0 s e st1 st2) : Seam Q s0 s e (stp st1 x) (stp st2 x) := by
  obtain ⟨L1, e1⟩ := st1
  obtain ⟨L2, e2⟩ := st2
  obtain ⟨he, R, ge, h2, h1⟩ := h
  simp only at he h1 h2
  subst he h1
  by_cases hR : R = []
  · subst hR
    simp only [List.append_nil] at h2 ⊢
    obtain ⟨x1, x2⟩ := x
    rcases Bool.eq_false_or_eq_true (joins e1 x1) with hj | hj
    · have a1 : stp (Q ++ [(8, s0), (8, ge)], e1) (x1, x2) = (Q ++ [(8, s0), (8, x2)], x2) := by
        rw [stp_ext _ _ _ _ ge (Q.length + 1) hj (by simp) (by simp)]
        simp
      rw [a1]
      rcases h2 with ⟨rfl, rfl⟩ | rfl
      · rw [stp_two _ _ _ _ s 0 hj (by simp) (by simp)]
        exact ⟨rfl, [], x2, .inr (by simp), by simp⟩
      · rw [stp_ext _ _ _ _ ge 1 hj (by simp) (by simp)]
        exact ⟨rfl, [], x2, .inr (by simp), by simp⟩
    · rw [stp_new _ _ _ _ hj, stp_new _ _ _ _ hj]
      rcases h2 with ⟨rfl, rfl⟩ | rfl
      · exact ⟨rfl, [(7, x1)], ge, .inl ⟨rfl, rfl⟩, rfl⟩
      · exact ⟨rfl, [(7, x1)], ge, .inr rfl, rfl⟩
  · rw [stp_append _ R e1 x hR]
    rcases h2 with ⟨rfl, rfl⟩ | rfl
    · rw [stp_append _ R e1 x hR]
      exact ⟨rfl, _, ge, .inl ⟨rfl, rfl⟩, rfl⟩
    · rw [stp_append _ R e1 x hR]
      exact ⟨rfl, _, ge, .inr rfl, rfl⟩

theorem seam_fold (Q : List (Int × Int)) (s0 s e : Int) : ∀ (xs : List (Int × Int)) (st1 st2 : List (Int × Int) × Int), Seam Q s0 s e st1 st2 → Seam Q s0 s e (xs.foldl stp st1) (xs.foldl stp st2)
  | [], _, _, h => h
  | x :: xs, st1, st2, h => by
    rw [List.foldl_cons, List.foldl_cons]
    exact seam_fold Q s0 s e xs _ _ (seam_step Q s0 s e st1 st2 x h)

/-- the seam joins -/
theorem cut_joins (zs : List (Int × Int)) (hz : ∀ p ∈ zs, spOk p) (k n : Nat) (hn : n = zs.length) (hk : k < n) (hj : joins (F zs k).2 (g1 zs k) = true) :
    ∃ Q s0, ((F zs k).1 = Q ++ [(7, s0)] ∨ ∃ e0, (F zs k).1 = Q ++ [(8, s0), (8, e0)]) ∧ Seam Q s0 (g1 zs k) (g2 zs k) (F zs n) (F (zs.drop k) (n - k)) := by
  rw [F_cut zs k n hn, F_all (zs.drop k) (n - k) (by simp; omega)]
  have hd : zs.drop k = (g1 zs k, g2 zs k) :: zs.drop (k + 1) := by
    have hlt : k < zs.length := by omega
    rw [List.drop_eq_getElem_cons hlt]
    congr 1
    simp [g1, g2, List.getD, hlt]
  rw [hd, List.foldl_cons, List.foldl_cons]
  have e2 : stp ([], 0) (g1 zs k, g2 zs k) = ([(7, g1 zs k)], g2 zs k) := stp_new [] 0 _ _ (by simp [joins])
  have hne := (F_good zs hz k).1.ne (joins_ne hj)
  rcases F_tail zs hz k with h0 | ⟨Q, s0, h0⟩ | ⟨Q, s0, e0, h0⟩
  · exact absurd h0 hne
  · have e1 : stp (F zs k) (g1 zs k, g2 zs k) = (Q ++ [(8, s0), (8, g2 zs k)], g2 zs k) := by
      have := stp_two (F zs k).1 (F zs k).2 (g1 zs k) (g2 zs k) s0 Q.length hj (by rw [h0]; simp) (by rw [h0]; simp)
      refine this.trans ?_
      rw [h0]; simp
    refine ⟨Q, s0, .inl h0, ?_⟩
    rw [e1, e2]
    exact seam_fold _ _ _ _ _ _ _ ⟨rfl, [], g2 zs k, .inl ⟨by simp, rfl⟩, by simp⟩
  · have e1 : stp (F zs k) (g1 zs k, g2 zs k) = (Q ++ [(8, s0), (8, g2 zs k)], g2 zs k) := by
      have := stp_ext (F zs k).1 (F zs k).2 (g1 zs k) (g2 zs k) e0 (Q.length + 1) hj (by rw [h0]; simp) (by rw [h0]; simp)
      refine this.trans ?_
      rw [h0]; simp
    refine ⟨Q, s0, .inr ⟨e0, h0⟩, ?_⟩
    rw [e1, e2]
    exact seam_fold _ _ _ _ _ _ _ ⟨rfl, [], g2 zs k, .inl ⟨by simp, rfl⟩, by simp⟩

end Go.Proofs.Qxb6616010a
