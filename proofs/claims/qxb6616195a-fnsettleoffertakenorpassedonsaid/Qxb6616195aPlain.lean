/- The plain laws: the lines, and how many are kept. -/
import Derived.Test.Qxb6616195aKeys
namespace Go.Proofs.Qxb6616195a
open Go.RowKit Go.Conc

theorem setf_fresh (W : Nat) (ks : List Ky) (f : Ky → Option (List Nat)) (k : Ky) : setf W ks [] f k = if k ∈ ks then some ((f k).getD [] ++ [W]) else f k := by
  unfold setf adf rmf cnf
  by_cases h : k ∈ ks <;> simp [h]

/-! the first law -/
def k1 (W1 : Nat) (a : List Ky) : Ky → Option (List Nat) := setf W1 a [] fun _ => none
def k2 (W1 W2 : Nat) (a b : List Ky) : Ky → Option (List Nat) := setf W2 b [] (k1 W1 a)
def k3 (W1 W2 : Nat) (a b c : List Ky) : Ky → Option (List Nat) := setf W1 c a (k2 W1 W2 a b)
def wantK (W1 W2 : Nat) (a b c : List Ky) (k : Ky) : List Nat := (if k ∈ a ∧ k ∈ c then [W1] else []) ++ (if k ∈ b then [W2] else []) ++ (if k ∉ a ∧ k ∈ c then [W1] else [])
theorem k1_eq (W1 : Nat) (a : List Ky) (k : Ky) : k1 W1 a k = if k ∈ a then some [W1] else none := by
  unfold k1; rw [setf_fresh]; simp
theorem k2_eq (W1 W2 : Nat) (a b : List Ky) (k : Ky) : k2 W1 W2 a b k = if k ∈ b then some ((if k ∈ a then [W1] else []) ++ [W2]) else if k ∈ a then some [W1] else none := by
  unfold k2; rw [setf_fresh, k1_eq]
  by_cases ha : k ∈ a <;> simp [ha]
theorem k2_line {W1 W2 : Nat} {a b : List Ky} {k : Ky} (h : k ∈ a) : k2 W1 W2 a b k = some [W1] ∨ k2 W1 W2 a b k = some [W1, W2] := by
  rw [k2_eq]
  by_cases hb : k ∈ b <;> simp [hb, h]
theorem k3_eq (W1 W2 : Nat) (a b c : List Ky) (k : Ky) : k3 W1 W2 a b c k = if wantK W1 W2 a b c k = [] then none else some (wantK W1 W2 a b c k) := by
  have h2 := k2_eq W1 W2 a b k
  unfold k3 setf adf rmf cnf wantK
  by_cases ha : k ∈ a <;> by_cases hb : k ∈ b <;> by_cases hc : k ∈ c <;> simp [ha, hb, hc, rmv] at h2 ⊢ <;> simp [h2]
theorem short_of {f : Ky → Option (List Nat)} {n : Nat} (h : ∀ k l, f k = some l → l.length ≤ n) (hn : n ≤ 100) : ∀ k l, f k = some l → l.length ≤ 100 := fun k l hl => Nat.le_trans (h k l hl) hn
theorem k1_short (W1 : Nat) (a : List Ky) : ∀ k l, k1 W1 a k = some l → l.length ≤ 100 := by
  intro k l h
  rw [k1_eq] at h
  split at h
  · cases h; simp
  · cases h
theorem k2_short (W1 W2 : Nat) (a b : List Ky) : ∀ k l, k2 W1 W2 a b k = some l → l.length ≤ 100 := by
  intro k l h
  rw [k2_eq] at h
  split at h
  · cases h; split <;> simp
  · split at h
    · cases h; simp
    · cases h

/-! the second law -/
def o3 (W1 W2 : Nat) (a : List Ky) : Ky → Option (List Nat) := rmf a [] (k2 W1 W2 a a)
def o4 (W1 W2 : Nat) (a c : List Ky) : Ky → Option (List Nat) := setf W1 c [] (o3 W1 W2 a)
def o5 (W1 W2 : Nat) (a c : List Ky) : Ky → Option (List Nat) := rmf a [] (o4 W1 W2 a c)
def wantO (W1 W2 : Nat) (t : Bool) (a c : List Ky) (k : Ky) : List Nat := (if t = true ∧ k ∈ a then [W2] else []) ++ (if k ∈ c then [W1] else [])
theorem o3_eq (W1 W2 : Nat) (a : List Ky) (k : Ky) : o3 W1 W2 a k = if k ∈ a then some [W2] else none := by
  unfold o3 rmf
  rw [k2_eq]
  by_cases ha : k ∈ a <;> simp [ha, rmv]
theorem o4_eq (W1 W2 : Nat) (a c : List Ky) (k : Ky) : o4 W1 W2 a c k = if wantO W1 W2 true a c k = [] then none else some (wantO W1 W2 true a c k) := by
  unfold o4 wantO
  rw [setf_fresh, o3_eq]
  by_cases ha : k ∈ a <;> by_cases hc : k ∈ c <;> simp [ha, hc]
theorem o4_line {W1 W2 : Nat} {a c : List Ky} {k : Ky} (h : k ∈ a) : o4 W1 W2 a c k = some [W2] ∨ o4 W1 W2 a c k = some [W2, W1] := by
  rw [o4_eq]
  by_cases hc : k ∈ c <;> simp [wantO, hc, h]
theorem o5_eq (W1 W2 : Nat) (a c : List Ky) (k : Ky) : o5 W1 W2 a c k = if wantO W1 W2 false a c k = [] then none else some (wantO W1 W2 false a c k) := by
  unfold o5 rmf
  rw [o4_eq]
  unfold wantO
  by_cases ha : k ∈ a <;> by_cases hc : k ∈ c <;> simp [ha, hc, rmv]
theorem k2_both {W1 W2 : Nat} {a : List Ky} {k : Ky} (h : k ∈ a) : k2 W1 W2 a a k = some [W1, W2] := by
  rw [k2_eq]; simp [h]
theorem o3_short (W1 W2 : Nat) (a : List Ky) : ∀ k l, o3 W1 W2 a k = some l → l.length ≤ 100 := by
  intro k l h
  rw [o3_eq] at h
  split at h
  · cases h; simp
  · cases h

/-! counting -/
theorem nodup_le {l m : List Ky} (hl : l.Nodup) (h : ∀ k ∈ l, k ∈ m) : l.length ≤ m.length := by
  induction l generalizing m with
  | nil => simp
  | cons x l ih =>
    rw [List.nodup_cons] at hl
    have hx := h x (by simp)
    have h2 : ∀ k ∈ l, k ∈ m.erase x := by
      intro k hk
      have hne : k ≠ x := by rintro rfl; exact hl.1 hk
      exact (List.mem_erase_of_ne hne).2 (h k (by simp [hk]))
    have := ih hl.2 h2
    rw [List.length_erase_of_mem hx] at this
    have hpos : 0 < m.length := List.length_pos_of_mem hx
    simp
    omega
theorem nodup_eq {l m : List Ky} (hl : l.Nodup) (hm : m.Nodup) (h : ∀ k, k ∈ l ↔ k ∈ m) : l.length = m.length :=
  Nat.le_antisymm (nodup_le hl fun k hk => (h k).1 hk) (nodup_le hm fun k hk => (h k).2 hk)
/-- How many keys are kept: one for each that somebody waits at. -/
theorem kept_count {M : List Ent} {all : List Ky} {want : Ky → List Nat} (hn : (M.map (·.1)).Nodup) (ha : all.Nodup) (hlv : ∀ k, LV M k = if want k = [] then none else some (want k)) (hin : ∀ k, want k ≠ [] → k ∈ all) :
    M.length = (all.filter fun k => decide (want k ≠ [])).length := by
  have : M.length = (M.map (·.1)).length := by simp
  rw [this]
  refine nodup_eq hn (ha.sublist List.filter_sublist) fun k => ?_
  have hk : k ∈ M.map (·.1) ↔ LV M k ≠ none := by rw [Ne, LV_keys]; simp
  rw [hk, hlv, List.mem_filter]
  by_cases hw : want k = []
  · simp [hw]
  · simp [hw, hin k hw]
theorem kept_succ {all : List Ky} {g : Ky → Bool} {i : Nat} {k : Ky} (h : all[i]? = some k) : ((all.take (i + 1)).filter g).length = ((all.take i).filter g).length + (if g k = true then 1 else 0) := by
  obtain ⟨hjl, hje⟩ := List.getElem?_eq_some_iff.1 h
  rw [List.take_succ_eq_append_getElem hjl, List.filter_append, hje]
  by_cases hg : g k = true <;> simp [hg]
theorem any_kys (A : List Bz) (k : Ky) : (A.any fun p => decide (p.1 = k)) = decide (k ∈ kys A) := by
  rw [Bool.eq_iff_iff]
  simp only [List.any_eq_true, decide_eq_true_eq, kys, List.mem_map]
end Go.Proofs.Qxb6616195a
