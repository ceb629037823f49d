/- One count's line is turned. -/
import Derived.Test.Qxb6616195aSlClone
namespace Go.Proofs.Qxb6616195a
open Go.RowKit

def XL (_b : Nat) (o : Obj) : Prop := isT 78 o ∨ isT 29 o
def setL (L : List (Ky × List Nat)) (k : Ky) (l : List Nat) : List (Ky × List Nat) := L.map fun p => if p.1 = k then (p.1, l) else p

theorem vw_keys (M : List Ent) : (vw M).map (·.1) = M.map (·.1) := by simp [vw, Function.comp_def]
theorem ln_keys (M : List Ent) : (ln M).map (·.1) = M.map (·.1) := by simp [ln, Function.comp_def]
theorem TS.nodup {w : World} {F T : Nat} {s : Int} {mb : Option Nat} {M : List Ent} (h : TS w F T s mb M) : (M.map (·.1)).Nodup := by
  rw [← vw_keys]
  cases mb with
  | none => have : vw M = [] := h.mp
            rw [this]; exact List.nodup_nil
  | some b => obtain ⟨D, _, h2⟩ := h.mp; exact h2.nodup

theorem split_of {M : List Ent} {k : Ky} {c : Nat} (h : (vw M).lookup k = some c) : ∃ M1 x M2, M = M1 ++ x :: M2 ∧ x.1 = k ∧ x.2.1 = c := by
  induction M with
  | nil => simp [vw] at h
  | cons y M ih =>
    simp only [vw, List.map_cons, List.lookup_cons] at h
    by_cases e : k = y.1
    · have : (k == y.1) = true := by simpa using e
      rw [this] at h
      exact ⟨[], y, M, rfl, e.symm, Option.some.inj h⟩
    · have : (k == y.1) = false := by simpa using e
      rw [this] at h
      obtain ⟨M1, x, M2, rfl, h1, h2⟩ := ih h
      exact ⟨y :: M1, x, M2, rfl, h1, h2⟩
theorem lookup_of_mem {M : List Ent} (hn : (M.map (·.1)).Nodup) {x : Ent} (hx : x ∈ M) : (vw M).lookup x.1 = some x.2.1 := by
  induction M with
  | nil => simp at hx
  | cons y M ih =>
    rw [List.map_cons, List.nodup_cons] at hn
    simp only [vw, List.map_cons, List.lookup_cons]
    rcases List.mem_cons.1 hx with rfl | hx
    · simp
    · have : (x.1 == y.1) = false := by
        have hne : x.1 ≠ y.1 := fun e => hn.1 (by rw [← e]; exact List.mem_map.2 ⟨x, hx, rfl⟩)
        simpa using hne
      rw [this]
      exact ih hn.2 hx

theorem TS.set {w w' : World} {F T : Nat} {s : Int} {mb : Option Nat} {M1 M2 : List Ent} {x : Ent} (h : TS w F T s mb (M1 ++ x :: M2)) (v : Value) (l : List Nat) (hF : F ≤ w.heap.size)
    (hos : w'.os = w.os) (htape : w'.tape = w.tape) (hout : w'.output = w.output) (hsz : w.heap.size ≤ w'.heap.size)
    (hk : ∀ g, g < w.heap.size → g ≠ x.2.1 → x.2.2.1.ownBlock ≠ some g → w'.heap[g]? = w.heap[g]?)
    (hcnt : w'.heap[x.2.1]? = some (.cells #[.int .i64 0, v] 78 (0, 0))) (hrow : w'.ownsRow F 29 1 v l.length (l.map ptr))
    (hv : ∀ g, v.ownBlock = some g → x.2.2.1.ownBlock = some g ∨ w.heap.size ≤ g) :
    TS w' F T s mb (M1 ++ (x.1, x.2.1, v, l) :: M2) ∧ Fr F XL w w' := by
  have hx := h.ents x (by simp)
  have hoth : ∀ g o, w.heap[g]? = some o → g ≠ x.2.1 → x.2.2.1.ownBlock ≠ some g → w'.heap[g]? = some o := fun g o ho h1 h2 => (hk g (Array.getElem?_eq_some_iff.1 ho).1 h1 h2).trans ho
  have hnx : ∀ g o, w.heap[g]? = some o → ¬ XL g o → w'.heap[g]? = some o := by
    intro g o ho hno
    refine hoth g o ho ?_ ?_
    · rintro rfl
      rw [hx.cnt] at ho; cases ho
      exact hno (.inl ⟨_, _, rfl⟩)
    · intro e
      obtain ⟨C, hC⟩ := hx.rowT e
      rw [hC] at ho; cases ho
      exact hno (.inr ⟨_, _, rfl⟩)
  have hfr : Fr F XL w w' := ⟨hos, htape, hout, hsz, fun b hb => hk b (by omega) (by have := hx.low; omega) (fun e => by
    rcases hx.row.2 with ⟨e', _⟩ | ⟨g, cap, cur, e', hg, _⟩
    · rw [e'] at e; cases e
    · rw [e'] at e
      have : g = b := by simpa [Value.ownBlock] using e
      omega), hnx⟩
  refine ⟨?_, hfr⟩
  obtain ⟨q, e, o, u, d, c, ht⟩ := h.tb
  have hap := h.apart
  rw [List.pairwise_append, List.pairwise_cons] at hap
  obtain ⟨a1, ⟨a2, a3⟩, a4⟩ := hap
  -- every other entry's blocks
  have hother : ∀ y, (y ∈ M1 ∨ y ∈ M2) → ENT w' F y ∧ y.2.1 ≠ x.2.1 ∧ (y.2.2.1.ownBlock = none ∨ y.2.2.1.ownBlock ≠ v.ownBlock) := by
    intro y hy
    have hy' : ENT w F y := h.ents y (by rcases hy with hy | hy <;> simp [hy])
    have hsep : y.2.1 ≠ x.2.1 ∧ (∀ g, y.2.2.1.ownBlock = some g → x.2.2.1.ownBlock ≠ some g) := by
      rcases hy with hy | hy
      · have := a4 y hy x (by simp)
        refine ⟨this.1, fun g hg hg' => ?_⟩
        rcases this.2 with h2 | h2
        · rw [h2] at hg; cases hg
        · exact h2 (hg.trans hg'.symm)
      · have := a2 y hy
        refine ⟨fun e => this.1 e.symm, fun g hg hg' => ?_⟩
        rcases this.2 with h2 | h2
        · rw [h2] at hg'; cases hg'
        · exact h2 (hg'.trans hg.symm)
    refine ⟨?_, hsep.1, ?_⟩
    · refine hy'.keep ?_ ?_
      · rw [hy'.cnt]
        refine hoth _ _ hy'.cnt hsep.1 fun e => ?_
        obtain ⟨C, hC⟩ := hx.rowT e
        rw [hy'.cnt] at hC; simp at hC
      · intro g hg
        obtain ⟨C, hC⟩ := hy'.rowT hg
        rw [hC]
        refine hoth _ _ hC ?_ (hsep.2 g hg)
        rintro rfl
        rw [hx.cnt] at hC; simp at hC
    · cases hyo : y.2.2.1.ownBlock with
      | none => exact .inl rfl
      | some g =>
        refine .inr fun e => ?_
        rcases hv g e.symm with h1 | h1
        · exact hsep.2 g hyo h1
        · obtain ⟨C, hC⟩ := hy'.rowT hyo
          have := (Array.getElem?_eq_some_iff.1 hC).1
          omega
  refine ⟨h.lowT, ⟨q, e, o, u, d, c, hnx _ _ ht (by rintro (⟨_, _, h⟩ | ⟨_, _, h⟩) <;> simp at h)⟩, h.lowM, ?_, ?_, ?_⟩
  · have hvw : vw (M1 ++ (x.1, x.2.1, v, l) :: M2) = vw (M1 ++ x :: M2) := by simp [vw]
    rw [hvw]
    refine h.mp.keep ?_
    rintro b rfl
    obtain ⟨es, cl, hb⟩ := h.mp.isMap
    rw [hb]
    exact hnx _ _ hb (by rintro (⟨_, _, h⟩ | ⟨_, _, h⟩) <;> cases h)
  · intro y hy
    rcases List.mem_append.1 hy with hy | hy
    · exact (hother y (.inl hy)).1
    · rcases List.mem_cons.1 hy with rfl | hy
      · exact ⟨hx.low, hcnt, hrow, hx.key⟩
      · exact (hother y (.inr hy)).1
  · rw [List.pairwise_append, List.pairwise_cons]
    refine ⟨a1, ⟨?_, a3⟩, ?_⟩
    · intro y hy
      obtain ⟨_, h1, h2⟩ := hother y (.inr hy)
      refine ⟨fun e => h1 e.symm, ?_⟩
      rcases h2 with h2 | h2
      · cases hvo : v.ownBlock with
        | none => exact .inl rfl
        | some g => exact .inr (by rw [h2]; simp)
      · exact .inr fun e => h2 e.symm
    · intro y hy z hz
      rcases List.mem_cons.1 hz with rfl | hz
      · obtain ⟨_, h1, h2⟩ := hother y (.inl hy)
        exact ⟨h1, h2⟩
      · exact a4 y hy z (by simp [hz])
end Go.Proofs.Qxb6616195a
