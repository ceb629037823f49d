/- queue: what its rounds do to memory. -/
import Derived.Test.Qxb6616195aWait
namespace Go.Proofs.Qxb6616195a
open Go.RowKit

theorem rm_gen {w wg : World} {F T : Nat} {s : Int} {mb : Option Nat} {M1 M2 : List Ent} {x : Ent} {g cap : Nat} {cur : Array Value} (h : TS w F T s mb (M1 ++ x :: M2)) (hF : F ≤ w.heap.size)
    (hx : x.2.2.1 = .slice (some ⟨g, 0, none⟩) x.2.2.2.length cap) (l : List Nat) (hl : l.length ≤ cap) (hcap : cap ≤ maxLen) (hFg : F ≤ g)
    (hos : wg.os = w.os) (htp : wg.tape = w.tape) (hout : wg.output = w.output) (hk : ∀ b, b ≠ g → wg.heap[b]? = w.heap[b]?) (hsz : wg.heap.size = w.heap.size)
    (hg : wg.heap[g]? = some (.cells cur 29 (0, 0))) (hcs : cur.size = cap) (hcur : cur.toList.take l.length = l.map ptr) :
    TS (wg.setCell ⟨x.2.1, 1, none⟩ (.slice (some ⟨g, 0, none⟩) l.length cap)) F T s mb (M1 ++ (x.1, x.2.1, .slice (some ⟨g, 0, none⟩) l.length cap, l) :: M2) ∧
      Fr F XL w (wg.setCell ⟨x.2.1, 1, none⟩ (.slice (some ⟨g, 0, none⟩) l.length cap)) := by
  have hxx := h.ents x (by simp)
  have hne : x.2.1 ≠ g := by
    rintro rfl
    obtain ⟨C, hC⟩ := hxx.rowT (g := x.2.1) (by rw [hx]; rfl)
    rw [hxx.cnt] at hC; simp at hC
  refine h.set _ l hF hos htp hout (by simp [hsz]) ?_ ?_ ?_ ?_
  · intro b hb h1 h2
    rw [Below.heap_setCell _ _ _ _ (by simpa using h1)]
    refine hk b ?_
    rintro rfl
    exact h2 (by rw [hx]; rfl)
  · have : wg.heap[x.2.1]? = some (.cells #[.int .i64 0, x.2.2.1] 78 (0, 0)) := (hk _ hne).trans hxx.cnt
    simp [World.setCell, Array.getElem?_modify, this]
  · refine ⟨by simp, .inr ⟨g, cap, cur, rfl, hFg, ?_, hl, hcap, by simpa using hcs, by simpa using hcur⟩⟩
    rw [Below.heap_setCell _ _ _ _ (by simpa using fun e => hne e.symm)]
    exact hg
  · intro g' hg'
    left
    rw [hx]
    exact hg'

/-- A line of one. -/
theorem rm1 {w : World} {F T : Nat} {s : Int} {mb : Option Nat} {M1 M2 : List Ent} {x : Ent} {W : Nat} (h : TS w F T s mb (M1 ++ x :: M2)) (hF : F ≤ w.heap.size) (hx : x.2.2.2 = [W]) :
    ∃ g cap, x.2.2.1 = .slice (some ⟨g, 0, none⟩) 1 cap ∧ 1 ≤ cap ∧ w.cell? ⟨g, 0, none⟩ = some (ptr W) ∧ w.frozen? ⟨g, 0, none⟩ = false ∧ g < w.heap.size ∧
      (TS ((w.setCell ⟨g, 0, none⟩ (.pointer none)).setCell ⟨x.2.1, 1, none⟩ (.slice (some ⟨g, 0, none⟩) 0 cap)) F T s mb (M1 ++ (x.1, x.2.1, .slice (some ⟨g, 0, none⟩) 0 cap, []) :: M2) ∧
      Fr F XL w ((w.setCell ⟨g, 0, none⟩ (.pointer none)).setCell ⟨x.2.1, 1, none⟩ (.slice (some ⟨g, 0, none⟩) 0 cap))) := by
  have hxx := h.ents x (by simp)
  have hrow := hxx.row
  rw [hx] at hrow
  rcases hrow.2 with ⟨_, h0⟩ | ⟨g, cap, cur, e, hb, hg, hnc, hcm, hcs, htk⟩
  · simp at h0
  · have hcs' : cur.size = cap := by simpa using hcs
    refine ⟨g, cap, e, by simpa using hnc, ?_, ?_, (Array.getElem?_eq_some_iff.1 hg).1, ?_⟩
    · rw [e] at hrow
      have := hrow.cellAt 0 (by simp)
      simpa using this
    · unfold World.frozen?; simp [hg]
    · have := rm_gen (wg := w.setCell ⟨g, 0, none⟩ (.pointer none)) (cur := cur.setIfInBounds 0 (.pointer none)) h hF (by rw [hx]; exact e) [] (by simp) hcm hb rfl rfl rfl (fun b hne => Below.heap_setCell _ _ _ _ hne) (by simp)
        (by simp [World.setCell, Array.getElem?_modify, hg]) (by simpa using hcs') (by simp)
      exact this
/-- A line of two. -/
theorem rm2 {w : World} {F T : Nat} {s : Int} {mb : Option Nat} {M1 M2 : List Ent} {x : Ent} {W O : Nat} (h : TS w F T s mb (M1 ++ x :: M2)) (hF : F ≤ w.heap.size) (hx : x.2.2.2 = [W, O]) :
    ∃ g cap, x.2.2.1 = .slice (some ⟨g, 0, none⟩) 2 cap ∧ 2 ≤ cap ∧ w.cell? ⟨g, 0, none⟩ = some (ptr W) ∧ w.cell? ⟨g, 1, none⟩ = some (ptr O) ∧ (∀ i, w.frozen? ⟨g, i, none⟩ = false) ∧ g < w.heap.size ∧
      (TS (((w.setCell ⟨g, 0, none⟩ (ptr O)).setCell ⟨g, 1, none⟩ (.pointer none)).setCell ⟨x.2.1, 1, none⟩ (.slice (some ⟨g, 0, none⟩) 1 cap)) F T s mb (M1 ++ (x.1, x.2.1, .slice (some ⟨g, 0, none⟩) 1 cap, [O]) :: M2) ∧
      Fr F XL w (((w.setCell ⟨g, 0, none⟩ (ptr O)).setCell ⟨g, 1, none⟩ (.pointer none)).setCell ⟨x.2.1, 1, none⟩ (.slice (some ⟨g, 0, none⟩) 1 cap))) := by
  have hxx := h.ents x (by simp)
  have hrow := hxx.row
  rw [hx] at hrow
  rcases hrow.2 with ⟨_, h0⟩ | ⟨g, cap, cur, e, hb, hg, hnc, hcm, hcs, htk⟩
  · simp at h0
  · have hcs' : cur.size = cap := by simpa using hcs
    have hnc' : 2 ≤ cap := by simpa using hnc
    refine ⟨g, cap, e, hnc', ?_, ?_, ?_, (Array.getElem?_eq_some_iff.1 hg).1, ?_⟩
    · rw [e] at hrow
      have := hrow.cellAt 0 (by simp)
      simpa using this
    · rw [e] at hrow
      have := hrow.cellAt 1 (by simp)
      simpa using this
    · intro i; unfold World.frozen?; simp [hg]
    · have := rm_gen (wg := (w.setCell ⟨g, 0, none⟩ (ptr O)).setCell ⟨g, 1, none⟩ (.pointer none)) (cur := (cur.setIfInBounds 0 (ptr O)).setIfInBounds 1 (.pointer none)) h hF (by rw [hx]; exact e) [O] (by simp; omega) hcm hb rfl rfl rfl
        (fun b hne => by rw [Below.heap_setCell _ _ _ _ hne, Below.heap_setCell _ _ _ _ hne]) (by simp)
        (by simp [World.setCell, Array.getElem?_modify, hg]) (by simpa using hcs') (by
          obtain ⟨a, b, r, hr⟩ : ∃ a b r, cur.toList = a :: b :: r := by
            have : 2 ≤ cur.toList.length := by simp; omega
            match cur.toList, this with
            | a :: b :: r, _ => exact ⟨a, b, r, rfl⟩
          simp [hr])
      exact this

/-- What stands of the entry behind the store. -/
theorem ent_of {w : World} {F T : Nat} {s : Int} {mb : Option Nat} {M : List Ent} {k : Ky} (h : TS w F T s mb M) {l : List Nat} (hl : LV M k = some l) :
    ∃ M1 x M2, M = M1 ++ x :: M2 ∧ x.1 = k ∧ x.2.2.2 = l ∧ (vw M).lookup k = some x.2.1 := by
  cases hv : (vw M).lookup k with
  | none => rw [LV_none.2 hv] at hl; cases hl
  | some c =>
    obtain ⟨M1, x, M2, rfl, hk, hc⟩ := split_of hv
    refine ⟨M1, x, M2, rfl, hk, ?_, by rw [hc]⟩
    have := LV_mem h.nodup
    rw [hk, hl] at this
    exact (Option.some.inj this).symm

def rmv : Option (List Nat) → Option (List Nat)
  | some (_ :: a :: r) => some (a :: r)
  | _ => none
def rmf (qs ks : List Ky) (f : Ky → Option (List Nat)) (k : Ky) : Option (List Nat) := if k ∈ qs ∧ k ∉ ks then rmv (f k) else f k
def adf (W : Nat) (ks qs : List Ky) (f : Ky → Option (List Nat)) (k : Ky) : Option (List Nat) := if k ∈ ks ∧ k ∉ qs then some ((f k).getD [] ++ [W]) else f k
def NB (B : Nat) (M : List Ent) : Prop := ∀ x ∈ M, x.2.2.1.ownBlock ≠ some B

/-- Where a loop of queue's stands. -/
structure QS (w1 wr : World) (F T : Nat) (s : Int) (B W N : Nat) (f : Ky → Option (List Nat)) (M : List Ent) : Prop where
  size : F ≤ wr.heap.size
  ts : ∃ mb, TS wr F T s mb M
  lv : ∀ k, LV M k = f k
  fr : Fr F XA w1 wr
  box : wr.heap[B]? = some (.cells #[ptr W] 29 (0, 0))
  nb : NB B M
  len : M.length ≤ N

theorem QS.cellB {w1 wr : World} {F T : Nat} {s : Int} {B W N : Nat} {f : Ky → Option (List Nat)} {M : List Ent} (h : QS w1 wr F T s B W N f M) : wr.cell? ⟨B, 0, none⟩ = some (ptr W) ∧ B < wr.heap.size := by
  refine ⟨by rw [cell_of_row _ _ 0 _ 29 _ h.box]; rfl, (Array.getElem?_eq_some_iff.1 h.box).1⟩

/-- Behind a removal and its tidy. -/
theorem QS.tidied {w1 wr w2 w3 : World} {F T : Nat} {s : Int} {B W N : Nat} {f f' : Ky → Option (List Nat)} {M1 M2 : List Ent} {x : Ent} {mb : Option Nat} {g m cap : Nat} {l : List Nat} {e : Ending}
    (h : QS w1 wr F T s B W N f (M1 ++ x :: M2)) (hg : x.2.2.1.ownBlock = some g)
    (h2 : TS w2 F T s mb (M1 ++ (x.1, x.2.1, .slice (some ⟨g, 0, none⟩) m cap, l) :: M2) ∧ Fr F XL wr w2) (hB2 : w2.heap[B]? = wr.heap[B]?)
    (h3 : TidyR F T s mb (M1 ++ (x.1, x.2.1, .slice (some ⟨g, 0, none⟩) m cap, l) :: M2) (x.1, x.2.1, .slice (some ⟨g, 0, none⟩) m cap, l) w2 e w3)
    (hf' : ∀ k, f' k = if k = x.1 then (if l = [] then none else some l) else f k) :
    ∃ M', QS w1 w3 F T s B W N f' M' := by
  obtain ⟨-, ht, hfr⟩ := h3
  have hnd := h2.1.nodup
  have hnd0 := h.ts.choose_spec.nodup
  refine ⟨_, ⟨Nat.le_trans h.size (Nat.le_trans h2.2.size hfr.size), ⟨mb, ht⟩, ?_, h.fr.trans ((h2.2.mono XL_A).trans (hfr.mono XM_A)), ?_, ?_, ?_⟩⟩
  · intro k
    rw [hf' k]
    have hs := LV_split hnd0 x.2.1 (.slice (some ⟨g, 0, none⟩) m cap) l k
    by_cases hl : l = []
    · simp only [hl, if_true]
      subst hl
      rw [LV_drop, hs, h.lv]
      by_cases hk : k = x.1
      · simp [hk]
      · simp [hk]
    · simp only [hl, if_false]
      rw [hs, h.lv]
  · exact hfr.keep _ _ (hB2.trans h.box) (by rintro ⟨_, _, h⟩; cases h)
  · have hnb' : NB B (M1 ++ (x.1, x.2.1, .slice (some ⟨g, 0, none⟩) m cap, l) :: M2) := by
      intro y hy
      rcases List.mem_append.1 hy with hy | hy
      · exact h.nb y (by simp [hy])
      · rcases List.mem_cons.1 hy with rfl | hy
        · have := h.nb x (by simp)
          rw [hg] at this
          exact this
        · exact h.nb y (by simp [hy])
    intro y hy
    split at hy
    · exact hnb' y (List.mem_filter.1 hy).1
    · exact hnb' y hy
  · have h0 := h.len
    simp only [List.length_append, List.length_cons] at h0
    split
    · refine Nat.le_trans (List.length_filter_le _ _) ?_
      simpa using h0
    · simpa using h0

theorem rmf_succ {qs ks : List Ky} {f : Ky → Option (List Nat)} {i : Nat} {key : Ky} (hi : qs[i]? = some key) (hk : key ∉ ks) (k : Ky) : rmf (qs.take (i + 1)) ks f k = if k = key then rmv (f key) else rmf (qs.take i) ks f k := by
  obtain ⟨hlt, he⟩ := List.getElem?_eq_some_iff.1 hi
  unfold rmf
  rw [List.take_succ_eq_append_getElem hlt, he]
  by_cases h : k = key
  · subst h; simp [hk]
  · simp [h]
theorem rmf_same {qs ks : List Ky} {f : Ky → Option (List Nat)} {i : Nat} {key : Ky} (hi : qs[i]? = some key) (hk : key ∈ ks) (k : Ky) : rmf (qs.take (i + 1)) ks f k = rmf (qs.take i) ks f k := by
  obtain ⟨hlt, he⟩ := List.getElem?_eq_some_iff.1 hi
  unfold rmf
  rw [List.take_succ_eq_append_getElem hlt, he]
  by_cases h : k = key
  · subst h; simp [hk]
  · simp [h]
theorem rmf_at {qs ks : List Ky} {f : Ky → Option (List Nat)} {i : Nat} {key : Ky} (hi : qs[i]? = some key) (hnd : qs.Nodup) : rmf (qs.take i) ks f key = f key := by
  obtain ⟨hlt, he⟩ := List.getElem?_eq_some_iff.1 hi
  unfold rmf
  have : key ∉ qs.take i := by
    intro h
    obtain ⟨j, hj, hje⟩ := List.mem_iff_getElem.1 h
    simp only [List.length_take] at hj
    rw [List.getElem_take] at hje
    exact (List.pairwise_iff_getElem.1 hnd) j i (by omega) hlt (by omega) (hje.trans he.symm)
  simp [this]
theorem adf_succ {W : Nat} {ks qs : List Ky} {f : Ky → Option (List Nat)} {i : Nat} {key : Ky} (hi : ks[i]? = some key) (hk : key ∉ qs) (k : Ky) : adf W (ks.take (i + 1)) qs f k = if k = key then some ((f key).getD [] ++ [W]) else adf W (ks.take i) qs f k := by
  obtain ⟨hlt, he⟩ := List.getElem?_eq_some_iff.1 hi
  unfold adf
  rw [List.take_succ_eq_append_getElem hlt, he]
  by_cases h : k = key
  · subst h; simp [hk]
  · simp [h]
theorem adf_same {W : Nat} {ks qs : List Ky} {f : Ky → Option (List Nat)} {i : Nat} {key : Ky} (hi : ks[i]? = some key) (hk : key ∈ qs) (k : Ky) : adf W (ks.take (i + 1)) qs f k = adf W (ks.take i) qs f k := by
  obtain ⟨hlt, he⟩ := List.getElem?_eq_some_iff.1 hi
  unfold adf
  rw [List.take_succ_eq_append_getElem hlt, he]
  by_cases h : k = key
  · subst h; simp [hk]
  · simp [h]
theorem adf_at {W : Nat} {ks qs : List Ky} {f : Ky → Option (List Nat)} {i : Nat} {key : Ky} (hi : ks[i]? = some key) (hnd : ks.Nodup) : adf W (ks.take i) qs f key = f key := by
  obtain ⟨hlt, he⟩ := List.getElem?_eq_some_iff.1 hi
  unfold adf
  have : key ∉ ks.take i := by
    intro h
    obtain ⟨j, hj, hje⟩ := List.mem_iff_getElem.1 h
    simp only [List.length_take] at hj
    rw [List.getElem_take] at hje
    exact (List.pairwise_iff_getElem.1 hnd) j i (by omega) hlt (by omega) (hje.trans he.symm)
  simp [this]
end Go.Proofs.Qxb6616195a
