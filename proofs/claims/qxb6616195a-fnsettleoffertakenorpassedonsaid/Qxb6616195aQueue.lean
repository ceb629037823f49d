/- queue: (*signInTurns).queue. -/
import Derived.Test.Qxb6616195aQmem
import Derived.Deep.RegionLaw
namespace Go.Proofs.Qxb6616195a
open Go.RowKit

theorem Try.info29 : (Try.prog.info? 29).map (fun i => (i.zero, i.size, i.bytes)) = some (some (.pointer none), 1, 8) := by kernel_rfl

/-- One more in a line. -/
theorem add_gen {w wa w3 : World} {F T : Nat} {s : Int} {mb : Option Nat} {M1 M2 : List Ent} {x : Ent} {W g cap : Nat} (h : TS w F T s mb (M1 ++ x :: M2)) (hF : F ≤ w.heap.size) (hb : Below w.heap.size w wa)
    (hg : wa.grownBy w3 x.2.2.1.ownBlock) (hat : x.2.2.1.ownBlock = some g ∨ g = wa.heap.size) (hlen : x.2.2.2.length + 1 = (x.2.2.2 ++ [W]).length)
    (hrow : w3.ownsRow F 29 1 (.slice (some ⟨g, 0, none⟩) (x.2.2.2.length + 1) cap) (x.2.2.2.length + 1) (x.2.2.2.map ptr ++ [ptr W])) :
    (TS (w3.setCell ⟨x.2.1, 1, none⟩ (.slice (some ⟨g, 0, none⟩) (x.2.2.2.length + 1) cap)) F T s mb (M1 ++ (x.1, x.2.1, .slice (some ⟨g, 0, none⟩) (x.2.2.2.length + 1) cap, x.2.2.2 ++ [W]) :: M2) ∧
      Fr F XL w (w3.setCell ⟨x.2.1, 1, none⟩ (.slice (some ⟨g, 0, none⟩) (x.2.2.2.length + 1) cap))) ∧
    w3.heap[x.2.1]? = some (.cells #[.int .i64 0, x.2.2.1] 78 (0, 0)) ∧
    (∀ B, B < w.heap.size → B ≠ x.2.1 → x.2.2.1.ownBlock ≠ some B → (w3.setCell ⟨x.2.1, 1, none⟩ (.slice (some ⟨g, 0, none⟩) (x.2.2.2.length + 1) cap)).heap[B]? = w.heap[B]?) := by
  have hxx := h.ents x (by simp)
  have hxl := (Array.getElem?_eq_some_iff.1 hxx.cnt).1
  have hne : x.2.2.1.ownBlock ≠ some x.2.1 := by
    intro e
    obtain ⟨C, hC⟩ := hxx.rowT e
    rw [hxx.cnt] at hC; simp at hC
  have hgc : g ≠ x.2.1 := by
    rintro rfl
    rcases hat with e | e
    · exact hne e
    · have := hb.size; omega
  have hk : ∀ B, B < w.heap.size → B ≠ x.2.1 → x.2.2.1.ownBlock ≠ some B → (w3.setCell ⟨x.2.1, 1, none⟩ (.slice (some ⟨g, 0, none⟩) (x.2.2.2.length + 1) cap)).heap[B]? = w.heap[B]? := by
    intro B hB h1 h2
    rw [Below.heap_setCell _ _ _ _ (by simpa using h1), hg.block B (by have := hb.size; omega) (fun e => h2 e.symm), hb.block B hB]
  have hcnt : w3.heap[x.2.1]? = some (.cells #[.int .i64 0, x.2.2.1] 78 (0, 0)) := by
    rw [hg.block x.2.1 (by have := hb.size; omega) (fun e => hne e.symm), hb.block _ hxl]
    exact hxx.cnt
  refine ⟨h.set _ _ hF (hg.os.trans hb.os) (hg.tape.trans hb.tape) (hg.output.trans hb.output) ?_ hk ?_ ?_ ?_, hcnt, hk⟩
  · have h1 := hg.size; have h2 := hb.size; simp; omega
  · simp [World.setCell, Array.getElem?_modify, hcnt]
  · rw [← hlen]
    have hr : (x.2.2.2 ++ [W]).map ptr = x.2.2.2.map ptr ++ [ptr W] := by simp
    rw [hr]
    exact owns_heap hrow (fun g' hg' => by
      simp [Value.ownBlock] at hg'; subst hg'
      exact Below.heap_setCell _ _ _ _ (by simpa using hgc))
  · intro g' hg'
    simp [Value.ownBlock] at hg'
    subst hg'
    rcases hat with e | e
    · exact .inl e
    · right; rw [e]; exact hb.size

theorem QS.added {w1 wr w2 w' : World} {F T : Nat} {s : Int} {B W N c : Nat} {f f' : Ky → Option (List Nat)} {M Mc : List Ent} {mb mb' : Option Nat} {M1 M2 : List Ent} {x : Ent} {v : Value} {key : Ky}
    (h : QS w1 wr F T s B W N f M) (hc : TS w2 F T s mb Mc) (hM : (Mc = M ∧ ((vw M).lookup key).isSome = true) ∨ ((vw M).lookup key = none ∧ Mc = M ++ [(key, c, .slice none 0 0, [])])) (hfr : Fr F XC wr w2)
    (hs : Mc = M1 ++ x :: M2) (hk : x.1 = key)
    (h3 : TS w' F T s mb' (M1 ++ (x.1, x.2.1, v, x.2.2.2 ++ [W]) :: M2) ∧ Fr F XL w2 w') (hB : w'.heap[B]? = w2.heap[B]?) (hv : ∀ g, v.ownBlock = some g → x.2.2.1.ownBlock = some g ∨ w2.heap.size ≤ g)
    (hf' : ∀ k, f' k = if k = key then some ((f key).getD [] ++ [W]) else f k) : ∃ M', QS w1 w' F T s B W (N + 1) f' M' := by
  have hBlt := h.cellB.2
  have hnb : NB B Mc := by
    rcases hM with ⟨rfl, _⟩ | ⟨_, rfl⟩
    · exact h.nb
    · intro y hy
      rcases List.mem_append.1 hy with hy | hy
      · exact h.nb y hy
      · simp at hy; subst hy; simp [Value.ownBlock]
  have hlv : ∀ k, LV Mc k = if k = key then some ((f key).getD []) else f k := by
    intro k
    rcases hM with ⟨rfl, h1⟩ | ⟨h1, rfl⟩
    · by_cases hk : k = key
      · subst hk
        simp only [if_true]
        rw [h.lv]
        have h2 : LV Mc k ≠ none := by rw [Ne, LV_none]; intro e; rw [e] at h1; cases h1
        rw [h.lv] at h2
        cases hfk : f k with
        | none => exact absurd hfk h2
        | some l => rfl
      · simp only [hk, if_false]
        exact h.lv k
    · rw [LV_app]
      have h2 := LV_none.2 h1
      by_cases hk : k = key
      · subst hk
        have h4 : f k = none := by rw [← h.lv]; exact h2
        rw [h2, h4]
        simp
      · simp [hk, h.lv]
  have hnd : ((M1 ++ x :: M2).map (·.1)).Nodup := by rw [← hs]; exact hc.nodup
  refine ⟨_, ⟨Nat.le_trans h.size (Nat.le_trans hfr.size h3.2.size), ⟨mb', h3.1⟩, ?_, h.fr.trans ((hfr.mono XC_A).trans (h3.2.mono XL_A)), ?_, ?_, ?_⟩⟩
  · intro k
    rw [LV_split hnd, hf' k, ← hs, hlv k]
    have hx2 : x.2.2.2 = (f key).getD [] := by
      have h1 := LV_mem hnd
      rw [← hs, hlv, hk] at h1
      simpa using h1.symm
    rw [hx2, hk]
    by_cases hk : k = key
    · simp [hk]
    · simp [hk]
  · rw [hB]
    exact hfr.keep _ _ h.box (by rintro (⟨_, _, h⟩ | ⟨_, _, h⟩) <;> simp at h)
  · intro y hy
    rcases List.mem_append.1 hy with hy | hy
    · exact hnb y (by rw [hs]; simp [hy])
    · rcases List.mem_cons.1 hy with rfl | hy
      · intro e
        rcases hv B e with e | e
        · exact hnb x (by rw [hs]; simp) e
        · have := hfr.size; omega
      · exact hnb y (by rw [hs]; simp [hy])
  · have h0 := h.len
    have h1 : Mc.length ≤ M.length + 1 := by
      rcases hM with ⟨rfl, _⟩ | ⟨_, rfl⟩ <;> simp
    rw [hs] at h1
    simp only [List.length_append, List.length_cons] at h1 ⊢
    omega
end Go.Proofs.Qxb6616195a
