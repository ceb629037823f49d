/- count: (*signInTurns).count. -/
import Derived.Test.Qxb6616195aState
namespace Go.Proofs.Qxb6616195a
open Go.RowKit

def XC (_b : Nat) (o : Obj) : Prop := isT 64 o ∨ isM o
def ln (M : List Ent) : List (Ky × List Nat) := M.map fun x => (x.1, x.2.2.2)
def CntR (F T : Nat) (s : Int) (M : List Ent) (k : Ky) (w : World) (e : Ending) (w' : World) : Prop :=
  ∃ mb' M' c, e = .returned (ptr c) ∧ TS w' F T s mb' M' ∧ (vw M').lookup k = some c ∧ ((M' = M ∧ ((vw M).lookup k).isSome = true) ∨ ((vw M).lookup k = none ∧ M' = M ++ [(k, c, .slice none 0 0, [])])) ∧ Fr F XC w w'

theorem TS.cells {w : World} {F T : Nat} {s : Int} {mb : Option Nat} {M : List Ent} (h : TS w F T s mb M) :
    w.cell? ⟨T, 0, none⟩ = some (.int .i32 s) ∧ w.cell? ⟨T, 2, none⟩ = some (.map mb) ∧ w.frozen? ⟨T, 0, none⟩ = false ∧ w.frozen? ⟨T, 2, none⟩ = false ∧ T < w.heap.size := by
  obtain ⟨q, e, o, u, d, c, ht⟩ := h.tb
  refine ⟨by rw [cell_of_row _ _ 0 _ 64 _ ht]; rfl, by rw [cell_of_row _ _ 2 _ 64 _ ht]; rfl, ?_, ?_, (Array.getElem?_eq_some_iff.1 ht).1⟩
  · unfold World.frozen?; simp [ht]
  · unfold World.frozen?; simp [ht]

theorem TS.add {w w2 : World} {F T b : Nat} {s : Int} {M : List Ent} {k : Ky} (h : TS w F T s (some b) M) (hk : k.length ≤ 1048576) (hF : F ≤ w.heap.size)
    (hm : MP w2 (some b) (vw M ++ [(k, w.heap.size)])) (hg : (w.alloc (.cells #[.int .i64 0, .slice none 0 0] 78)).grownBy w2 (some b)) :
    TS w2 F T s (some b) (M ++ [(k, w.heap.size, .slice none 0 0, [])]) ∧ Fr F XC w w2 := by
  obtain ⟨es, cl, hb⟩ := h.mp.isMap
  have hlt : b < w.heap.size := (Array.getElem?_eq_some_iff.1 hb).1
  have hfr : Fr F XC w w2 := (Fr.of_below ((Below.refl w.heap.size w).alloc (Nat.le_refl _) (.cells #[.int .i64 0, .slice none 0 0] 78)) hF).trans
    (Fr.grown hg (by simp; omega) (h.lowM b rfl) (fun o ho => by
      rw [Below.heap_alloc _ _ _ hlt, hb] at ho
      cases ho; exact .inr ⟨_, _, rfl⟩))
  refine ⟨?_, hfr⟩
  obtain ⟨q, e, o, u, d, c, ht⟩ := h.tb
  have hother : ∀ (g : Nat) (o' : Obj), w.heap[g]? = some o' → ¬ isM o' → w2.heap[g]? = some o' := by
    intro g o' ho hno
    have hgl := (Array.getElem?_eq_some_iff.1 ho).1
    rw [hg.block g (by simp; omega) (by intro e; cases e; rw [hb] at ho; cases ho; exact hno ⟨_, _, rfl⟩), Below.heap_alloc _ _ _ hgl]
    exact ho
  refine ⟨h.lowT, ⟨q, e, o, u, d, c, hother _ _ ht (by rintro ⟨_, _, h⟩; cases h)⟩, h.lowM, by simpa [vw] using hm, ?_, ?_⟩
  · intro x hx
    rcases List.mem_append.1 hx with hx | hx
    · have hx' := h.ents x hx
      refine hx'.keep (by rw [hx'.cnt]; exact hother _ _ hx'.cnt (by rintro ⟨_, _, h⟩; cases h)) ?_
      intro g hgg
      obtain ⟨C, hC⟩ := hx'.rowT hgg
      rw [hC]; exact hother _ _ hC (by rintro ⟨_, _, h⟩; cases h)
    · simp at hx
      subst hx
      refine ⟨hF, ?_, ⟨rfl, .inl ⟨rfl, rfl⟩⟩, hk⟩
      show w2.heap[w.heap.size]? = _
      rw [hg.block w.heap.size (by simp) (by simp; omega)]
      exact heap_alloc_new w _
  · rw [List.pairwise_append]
    refine ⟨h.apart, by simp, ?_⟩
    intro x hx y hy
    simp at hy
    subst hy
    have hx' := h.ents x hx
    have := (Array.getElem?_eq_some_iff.1 hx'.cnt).1
    refine ⟨by show x.2.1 ≠ w.heap.size; omega, ?_⟩
    cases hx2 : x.2.2.1.ownBlock with
    | none => exact .inl rfl
    | some g => exact .inr (by simp [Value.ownBlock])

set_option maxHeartbeats 400000 in
set_option maxRecDepth 20000 in
theorem count_some (w : World) (F T b : Nat) (s : Int) (M : List Ent) (k : Ky) (h : TS w F T s (some b) M) (hk : k.length ≤ 1048576) (hF : F ≤ w.heap.size) (hM : M.length ≤ 1000000) :
    Calls Try.prog 36 #[ptr T, .string ⟨k.toArray⟩] w fun e w' => CntR F T s M k w e w' := by
  obtain ⟨-, c2, -, f2, hTl⟩ := h.cells
  have hl := h.mp.look k hk
  obtain ⟨ks, hks⟩ : ∃ ks : ByteArray, ks = ⟨k.toArray⟩ := ⟨_, rfl⟩
  have heq := fun w' => run_eql_map_nil (P := Try.prog) w' 60 9 71 (some b) Try.underlying60
  cases hv : (vw M).lookup k with
  | some c =>
    have HR : Hid (CntR F T s M k w (.returned (ptr c)) w) := ⟨_, M, c, rfl, h, hv, .inl ⟨rfl, by rw [hv]; rfl⟩, Fr.refl _ _ _⟩
    rw [hv] at hl
    rw [← hks] at hl ⊢
    simp only [ptrV] at hl
    clear h hv hks
    unfold ptr
    go_enter Try.func36, Try.ntmps36
    go_wp2
    go_ret
    exact HR.out
  | none =>
    have hfacts : Hid (MP (w.alloc (.cells #[.int .i64 0, .slice none 0 0] 78)) (some b) (vw M)) := h.mp.keep (by
      intro b' e; cases e
      obtain ⟨es, cl, hb⟩ := h.mp.isMap
      exact Below.heap_alloc _ _ _ (Array.getElem?_eq_some_iff.1 hb).1)
    obtain ⟨w2, hst, hm2, hg2⟩ := hfacts.out.store k hk w.heap.size hv (by simpa [vw] using hM)
    have hadd := h.add hk hF hm2 hg2
    have c3 : (w.alloc (.cells #[.int .i64 0, .slice none 0 0] 78)).cell? ⟨T, 2, none⟩ = some (.map (some b)) :=
      (((Below.refl w.heap.size w).alloc (Nat.le_refl _) (.cells #[.int .i64 0, .slice none 0 0] 78)).cell (p := ⟨T, 2, none⟩) hTl).trans c2
    have HR : Hid (CntR F T s M k w (.returned (ptr w.heap.size)) w2) := ⟨_, _, w.heap.size, rfl, hadd.1, by
      have : vw (M ++ [(k, w.heap.size, .slice none 0 0, [])]) = vw M ++ [(k, w.heap.size)] := by simp [vw]
      rw [this, lookup_app, hv]; simp, .inr ⟨hv, rfl⟩, hadd.2⟩
    rw [hv] at hl
    rw [← hks] at hl hst ⊢
    simp only [ptrV] at hl
    clear h hv hks hm2 hg2 hadd hfacts
    unfold ptr
    go_enter Try.func36, Try.ntmps36
    go_wp2
    go_ret
    exact HR.out

theorem TS.newMap {w : World} {F T : Nat} {s : Int} (h : TS w F T s none []) (hF : F ≤ w.heap.size) :
    TS ((w.alloc (.map #[] 0)).setCell ⟨T, 2, none⟩ (.map (some w.heap.size))) F T s (some w.heap.size) [] ∧ Fr F XC w ((w.alloc (.map #[] 0)).setCell ⟨T, 2, none⟩ (.map (some w.heap.size))) := by
  obtain ⟨q, e, o, u, d, c, ht⟩ := h.tb
  have hlt := (Array.getElem?_eq_some_iff.1 ht).1
  have ht2 : (w.alloc (.map #[] 0)).heap[T]? = some (.cells #[.int .i32 s, q, .map none, e, o, u, d, c] 64 (0, 0)) := (Below.heap_alloc _ _ _ hlt).trans ht
  refine ⟨⟨h.lowT, ⟨q, e, o, u, d, c, ?_⟩, fun b hb => by cases hb; exact hF, ?_, by simp, by simp⟩, ?_⟩
  · simp [World.setCell, Array.getElem?_modify, ht2]
  · refine (MP.made w).keep ?_
    intro b hb; cases hb
    exact Below.heap_setCell _ _ _ _ (by show w.heap.size ≠ T; omega)
  · exact (Fr.of_below ((Below.refl w.heap.size w).alloc (Nat.le_refl _) (.map #[] 0)) hF).trans (Fr.set _ T 2 _ h.lowT fun o ho => by
      rw [ht2] at ho; cases ho; exact .inl ⟨_, _, rfl⟩)

set_option maxHeartbeats 400000 in
set_option maxRecDepth 20000 in
theorem count_none (w : World) (F T : Nat) (s : Int) (k : Ky) (h : TS w F T s none []) (hk : k.length ≤ 1048576) (hF : F ≤ w.heap.size) :
    Calls Try.prog 36 #[ptr T, .string ⟨k.toArray⟩] w fun e w' => CntR F T s [] k w e w' := by
  obtain ⟨-, c2, -, f2, hTl⟩ := h.cells
  obtain ⟨h1, hfr⟩ := h.newMap hF
  have hw1s : ((w.alloc (.map #[] 0)).setCell ⟨T, 2, none⟩ (.map (some w.heap.size))).heap.size = w.heap.size + 1 := by simp
  obtain ⟨-, d2, -, -, hTl1⟩ := h1.cells
  have hl := h1.mp.look k hk
  obtain ⟨ks, hks⟩ : ∃ ks : ByteArray, ks = ⟨k.toArray⟩ := ⟨_, rfl⟩
  have heq := fun w' => run_eql_map_nil (P := Try.prog) w' 60 9 71 none Try.underlying60
  have hmm := @run_makeMap Try.prog
  have e2 : (w.alloc (.map #[] 0)).cell? ⟨T, 2, none⟩ = some (.map none) := (((Below.refl w.heap.size w).alloc (Nat.le_refl _) (.map #[] 0)).cell (p := ⟨T, 2, none⟩) hTl).trans c2
  have g2 : (w.alloc (.map #[] 0)).frozen? ⟨T, 2, none⟩ = false := (((Below.refl w.heap.size w).alloc (Nat.le_refl _) (.map #[] 0)).frozen (p := ⟨T, 2, none⟩) hTl).trans f2
  have hfacts : Hid (MP (((w.alloc (.map #[] 0)).setCell ⟨T, 2, none⟩ (.map (some w.heap.size))).alloc (.cells #[.int .i64 0, .slice none 0 0] 78)) (some w.heap.size) (vw [])) := h1.mp.keep (by
    intro b' e; cases e
    obtain ⟨es, cl, hb⟩ := h1.mp.isMap
    exact Below.heap_alloc _ _ _ (Array.getElem?_eq_some_iff.1 hb).1)
  obtain ⟨w2, hst, hm2, hg2⟩ := hfacts.out.store k hk (w.heap.size + 1) rfl (by simp [vw])
  have hadd := h1.add hk (by rw [hw1s]; omega) (w2 := w2) (by rw [hw1s]; exact hm2) hg2
  have HR : Hid (CntR F T s [] k w (.returned (ptr (w.heap.size + 1))) w2) := ⟨_, _, w.heap.size + 1, rfl, by have := hadd.1; rw [hw1s] at this; exact this, by simp [vw], .inr ⟨rfl, rfl⟩, hfr.trans hadd.2⟩
  have d3 : (((w.alloc (.map #[] 0)).setCell ⟨T, 2, none⟩ (.map (some w.heap.size))).alloc (.cells #[.int .i64 0, .slice none 0 0] 78)).cell? ⟨T, 2, none⟩ = some (.map (some w.heap.size)) :=
    (((Below.refl _ _).alloc (Nat.le_refl _) (.cells #[.int .i64 0, .slice none 0 0] 78)).cell (p := ⟨T, 2, none⟩) hTl1).trans d2
  have hl' : (Instr.lookup 60 (.map (some w.heap.size)) (.string ks) false).run Try.prog ((w.alloc (.map #[] 0)).setCell ⟨T, 2, none⟩ (.map (some w.heap.size))) = .ok (.pointer none) ((w.alloc (.map #[] 0)).setCell ⟨T, 2, none⟩ (.map (some w.heap.size))) := by rw [hks]; exact hl
  rw [← hks] at hst ⊢
  have hcomm : (w.alloc (.map #[] 0)).setCell ⟨T, 2, none⟩ (.map (some w.heap.size)) = (w.setCell ⟨T, 2, none⟩ (.map (some w.heap.size))).alloc (.map #[] 0) := by simp [go_sem, hTl]
  rw [hcomm] at hl' d2 d3 hst
  clear h h1 hfr hl hks hm2 hg2 hadd hfacts hcomm
  unfold ptr
  go_enter Try.func36, Try.ntmps36
  go_wp2
  go_ret
  exact HR.out

theorem count_any (w : World) (F T : Nat) (s : Int) (mb : Option Nat) (M : List Ent) (k : Ky) (h : TS w F T s mb M) (hk : k.length ≤ 1048576) (hF : F ≤ w.heap.size) (hM : M.length ≤ 1000000) :
    Calls Try.prog 36 #[ptr T, .string ⟨k.toArray⟩] w fun e w' => CntR F T s M k w e w' := by
  cases mb with
  | none =>
    have : M = [] := by
      have := h.mp
      simpa [MP, vw] using this
    subst this
    exact count_none w F T s k h hk hF
  | some b => exact count_some w F T b s M k h hk hF hM
end Go.Proofs.Qxb6616195a
