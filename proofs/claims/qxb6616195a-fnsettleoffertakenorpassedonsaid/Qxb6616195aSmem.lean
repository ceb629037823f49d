/- settle: what its parts do to memory. -/
import Derived.Test.Qxb6616195aOffer
namespace Go.Proofs.Qxb6616195a
open Go.RowKit Go.Conc

theorem TW.lock {w : World} {F T : Nat} {s : Int} {M : List Ent} {W : Nat} {p : WS} {O : Nat} {q : WS} (h : TW w F T s M W p O q) (s' : Int) :
    TW (w.setCell ⟨T, 0, none⟩ (.int .i32 s')) F T s' M W p O q ∧ Fr F XA w (w.setCell ⟨T, 0, none⟩ (.int .i32 s')) := by
  obtain ⟨mb, ht⟩ := h.ts
  obtain ⟨x, e, o, u, d, c, hT⟩ := ht.tb
  have hf : Fr F (fun b o => b = T ∧ isT 64 o) w (w.setCell ⟨T, 0, none⟩ (.int .i32 s')) := Fr.set w T 0 _ ht.lowT fun o ho => by
    rw [hT] at ho; cases ho; exact ⟨rfl, _, _, rfl⟩
  refine ⟨⟨by simpa using h.size, ⟨mb, ?_⟩, h.tp.fr hf fun b o hx => ⟨isT_ne hx.2 (by decide), isT_nC hx.2, isT_ne hx.2 (by decide)⟩, h.tq.fr hf fun b o hx => ⟨isT_ne hx.2 (by decide), isT_nC hx.2, isT_ne hx.2 (by decide)⟩, h.ne, h.nc⟩, hf.mono fun b o hx => .inl hx.2⟩
  refine ⟨ht.lowT, ⟨x, e, o, u, d, c, by simp [World.setCell, Array.getElem?_modify, hT]⟩, ht.lowM, ?_, ?_, ht.apart⟩
  · refine ht.mp.keep ?_
    rintro b rfl
    obtain ⟨es, cl, hb⟩ := ht.mp.isMap
    rw [hb]; exact hf.keep _ _ hb fun hx => isT_nM hx.2 ⟨_, _, rfl⟩
  · intro y hy
    have hy' := ht.ents y hy
    refine hy'.keep ?_ ?_
    · rw [hy'.cnt]; exact hf.keep _ _ hy'.cnt fun hx => isT_ne hx.2 (by decide) ⟨_, _, rfl⟩
    · intro g hg
      obtain ⟨C, hC⟩ := hy'.rowT hg
      rw [hC]; exact hf.keep _ _ hC fun hx => isT_ne hx.2 (by decide) ⟨_, _, rfl⟩

def cnf (ks : List Ky) (f : Ky → Option (List Nat)) (k : Ky) : Option (List Nat) := if k ∈ ks then some ((f k).getD []) else f k
theorem cnf_succ {ks : List Ky} {f : Ky → Option (List Nat)} {i : Nat} {key : Ky} (hi : ks[i]? = some key) (k : Ky) : cnf (ks.take (i + 1)) f k = if k = key then some ((cnf (ks.take i) f key).getD []) else cnf (ks.take i) f k := by
  obtain ⟨hlt, he⟩ := List.getElem?_eq_some_iff.1 hi
  unfold cnf
  rw [List.take_succ_eq_append_getElem hlt, he]
  by_cases h : k = key
  · subst h
    by_cases h2 : k ∈ ks.take i <;> simp [h2]
  · simp [h]
/-- Where the loop of settle's stands. -/
structure SL (w1 wr : World) (F T : Nat) (K n : Nat) (ks : List Ky) (i N : Nat) (f : Ky → Option (List Nat)) (M : List Ent) : Prop where
  size : F ≤ wr.heap.size
  ts : ∃ mb, TS wr F T 1 mb M
  lv : ∀ k, LV M k = f k
  fr : Fr F XC w1 wr
  fill : ∃ xs, wr.ownsRow F 9 1 (.slice (some ⟨K, 0, none⟩) n n) n xs ∧ ∀ t, t < i → xs[t]? = (ks.map sv)[t]?
  lowK : w1.heap.size ≤ K
  len : M.length ≤ N

section
variable {w1 wr wr' : World} {F T K n i N : Nat} {ks : List Ky} {f : Ky → Option (List Nat)} {M : List Ent}
theorem SL.block (h : SL w1 wr F T K n ks i N f M) : ∃ C, wr.heap[K]? = some (.cells C 9 (0, 0)) ∧ F ≤ K := by
  obtain ⟨xs, h1, _⟩ := h.fill
  obtain ⟨cur, g1, _, _, _, hb, _⟩ := owns_block h1
  exact ⟨cur, g1, hb⟩
theorem SL.below (h : SL w1 wr F T K n ks i N f M) (k : Below wr.heap.size wr wr') : SL w1 wr' F T K n ks i N f M := by
  have f0 : Fr F (fun _ _ => False) wr wr' := Fr.of_below k h.size
  obtain ⟨mb, ht⟩ := h.ts
  obtain ⟨C, hC, _⟩ := h.block
  obtain ⟨xs, h1, h2⟩ := h.fill
  exact ⟨Nat.le_trans h.size k.size, ⟨mb, ht.fr f0 fun _ _ h => h.elim⟩, h.lv, h.fr.trans (f0.mono fun _ _ h => h.elim), ⟨xs, owns_heap h1 (fun g hg => by
    simp [Value.ownBlock] at hg; subst hg; exact k.block _ (Array.getElem?_eq_some_iff.1 hC).1), h2⟩, h.lowK, h.len⟩
theorem SL.cell (h : SL w1 wr F T K n ks i N f M) {j : Nat} (hj : j < n) : (∃ x, wr.cell? ⟨K, j, none⟩ = some x) ∧ wr.frozen? ⟨K, j, none⟩ = false := by
  obtain ⟨xs, h1, _⟩ := h.fill
  have l1 := h1.1
  refine ⟨⟨xs[j]'(by omega), ?_⟩, h1.frozenAt _⟩
  rw [h1.cellAt j (by omega)]; exact List.getElem?_eq_getElem _
theorem SL.store (h : SL w1 wr F T K n ks i N f M) {key : Ky} (hi : ks[i]? = some key) (hn : i < n) : SL w1 (wr.setCell ⟨K, i, none⟩ (.string ⟨key.toArray⟩)) F T K n ks (i + 1) N f M := by
  obtain ⟨mb, ht⟩ := h.ts
  obtain ⟨C, hC, hFK⟩ := h.block
  obtain ⟨xs, h1, h2⟩ := h.fill
  have l1 := h1.1
  have hs : Fr F (fun _ o => isT 9 o) wr (wr.setCell ⟨K, i, none⟩ (.string ⟨key.toArray⟩)) := Fr.set wr K i _ hFK fun o ho => by
    rw [hC] at ho; cases ho; exact ⟨_, _, rfl⟩
  refine ⟨by simpa using h.size, ⟨mb, ht.fr hs fun b o hx => ⟨isT_ne hx (by decide), isT_nM hx, isT_ne hx (by decide), isT_ne hx (by decide)⟩⟩, h.lv, ?_, ⟨xs.set i (.string ⟨key.toArray⟩), (h1.stored i _).1, ?_⟩, h.lowK, h.len⟩
  · refine ⟨h.fr.os, h.fr.tape, h.fr.output, by simpa using h.fr.size, fun b hb => (hs.low b hb).trans (h.fr.low b hb), fun b o ho hx => ?_⟩
    have hb := (Array.getElem?_eq_some_iff.1 ho).1
    rw [Below.heap_setCell _ _ _ _ (by show b ≠ K; have := h.lowK; omega)]
    exact h.fr.keep b o ho hx
  · intro t ht
    rw [List.getElem?_set]
    by_cases e : i = t
    · subst e; simp [hi, sv]; omega
    · rw [if_neg e]; exact h2 t (by omega)
theorem SL.count {e : Ending} {key : Ky} (h : SL w1 wr F T K n ks (i + 1) N (cnf (ks.take i) f) M) (hi : ks[i]? = some key) (hc : CntR F T 1 M key wr e wr') :
    ∃ c M', e = .returned (ptr c) ∧ SL w1 wr' F T K n ks (i + 1) (N + 1) (cnf (ks.take (i + 1)) f) M' ∧ wr'.cell? ⟨c, 0, none⟩ = some (.int .i64 0) ∧ Fr F XC wr wr' := by
  obtain ⟨mb, M', c, rfl, ht, hlk, hor, hfr⟩ := hc
  obtain ⟨C, hC, hFK⟩ := h.block
  obtain ⟨xs, h1, h2⟩ := h.fill
  refine ⟨c, M', rfl, ⟨Nat.le_trans h.size hfr.size, ⟨mb, ht⟩, ?_, h.fr.trans hfr, ⟨xs, owns_heap h1 (fun g hg => by
    simp [Value.ownBlock] at hg; subst hg
    rw [hC]; exact hfr.keep _ _ hC (by rintro (⟨_, _, h⟩ | ⟨_, _, h⟩) <;> simp at h)), h2⟩, h.lowK, ?_⟩, ?_, hfr⟩
  · intro k
    rw [cnf_succ hi]
    rcases hor with ⟨rfl, h3⟩ | ⟨h3, rfl⟩
    · by_cases hk : k = key
      · subst hk
        simp only [if_true]
        rw [← h.lv]
        cases hl : LV M' k with
        | none => rw [LV_none.1 hl] at h3; cases h3
        | some l => rfl
      · simp only [hk, if_false]; exact h.lv k
    · rw [LV_app]
      by_cases hk : k = key
      · subst hk
        have h4 := LV_none.2 h3
        rw [← h.lv k, h4]; simp
      · simp [hk, h.lv]
  · rcases hor with ⟨rfl, _⟩ | ⟨_, rfl⟩
    · have := h.len; omega
    · have := h.len; simp; omega
  · obtain ⟨M1, x, M2, rfl, hx1, hx2⟩ := split_of hlk
    have hx := ht.ents x (by simp)
    rw [← hx2]
    exact hx.cells.1
theorem SL.fin (h : SL w1 wr F T K n ks i N f M) (hi : i = n) (hn : n = ks.length) : SROW wr (.slice (some ⟨K, 0, none⟩) n n) ks := by
  obtain ⟨xs, h1, h2⟩ := h.fill
  have l1 := h1.1
  have : xs = ks.map sv := by
    apply List.ext_getElem?
    intro t
    by_cases ht : t < i
    · exact h2 t ht
    · rw [List.getElem?_eq_none (by omega), List.getElem?_eq_none (by simp; omega)]
  subst this
  exact owns_srow hn h1
theorem SL.tw {W O : Nat} {p q : WS} (h : SL w1 wr F T K n ks i N f M) {M0 : List Ent} {s0 : Int} (h1 : TW w1 F T s0 M0 W p O q) : TW wr F T 1 M W p O q :=
  ⟨h.size, h.ts, h1.tp.fr h.fr fun b o hx => XA_w b o (XC_A b o hx), h1.tq.fr h.fr fun b o hx => XA_w b o (XC_A b o hx), h1.ne, h1.nc⟩
end
end Go.Proofs.Qxb6616195a
