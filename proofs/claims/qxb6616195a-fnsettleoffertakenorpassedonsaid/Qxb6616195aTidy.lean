/- tidy. -/
import Derived.Test.Qxb6616195aCount
namespace Go.Proofs.Qxb6616195a
open Go.RowKit

def XM (_b : Nat) (o : Obj) : Prop := isM o
def dropK (M : List Ent) (k : Ky) : List Ent := M.filter fun x => !(x.1 == k)
theorem vw_drop (M : List Ent) (k : Ky) : vw (dropK M k) = (vw M).filter fun p => !(p.1 == k) := by
  unfold vw dropK
  rw [List.filter_map]
  rfl

theorem TS.del {w w2 : World} {F T b : Nat} {s : Int} {M : List Ent} {k : Ky} (h : TS w F T s (some b) M) (hF : F ≤ w.heap.size)
    (hm : MP w2 (some b) ((vw M).filter fun p => !(p.1 == k))) (hg : w.grownBy w2 (some b)) : TS w2 F T s (some b) (dropK M k) ∧ Fr F XM w w2 := by
  obtain ⟨es, cl, hb⟩ := h.mp.isMap
  have hfr : Fr F XM w w2 := Fr.grown hg hF (h.lowM b rfl) (fun o ho => by rw [hb] at ho; cases ho; exact ⟨_, _, rfl⟩)
  refine ⟨?_, hfr⟩
  obtain ⟨q, e, o, u, d, c, ht⟩ := h.tb
  refine ⟨h.lowT, ⟨q, e, o, u, d, c, hfr.keep _ _ ht (by rintro ⟨_, _, h⟩; cases h)⟩, h.lowM, by rw [vw_drop]; exact hm, ?_, h.apart.sublist List.filter_sublist⟩
  intro x hx
  have hx' := h.ents x (List.mem_filter.1 hx).1
  refine hx'.keep (by rw [hx'.cnt]; exact hfr.keep _ _ hx'.cnt (by rintro ⟨_, _, h⟩; cases h)) ?_
  intro g hgg
  obtain ⟨C, hC⟩ := hx'.rowT hgg
  rw [hC]; exact hfr.keep _ _ hC (by rintro ⟨_, _, h⟩; cases h)

theorem ENT.cells {w : World} {F : Nat} {x : Ent} (h : ENT w F x) : w.cell? ⟨x.2.1, 0, none⟩ = some (.int .i64 0) ∧ w.cell? ⟨x.2.1, 1, none⟩ = some x.2.2.1 ∧ w.frozen? ⟨x.2.1, 1, none⟩ = false ∧ x.2.1 < w.heap.size := by
  have ht := h.cnt
  refine ⟨by rw [cell_of_row _ _ 0 _ 78 _ ht]; rfl, by rw [cell_of_row _ _ 1 _ 78 _ ht]; rfl, ?_, (Array.getElem?_eq_some_iff.1 ht).1⟩
  unfold World.frozen?; simp [ht]
theorem ENT.slice {w : World} {F : Nat} {x : Ent} (h : ENT w F x) : ∃ a c, x.2.2.1 = .slice a x.2.2.2.length c := by
  rcases h.row.2 with ⟨e, h0⟩ | ⟨g, cap, cur, e, _⟩
  · exact ⟨none, 0, by rw [e, h0]⟩
  · exact ⟨_, _, e⟩

/-- tidy at a key that is kept -/
def TidyR (F T : Nat) (s : Int) (mb : Option Nat) (M : List Ent) (x : Ent) (w : World) (e : Ending) (w' : World) : Prop :=
  e = .returned (.tuple #[]) ∧ TS w' F T s mb (if x.2.2.2 = [] then dropK M x.1 else M) ∧ Fr F XM w w'

set_option maxHeartbeats 400000 in
set_option maxRecDepth 20000 in
theorem tidy_any (w : World) (F T b : Nat) (s : Int) (M : List Ent) (x : Ent) (h : TS w F T s (some b) M) (hx : x ∈ M) (hlk : (vw M).lookup x.1 = some x.2.1) (hF : F ≤ w.heap.size) :
    Calls Try.prog 43 #[ptr T, .string ⟨x.1.toArray⟩] w fun e w' => TidyR F T s (some b) M x w e w' := by
  have hx' := h.ents x hx
  obtain ⟨k, c, v, l⟩ := x
  simp only at hlk hx'
  obtain ⟨-, c2, -, -, -⟩ := h.cells
  obtain ⟨d0, d1, -, -⟩ := hx'.cells
  obtain ⟨va, vc, hv⟩ := hx'.slice
  simp only at d0 d1 hv
  subst hv
  have hk : k.length ≤ 1048576 := hx'.key
  have hl := h.mp.look k hk
  rw [hlk] at hl
  simp only [ptrV] at hl
  show Calls Try.prog 43 #[ptr T, .string ⟨k.toArray⟩] w _
  obtain ⟨ks, hks⟩ : ∃ ks : ByteArray, ks = ⟨k.toArray⟩ := ⟨_, rfl⟩
  cases l with
  | nil =>
    obtain ⟨w2, hst, hm2, hg2⟩ := h.mp.drop k hk c hlk 0
    have hdel := h.del hF hm2 hg2
    have HR : Hid (TidyR F T s (some b) M (k, c, .slice va 0 vc, []) w (.returned (.tuple #[])) w2) := ⟨rfl, by simpa using hdel.1, hdel.2⟩
    rw [← hks] at hl hst ⊢
    clear h hx hx' hlk hks hm2 hg2 hdel
    unfold ptr
    go_enter Try.func43, Try.ntmps43
    go_wp2
    go_end0
    exact HR.out
  | cons p l' =>
    have HR : Hid (TidyR F T s (some b) M (k, c, .slice va (p :: l').length vc, p :: l') w (.returned (.tuple #[])) w) := ⟨rfl, by simpa using h, Fr.refl _ _ _⟩
    obtain ⟨n, hn⟩ : ∃ n, n = l'.length := ⟨_, rfl⟩
    simp only [List.length_cons, ← hn] at d1
    rw [← hks] at hl ⊢
    clear h hx hx' hlk hks hn
    unfold ptr
    go_enter Try.func43, Try.ntmps43
    go_wp2
    go_end0
    exact HR.out
end Go.Proofs.Qxb6616195a
