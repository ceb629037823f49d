/- The parser's node list in memory: what its blocks hold (MEM), and what each step does to it. No walk here. -/
import Derived.Test.Qxb6616010aLeaf
namespace Go.Proofs.Qxb6616010a
open Go.RowKit

def nodeV (p : Int × Int) : Value := .int .u64 (nd p.1 p.2)
def nodeOk (p : Int × Int) : Prop := 0 ≤ p.1 ∧ p.1 < 16 ∧ 0 ≤ p.2 ∧ p.2 < 576460752303423488

/-- the parser's block -/
structure PB (w : World) (B P : Nat) (se : Int) (chv tlv : Value) (bs : Int) : Prop where
  ex : ∃ arr, w.heap[P]? = some (.cells arr 66 (0, 0)) ∧ arr.size = 18 ∧ arr[6]? = some (.int .i64 se) ∧ arr[7]? = some chv ∧ arr[8]? = some tlv ∧ arr[9]? = some (.int .i64 bs)
  le : B ≤ P

section
variable {w : World} {B P : Nat} {se bs : Int} {chv tlv : Value}
theorem PB.c6 (h : PB w B P se chv tlv bs) : w.cell? ⟨P, 6, none⟩ = some (.int .i64 se) := by
  obtain ⟨arr, hh, _, h6, _⟩ := h.ex; rw [cell_of_row w P 6 arr 66 (0, 0) hh]; exact h6
theorem PB.c7 (h : PB w B P se chv tlv bs) : w.cell? ⟨P, 7, none⟩ = some chv := by
  obtain ⟨arr, hh, _, _, h7, _⟩ := h.ex; rw [cell_of_row w P 7 arr 66 (0, 0) hh]; exact h7
theorem PB.c8 (h : PB w B P se chv tlv bs) : w.cell? ⟨P, 8, none⟩ = some tlv := by
  obtain ⟨arr, hh, _, _, _, h8, _⟩ := h.ex; rw [cell_of_row w P 8 arr 66 (0, 0) hh]; exact h8
theorem PB.c9 (h : PB w B P se chv tlv bs) : w.cell? ⟨P, 9, none⟩ = some (.int .i64 bs) := by
  obtain ⟨arr, hh, _, _, _, _, h9⟩ := h.ex; rw [cell_of_row w P 9 arr 66 (0, 0) hh]; exact h9
theorem PB.fz (h : PB w B P se chv tlv bs) (o : Nat) : w.frozen? ⟨P, o, none⟩ = false := by
  obtain ⟨arr, hh, _⟩ := h.ex; exact frozen_of_row w P o arr 66 hh
theorem PB.lt (h : PB w B P se chv tlv bs) : P < w.heap.size := by
  obtain ⟨arr, hh, _⟩ := h.ex; exact lt_of_block hh
theorem PB.kept {w' : World} (h : PB w B P se chv tlv bs) (hk : w'.heap[P]? = w.heap[P]?) : PB w' B P se chv tlv bs := by
  obtain ⟨arr, hh, r⟩ := h.ex; exact ⟨⟨arr, by rw [hk]; exact hh, r⟩, h.le⟩
theorem PB.set6 (h : PB w B P se chv tlv bs) (x : Int) : PB (w.setCell ⟨P, 6, none⟩ (.int .i64 x)) B P x chv tlv bs := by
  obtain ⟨arr, hh, hs, h6, h7, h8, h9⟩ := h.ex
  exact ⟨⟨_, heap_setCell_same w P 6 arr 66 _ hh, by simpa using hs, by simp [hs], by simp [h7], by simp [h8], by simp [h9]⟩, h.le⟩
theorem PB.set7 (h : PB w B P se chv tlv bs) (x : Value) : PB (w.setCell ⟨P, 7, none⟩ x) B P se x tlv bs := by
  obtain ⟨arr, hh, hs, h6, h7, h8, h9⟩ := h.ex
  exact ⟨⟨_, heap_setCell_same w P 7 arr 66 _ hh, by simpa using hs, by simp [h6], by simp [hs], by simp [h8], by simp [h9]⟩, h.le⟩
theorem PB.set8 (h : PB w B P se chv tlv bs) (x : Value) : PB (w.setCell ⟨P, 8, none⟩ x) B P se chv x bs := by
  obtain ⟨arr, hh, hs, h6, h7, h8, h9⟩ := h.ex
  exact ⟨⟨_, heap_setCell_same w P 8 arr 66 _ hh, by simpa using hs, by simp [h6], by simp [h7], by simp [hs], by simp [h9]⟩, h.le⟩
theorem PB.set9 (h : PB w B P se chv tlv bs) (x : Int) : PB (w.setCell ⟨P, 9, none⟩ (.int .i64 x)) B P se chv tlv x := by
  obtain ⟨arr, hh, hs, h6, h7, h8, h9⟩ := h.ex
  exact ⟨⟨_, heap_setCell_same w P 9 arr 66 _ hh, by simpa using hs, by simp [h6], by simp [h7], by simp [h8], by simp [hs]⟩, h.le⟩
end

section
variable {w w' : World} {base : Nat} {e : TypeId} {size : Nat} {v : Value} {n : Nat} {xs : List Value}
theorem owns_heap (h : w.ownsRow base e size v n xs) (hg : ∀ g, v.ownBlock = some g → w'.heap[g]? = w.heap[g]?) : w'.ownsRow base e size v n xs := by
  refine ⟨h.1, ?_⟩
  rcases h.2 with hn | ⟨g, cap, cur, rfl, hb, hgg, rest⟩
  · exact .inl hn
  · exact .inr ⟨g, cap, cur, rfl, hb, by rw [hg g rfl]; exact hgg, rest⟩
theorem owns_block {g m cap : Nat} (h : w.ownsRow base e size (.slice (some ⟨g, 0, none⟩) m cap) n xs) : ∃ cur, w.heap[g]? = some (.cells cur e (0, 0)) ∧ cur.size = cap * size ∧ m = n ∧ n ≤ cap ∧ base ≤ g ∧ cur.toList.take (n * size) = xs := by
  rcases h.2 with ⟨h', _⟩ | ⟨g', cap', cur, h', hb, hg, hnc, _, hcs, htake⟩
  · simp at h'
  · simp only [Value.slice.injEq, Option.some.injEq, Addr.mk.injEq, and_true] at h'
    obtain ⟨rfl, rfl, rfl⟩ := h'
    exact ⟨cur, hg, hcs, rfl, hnc, hb, htake⟩
theorem owns_own {g : Nat} (h : w.ownsRow base e size v n xs) (hg : v.ownBlock = some g) : ∃ cur, w.heap[g]? = some (.cells cur e (0, 0)) := by
  rcases h.2 with ⟨rfl, _⟩ | ⟨g', cap', cur, rfl, hb, hgg, _⟩
  · simp [Value.ownBlock] at hg
  · simp [Value.ownBlock] at hg; subst hg; exact ⟨cur, hgg⟩
theorem type_ne {w : World} {a b : Nat} {x y : Array Value} {s t : TypeId} (ha : w.heap[a]? = some (.cells x s (0, 0))) (hb : w.heap[b]? = some (.cells y t (0, 0))) (hst : s ≠ t) : a ≠ b := by
  rintro rfl; rw [ha] at hb; simp at hb; exact hst hb.2
end

def cp (k l j : Nat) : Nat := if j + 1 < k then 16384 else l
def ck (ns : List (Int × Int)) (j : Nat) : List (Int × Int) := (ns.drop (16384 * j)).take 16384

structure MEM (w : World) (B P : Nat) (ns : List (Int × Int)) (se : Int) (k l : Nat) (bk : Nat → Nat) (chv tlv : Value) : Prop where
  pb : PB w B P se chv tlv ((16384 * (k - 1) : Nat) : Int)
  ch : w.ownsRow B 52 1 chv k ((List.range k).map fun j => .slice (some ⟨bk j, 0, none⟩) (cp k l j) (cp k l j))
  row : ∀ j, j < k → w.ownsRow B 74 1 (.slice (some ⟨bk j, 0, none⟩) (ck ns j).length (cp k l j)) (ck ns j).length ((ck ns j).map nodeV)
  inj : ∀ i j, i < k → j < k → bk i = bk j → i = j
  emp : k = 0 → ns = [] ∧ l = 0 ∧ tlv = .slice none 0 0 ∧ chv = .slice none 0 0
  non : 0 < k → tlv = .slice (some ⟨bk (k - 1), 0, none⟩) (ns.length - 16384 * (k - 1)) l ∧ 16384 * (k - 1) ≤ ns.length ∧ ns.length ≤ 16384 * (k - 1) + l ∧ 64 ≤ l ∧ l ≤ 16384
  ok : ∀ p ∈ ns, nodeOk p
  big : 1 < k → l = 16384

theorem ck_len (ns : List (Int × Int)) (j : Nat) : (ck ns j).length = min 16384 (ns.length - 16384 * j) := by simp [ck]
theorem ck_get (ns : List (Int × Int)) (i : Nat) : (ck ns (i / 16384))[i % 16384]? = ns[i]? := by
  unfold ck
  rw [List.getElem?_take, if_pos (Nat.mod_lt _ (by omega)), List.getElem?_drop]
  congr 1; omega
theorem ck_full (ns : List (Int × Int)) (p : Int × Int) (j : Nat) (h : 16384 * (j + 1) ≤ ns.length) : ck (ns ++ [p]) j = ck ns j := by
  unfold ck
  rw [List.drop_append_of_le_length (by omega), List.take_append_of_le_length (by simp; omega)]
theorem ck_last (ns : List (Int × Int)) (p : Int × Int) (j : Nat) (h : 16384 * j ≤ ns.length) (h2 : ns.length < 16384 * (j + 1)) : ck (ns ++ [p]) j = ck ns j ++ [p] := by
  unfold ck
  rw [List.drop_append_of_le_length (by omega), List.take_of_length_le (by simp; omega), List.take_of_length_le (by simp; omega)]
theorem ck_set (ns : List (Int × Int)) (p : Int × Int) (i j : Nat) : ck (ns.set i p) j = if j = i / 16384 then (ck ns j).set (i % 16384) p else ck ns j := by
  unfold ck
  apply List.ext_getElem?
  intro t
  split
  · next h =>
    subst h
    rw [List.getElem?_take, List.getElem?_drop, List.getElem?_set, List.getElem?_set, List.getElem?_take, List.getElem?_drop]
    simp only [List.length_take, List.length_drop]
    by_cases ht : t < 16384
    · by_cases hit : i = 16384 * (i / 16384) + t
      · have : i % 16384 = t := by omega
        simp only [ht, if_true, if_pos hit, this]
        by_cases hl : i < ns.length
        · rw [if_pos hl, if_pos (by omega)]
        · rw [if_neg hl, if_neg (by omega)]
      · have : ¬ i % 16384 = t := by omega
        simp [ht, hit, this]
    · have : ¬ i % 16384 = t := by omega
      simp [ht, this]
  · next h =>
    rw [List.getElem?_take, List.getElem?_drop, List.getElem?_set, List.getElem?_take, List.getElem?_drop]
    by_cases ht : t < 16384
    · rw [if_neg (by omega : ¬ i = 16384 * j + t)]
    · simp [ht]

section
variable {w : World} {B P : Nat} {ns : List (Int × Int)} {se : Int} {k l : Nat} {bk : Nat → Nat} {chv tlv : Value}

theorem MEM.chP (h : MEM w B P ns se k l bk chv tlv) : chv.ownBlock ≠ some P := by
  intro e
  obtain ⟨cur, hc⟩ := owns_own h.ch e
  obtain ⟨arr, hp, _⟩ := h.pb.ex
  exact type_ne hc hp (by decide) rfl
theorem MEM.bkP (h : MEM w B P ns se k l bk chv tlv) {j : Nat} (hj : j < k) : bk j ≠ P := by
  obtain ⟨cur, hc, _⟩ := owns_block (h.row j hj)
  obtain ⟨arr, hp, _⟩ := h.pb.ex
  exact type_ne hc hp (by decide)
theorem MEM.bkC (h : MEM w B P ns se k l bk chv tlv) {j : Nat} (hj : j < k) : chv.ownBlock ≠ some (bk j) := by
  intro e
  obtain ⟨cur, hc, _⟩ := owns_block (h.row j hj)
  obtain ⟨arr, hp⟩ := owns_own h.ch e
  exact type_ne hc hp (by decide) rfl

/-- what does not touch the parser's blocks leaves the list as it was -/
theorem MEM.same {w' : World} (h : MEM w B P ns se k l bk chv tlv) (hs : ∀ b, b < w.heap.size → w'.heap[b]? = w.heap[b]?) : MEM w' B P ns se k l bk chv tlv := by
  refine ⟨h.pb.kept (hs P h.pb.lt), owns_heap h.ch (fun g hg => hs g ?_), fun j hj => owns_heap (h.row j hj) (fun g hg => hs g ?_), h.inj, h.emp, h.non, h.ok, h.big⟩
  · exact (h.ch.lt g hg).2
  · exact ((h.row j hj).lt g hg).2
theorem MEM.below {w' : World} {B' : Nat} (h : MEM w B P ns se k l bk chv tlv) (hB : w.heap.size ≤ B') (hb : Below B' w w') : MEM w' B P ns se k l bk chv tlv :=
  h.same fun b hb' => hb.block b (by omega)
theorem MEM.drewN (h : MEM w B P ns se k l bk chv tlv) (n : Nat) : MEM (w.drewN n) B P ns se k l bk chv tlv := h.same fun _ _ => rfl
theorem MEM.alloc (h : MEM w B P ns se k l bk chv tlv) (o : Obj) : MEM (w.alloc o) B P ns se k l bk chv tlv := h.same fun b hb => Below.heap_alloc w o b hb

/-- shortEnd is stored -/
theorem MEM.setEnd (h : MEM w B P ns se k l bk chv tlv) (x : Int) : MEM (w.setCell ⟨P, 6, none⟩ (.int .i64 x)) B P ns x k l bk chv tlv := by
  refine ⟨h.pb.set6 x, owns_heap h.ch (fun g hg => heap_setCell_other w _ g _ ?_), fun j hj => owns_heap (h.row j hj) (fun g hg => heap_setCell_other w _ g _ ?_), h.inj, h.emp, h.non, h.ok, h.big⟩
  · rintro rfl; exact h.chP hg
  · simp [Value.ownBlock] at hg; subst hg; exact h.bkP hj

/-- node i is stored -/
theorem MEM.setNode (h : MEM w B P ns se k l bk chv tlv) (i : Nat) (hi : i < ns.length) (p : Int × Int) (hp : nodeOk p) :
    MEM (w.setCell ⟨bk (i / 16384), i % 16384, none⟩ (nodeV p)) B P (ns.set i p) se k l bk chv tlv := by
  have hk : 0 < k := by
    rcases Nat.eq_zero_or_pos k with e | e
    · have := (h.emp e).1; subst this; simp at hi
    · exact e
  have hn := h.non hk
  have hj : i / 16384 < k := by omega
  refine ⟨h.pb.kept (heap_setCell_other w _ P _ (h.bkP hj).symm), owns_heap h.ch (fun g hg => heap_setCell_other w _ g _ ?_), fun j hj' => ?_, h.inj, fun e => absurd e (by omega), fun _ => by simpa using hn, ?_, h.big⟩
  · rintro rfl; exact h.bkC hj hg
  · rw [ck_set]
    by_cases e : j = i / 16384
    · subst e
      rw [if_pos rfl]
      have := ((h.row (i / 16384) hj).stored (i % 16384) (nodeV p)).1
      simpa [List.map_set] using this
    · rw [if_neg e]
      refine owns_heap (h.row j hj') (fun g hg => heap_setCell_other w _ g _ ?_)
      simp [Value.ownBlock] at hg; subst hg
      intro e'; exact e (h.inj _ _ hj' hj e')
  · intro q hq
    rcases List.mem_or_eq_of_mem_set hq with h1 | h1
    · exact h.ok q h1
    · subst h1; exact hp

/-- the cell in which node i lies -/
theorem MEM.node (h : MEM w B P ns se k l bk chv tlv) (i : Nat) (hi : i < ns.length) : w.cell? ⟨bk (i / 16384), i % 16384, none⟩ = some (nodeV ns[i]) ∧ w.frozen? ⟨bk (i / 16384), i % 16384, none⟩ = false ∧ i / 16384 < k ∧ i % 16384 < cp k l (i / 16384) := by
  have hk : 0 < k := by
    rcases Nat.eq_zero_or_pos k with e | e
    · have := (h.emp e).1; subst this; simp at hi
    · exact e
  have hn := h.non hk
  have hj : i / 16384 < k := by omega
  have hr := h.row _ hj
  refine ⟨?_, hr.frozenAt _, hj, ?_⟩
  · rw [hr.cellAt _ (by rw [ck_len]; omega), List.getElem?_map, ck_get]
    simp [hi]
  · unfold cp; split <;> omega

/-- the chunk's slice -/
theorem MEM.chunk (h : MEM w B P ns se k l bk chv tlv) (hk : 0 < k) : ∃ C cc, chv = .slice (some ⟨C, 0, none⟩) k cc ∧ C < w.heap.size ∧ C ≠ P ∧ B ≤ C ∧ ∀ j, j < k → w.cell? ⟨C, j, none⟩ = some (.slice (some ⟨bk j, 0, none⟩) (cp k l j) (cp k l j)) := by
  rcases h.ch.2 with ⟨_, h0⟩ | ⟨C, cc, cur, hv, hb, hg, hkc, _, hcs, htake⟩
  · omega
  · refine ⟨C, cc, hv, lt_of_block hg, ?_, hb, fun j hj => ?_⟩
    · rintro rfl; exact h.chP (by rw [hv]; rfl)
    · have := h.ch
      rw [hv] at this
      rw [this.cellAt j (by omega)]
      simp [hj]

/-- the step of 'add' where there is room -/
theorem MEM.push (h : MEM w B P ns se k l bk chv tlv) (hk : 0 < k) (hroom : ns.length < 16384 * (k - 1) + l) (p : Int × Int) (hp : nodeOk p) {w2 : World}
    (hown : w2.ownsRow B 74 1 (.slice (some ⟨bk (k - 1), 0, none⟩) (ns.length - 16384 * (k - 1) + 1) l) (ns.length - 16384 * (k - 1) + 1) ((ck ns (k - 1)).map nodeV ++ [nodeV p]))
    (hgrow : w.grownBy w2 (some (bk (k - 1)))) :
    MEM (w2.setCell ⟨P, 8, none⟩ (.slice (some ⟨bk (k - 1), 0, none⟩) (ns.length - 16384 * (k - 1) + 1) l)) B P (ns ++ [p]) se k l bk chv (.slice (some ⟨bk (k - 1), 0, none⟩) (ns.length - 16384 * (k - 1) + 1) l) := by
  have hn := h.non hk
  have hkk : k - 1 < k := by omega
  have hP : w2.heap[P]? = w.heap[P]? := hgrow.block P h.pb.lt (by simp; exact (h.bkP hkk).symm)
  refine ⟨(h.pb.kept hP).set8 _, owns_heap h.ch (fun g hg => ?_), fun j hj => ?_, h.inj, fun e => absurd e (by omega), fun _ => ⟨by simp; omega, by simp; omega, by simp; omega, hn.2.2.2⟩, ?_, h.big⟩
  · rw [heap_setCell_other w2 _ g _ (by rintro rfl; exact h.chP hg)]
    exact hgrow.block g (h.ch.lt g hg).2 (by intro e; simp only [Option.some.injEq] at e; subst e; exact h.bkC hkk hg)
  · by_cases e : j = k - 1
    · subst e
      rw [ck_last _ _ _ (by omega) (by omega)]
      have hl : (ck ns (k - 1) ++ [p]).length = ns.length - 16384 * (k - 1) + 1 := by simp [ck_len]; omega
      have hc : cp k l (k - 1) = l := by unfold cp; rw [if_neg (by omega)]
      rw [hl, hc, List.map_append]
      refine owns_heap hown (fun g hg => heap_setCell_other w2 _ g _ ?_)
      simp [Value.ownBlock] at hg; subst hg; exact h.bkP hkk
    · rw [ck_full _ _ _ (by omega)]
      refine owns_heap (h.row j hj) (fun g hg => ?_)
      have hlt := ((h.row j hj).lt g hg).2
      simp [Value.ownBlock] at hg; subst hg
      rw [heap_setCell_other w2 _ _ _ (h.bkP hj)]
      exact hgrow.block _ hlt (by intro e'; simp only [Option.some.injEq] at e'; exact e (h.inj _ _ hj hkk e'))
  · intro q hq
    rcases List.mem_append.1 hq with h1 | h1
    · exact h.ok q h1
    · simp at h1; subst h1; exact hp

/-- the first chunk made anew -/
theorem MEM.grow1 (h : MEM w B P ns se k l bk chv tlv) (_hk : k ≤ 1) (F L : Nat) (hL : 64 ≤ L) (hL2 : L ≤ 16384) (hn : ns.length < L) {w2 : World} {cur : Array Value} (hF : w2.heap[F]? = some (.cells cur 74 (0, 0)))
    (hcs : cur.size = L) (htake : cur.toList.take ns.length = ns.map nodeV) (hBF : B ≤ F) {v' : Value} (hch : w2.ownsRow B 52 1 v' 1 [.slice (some ⟨F, 0, none⟩) L L]) (hP : w2.heap[P]? = w.heap[P]?) :
    MEM ((w2.setCell ⟨P, 7, none⟩ v').setCell ⟨P, 8, none⟩ (.slice (some ⟨F, 0, none⟩) ns.length L)) B P ns se 1 L (fun _ => F) v' (.slice (some ⟨F, 0, none⟩) ns.length L) := by
  have hpb := h.pb.kept hP
  have e0 : (16384 * (k - 1) : Nat) = 0 := by omega
  rw [e0] at hpb
  obtain ⟨arr, hp, _⟩ := hpb.ex
  have hFP : F ≠ P := type_ne hF hp (by decide)
  have hh : ∀ g, g ≠ P → ((w2.setCell ⟨P, 7, none⟩ v').setCell ⟨P, 8, none⟩ (.slice (some ⟨F, 0, none⟩) ns.length L)).heap[g]? = w2.heap[g]? := fun g hg => by
    rw [heap_setCell_other _ _ g _ hg, heap_setCell_other _ _ g _ hg]
  refine ⟨(hpb.set7 _).set8 _, ?_, fun j hj => ?_, fun i j hi hj _ => by omega, fun e => absurd e (by omega), fun _ => ⟨rfl, by omega, by omega, hL, hL2⟩, h.ok, fun e => absurd e (by omega)⟩
  · refine owns_heap (w := w2) (by simpa [cp] using hch) (fun g hg => hh g ?_)
    rintro rfl
    obtain ⟨cur', hc'⟩ := owns_own hch hg
    exact type_ne hc' hp (by decide) rfl
  · obtain rfl : j = 0 := by omega
    have e1 : ck ns 0 = ns := by unfold ck; rw [Nat.mul_zero, List.drop_zero, List.take_of_length_le (by omega)]
    have e2 : cp 1 L 0 = L := rfl
    rw [e1, e2]
    refine ⟨by simp, .inr ⟨F, L, cur, rfl, hBF, by rw [hh F hFP]; exact hF, by omega, by unfold maxLen; omega, by omega, by simpa using htake⟩⟩

/-- a further chunk -/
theorem MEM.grow2 (h : MEM w B P ns se k 16384 bk chv tlv) (hk : 0 < k) (hn : ns.length = 16384 * k) (F : Nat) {w2 : World} {cur : Array Value} (hF : w2.heap[F]? = some (.cells cur 74 (0, 0)))
    (hcs : cur.size = 16384) (hBF : B ≤ F) (hF0 : w.heap.size ≤ F) {v' : Value} (hch : w2.ownsRow B 52 1 v' (k + 1) (((List.range k).map fun j => .slice (some ⟨bk j, 0, none⟩) (cp k 16384 j) (cp k 16384 j)) ++ [.slice (some ⟨F, 0, none⟩) 16384 16384])) (hP : w2.heap[P]? = w.heap[P]?)
    (hrest : ∀ j, j < k → w2.heap[bk j]? = w.heap[bk j]?) {w3 : World} (hw3 : ∀ g, g ≠ P → w3.heap[g]? = w2.heap[g]?) (hpb : PB w3 B P se v' (.slice (some ⟨F, 0, none⟩) 0 16384) ((16384 * k : Nat) : Int)) :
    MEM w3 B P ns se (k + 1) 16384 (fun j => if j = k then F else bk j) v' (.slice (some ⟨F, 0, none⟩) 0 16384) := by
  obtain ⟨arr, hp, _⟩ := (h.pb.kept hP).ex
  have hFP : F ≠ P := type_ne hF hp (by decide)
  have hcp : ∀ kk j, cp kk 16384 j = 16384 := fun kk j => by unfold cp; split <;> rfl
  have hbk : ∀ j, j < k → bk j < w.heap.size := fun j hj => ((h.row j hj).lt (bk j) rfl).2
  refine ⟨hpb, ?_, fun j hj => ?_, fun i j hi hj e => ?_, fun e => absurd e (by omega), fun _ => ⟨by simp [hn], by omega, by omega, by omega, by omega⟩, h.ok, fun _ => rfl⟩
  · refine owns_heap (w := w2) ?_ (fun g hg => hw3 g ?_)
    · have : (List.range (k + 1)).map (fun j => Value.slice (some ⟨if j = k then F else bk j, 0, none⟩) (cp (k + 1) 16384 j) (cp (k + 1) 16384 j)) = ((List.range k).map fun j => .slice (some ⟨bk j, 0, none⟩) (cp k 16384 j) (cp k 16384 j)) ++ [.slice (some ⟨F, 0, none⟩) 16384 16384] := by
        rw [List.range_succ, List.map_append]
        simp only [hcp, List.map_cons, List.map_nil, if_true]
        congr 1
        apply List.map_congr_left
        intro j hj
        have := List.mem_range.1 hj
        rw [if_neg (by omega)]
      rw [this]; exact hch
    · rintro rfl
      obtain ⟨cur', hc'⟩ := owns_own hch hg
      exact type_ne hc' hp (by decide) rfl
  · by_cases e : j = k
    · subst e
      simp only [if_true, hcp]
      have e1 : ck ns j = [] := by apply List.eq_nil_of_length_eq_zero; rw [ck_len]; omega
      rw [e1]
      exact ⟨by simp, .inr ⟨F, 16384, cur, rfl, hBF, by rw [hw3 F hFP]; exact hF, by simp, by decide, by omega, by simp⟩⟩
    · have hj' : j < k := by omega
      simp only [if_neg e, hcp]
      have := h.row j hj'
      rw [hcp] at this
      refine owns_heap this (fun g hg => ?_)
      simp [Value.ownBlock] at hg; subst hg
      rw [hw3 _ (h.bkP hj'), hrest j hj']
  · by_cases e1 : i = k
    · by_cases e2 : j = k
      · omega
      · simp only [if_pos e1, if_neg e2] at e
        have := hbk j (by omega)
        omega
    · by_cases e2 : j = k
      · simp only [if_neg e1, if_pos e2] at e
        have := hbk i (by omega)
        omega
      · simp only [if_neg e1, if_neg e2] at e
        exact h.inj i j (by omega) (by omega) e
end

end Go.Proofs.Qxb6616010a
