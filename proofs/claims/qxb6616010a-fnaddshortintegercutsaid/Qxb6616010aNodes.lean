/- zzNodes and the shims. -/
import Derived.Test.Qxb6616010aScript
namespace Go.Proofs.Qxb6616010a
open Go.RowKit

theorem Try.info5 : (Try.prog.info? 5).map (fun i => (i.zero, i.size, i.bytes)) = some (some (.int .u8 0), 1, 1) := by kernel_rfl
theorem Try.info3 : (Try.prog.info? 3).map (fun i => (i.zero, i.size, i.bytes)) = some (some (.int .i64 0), 1, 8) := by kernel_rfl

theorem LST.below {w w' : World} {B P : Nat} {ns : List (Int × Int)} {se : Int} {B' : Nat} (h : LST w B P ns se) (hB : w.heap.size ≤ B') (hb : Below B' w w') : LST w' B P ns se := by
  obtain ⟨k, l, bk, chv, tlv, hm⟩ := h
  exact ⟨k, l, bk, chv, tlv, hm.below hB hb⟩

set_option maxHeartbeats 400000 in
theorem nodeKind_any (w : World) (B P : Nat) (ns : List (Int × Int)) (se k o : Int) (i : Nat) (h : LST w B P ns se) (hn : ns.length < 1000000) (hp : ns[i]? = some (k, o)) :
    Calls Try.prog 25 #[.pointer (some ⟨P, 0, none⟩), .int .i64 (i : Int)] w fun e w' => e = .returned (.int .u8 k) ∧ w' = w := by
  obtain ⟨kk, l, bk, chv, tlv, hm⟩ := h
  obtain ⟨hil, hni⟩ := List.getElem?_eq_some_iff.1 hp
  obtain ⟨hnode, -, -, -⟩ := hm.node i hil
  obtain ⟨h1, h2, h3, h4⟩ := hm.ok (k, o) (by rw [← hni]; exact List.getElem_mem hil)
  simp only at h1 h2 h3 h4
  rw [hni] at hnode
  change w.cell? _ = some (.int .u64 (nd k o)) at hnode
  have hat := at_mem w B P ns se kk l bk chv tlv hm hn i (i : Int) rfl hil
  clear hp hni
  go_enter Try.func25, Try.ntmps25
  go_wp2_with (first
    | (go_at_call 31; refine hat.mono ?_; rintro e w' ⟨rfl, rfl⟩)
    | (go_at_call 32; refine (kind_nd k o _ h1 h2 h3 h4).mono ?_; rintro e w' ⟨rfl, rfl⟩))
  go_ret
  exact ⟨rfl, rfl⟩

set_option maxHeartbeats 400000 in
theorem nodeOff_any (w : World) (B P : Nat) (ns : List (Int × Int)) (se k o : Int) (i : Nat) (h : LST w B P ns se) (hn : ns.length < 1000000) (hp : ns[i]? = some (k, o)) :
    Calls Try.prog 26 #[.pointer (some ⟨P, 0, none⟩), .int .i64 (i : Int)] w fun e w' => e = .returned (.int .i64 o) ∧ w' = w := by
  obtain ⟨kk, l, bk, chv, tlv, hm⟩ := h
  obtain ⟨hil, hni⟩ := List.getElem?_eq_some_iff.1 hp
  obtain ⟨hnode, -, -, -⟩ := hm.node i hil
  obtain ⟨h1, h2, h3, h4⟩ := hm.ok (k, o) (by rw [← hni]; exact List.getElem_mem hil)
  simp only at h1 h2 h3 h4
  rw [hni] at hnode
  change w.cell? _ = some (.int .u64 (nd k o)) at hnode
  have hat := at_mem w B P ns se kk l bk chv tlv hm hn i (i : Int) rfl hil
  clear hp hni
  go_enter Try.func26, Try.ntmps26
  go_wp2_with (first
    | (go_at_call 31; refine hat.mono ?_; rintro e w' ⟨rfl, rfl⟩)
    | (go_at_call 33; refine (off_nd k o _ h1 h2 h3 h4).mono ?_; rintro e w' ⟨rfl, rfl⟩))
  go_ret
  exact ⟨rfl, rfl⟩

set_option maxHeartbeats 400000 in
theorem nodeCount_any (w : World) (B P : Nat) (ns : List (Int × Int)) (se : Int) (h : LST w B P ns se) (hn : ns.length < 1000000) :
    Calls Try.prog 24 #[.pointer (some ⟨P, 0, none⟩)] w fun e w' => e = .returned (.int .i64 (ns.length : Int)) ∧ ∃ n, w' = w.drewN n := by
  go_enter Try.func24, Try.ntmps24
  go_wp2_with (go_at_call 30; refine (len_mem w B P ns se h hn).mono ?_; rintro e w' ⟨rfl, n, rfl⟩)
  go_ret
  exact ⟨rfl, _, rfl⟩

set_option maxHeartbeats 400000 in
theorem shortEnd_any (w : World) (B P : Nat) (ns : List (Int × Int)) (se : Int) (h : LST w B P ns se) :
    Calls Try.prog 17 #[.pointer (some ⟨P, 0, none⟩)] w fun e w' => e = .returned (.int .i64 se) ∧ w' = w := by
  have c6 := h.c6.1
  go_enter Try.func17, Try.ntmps17
  go_wp2
  go_ret
  exact ⟨rfl, rfl⟩

def kindV (p : Int × Int) : Value := .int .u8 p.1
def offV (p : Int × Int) : Value := .int .i64 p.2

def NRel (w wr : World) (K O n : Nat) (ns : List (Int × Int)) (j : Nat) : Prop := ∃ xs ys, wr.ownsRow w.heap.size 5 1 (.slice (some ⟨K, 0, none⟩) n n) n xs ∧ wr.ownsRow w.heap.size 3 1 (.slice (some ⟨O, 0, none⟩) n n) n ys ∧
  (∀ t, t < j → xs[t]? = (ns.map kindV)[t]?) ∧ (∀ t, t < j → ys[t]? = (ns.map offV)[t]?) ∧ Below w.heap.size w wr

theorem NRel.facts {w wr : World} {K O n j : Nat} {ns : List (Int × Int)} (h : NRel w wr K O n ns j) (hj : j < n) : Below w.heap.size w wr ∧ (∃ x, wr.cell? ⟨K, j, none⟩ = some x) ∧ wr.frozen? ⟨K, j, none⟩ = false ∧ (∃ y, wr.cell? ⟨O, j, none⟩ = some y) ∧ wr.frozen? ⟨O, j, none⟩ = false ∧ K ≠ O ∧ w.heap.size ≤ K := by
  obtain ⟨xs, ys, h1, h2, _, _, hb⟩ := h
  obtain ⟨c1, g1, _, _, _, hK, _⟩ := owns_block h1
  obtain ⟨c2, g2, _⟩ := owns_block h2
  have l1 := h1.1
  have l2 := h2.1
  refine ⟨hb, ⟨xs[j]'(by omega), ?_⟩, h1.frozenAt _, ⟨ys[j]'(by omega), ?_⟩, h2.frozenAt _, type_ne g1 g2 (by decide), hK⟩
  · rw [h1.cellAt j (by omega)]; exact List.getElem?_eq_getElem _
  · rw [h2.cellAt j (by omega)]; exact List.getElem?_eq_getElem _

theorem NRel.step {w wr : World} {K O n j : Nat} {ns : List (Int × Int)} {k o : Int} (h : NRel w wr K O n ns j) (hj : j < n) (hp : ns[j]? = some (k, o)) : NRel w ((wr.setCell ⟨K, j, none⟩ (.int .u8 k)).setCell ⟨O, j, none⟩ (.int .i64 o)) K O n ns (j + 1) := by
  have hf := h.facts hj
  obtain ⟨xs, ys, h1, h2, h3, h4, hb⟩ := h
  have l1 := h1.1
  have l2 := h2.1
  obtain ⟨_, _, _, _, _, hO, _⟩ := owns_block h2
  refine ⟨xs.set j (.int .u8 k), ys.set j (.int .i64 o), ?_, ?_, ?_, ?_, (hb.setCell hf.2.2.2.2.2.2 _).setCell hO _⟩
  · exact owns_heap (h1.stored j _).1 (fun g hg => heap_setCell_other _ _ g _ (by simp [Value.ownBlock] at hg; subst hg; exact hf.2.2.2.2.2.1))
  · refine (World.ownsRow.stored (owns_heap h2 (fun g hg => heap_setCell_other _ _ g _ ?_)) j _).1
    simp [Value.ownBlock] at hg; subst hg; exact hf.2.2.2.2.2.1.symm
  · intro t ht
    rw [List.getElem?_set]
    by_cases e : j = t
    · subst e; simp [hp, kindV]; omega
    · rw [if_neg e]; exact h3 t (by omega)
  · intro t ht
    rw [List.getElem?_set]
    by_cases e : j = t
    · subst e; simp [hp, offV]; omega
    · rw [if_neg e]; exact h4 t (by omega)

theorem NRel.fin {w wr : World} {K O n : Nat} {ns : List (Int × Int)} (h : NRel w wr K O n ns n) (hn : n = ns.length) : wr.ownsRow w.heap.size 5 1 (.slice (some ⟨K, 0, none⟩) n n) n (ns.map kindV) ∧ wr.ownsRow w.heap.size 3 1 (.slice (some ⟨O, 0, none⟩) n n) n (ns.map offV) ∧ Below w.heap.size w wr := by
  obtain ⟨xs, ys, h1, h2, h3, h4, hb⟩ := h
  have l1 := h1.1
  have l2 := h2.1
  have e1 : xs = ns.map kindV := by
    apply List.ext_getElem?
    intro t
    by_cases ht : t < n
    · exact h3 t ht
    · rw [List.getElem?_eq_none (by omega), List.getElem?_eq_none (by simp; omega)]
  have e2 : ys = ns.map offV := by
    apply List.ext_getElem?
    intro t
    by_cases ht : t < n
    · exact h4 t ht
    · rw [List.getElem?_eq_none (by omega), List.getElem?_eq_none (by simp; omega)]
  subst e1 e2
  exact ⟨h1, h2, hb⟩

set_option maxHeartbeats 400000 in
theorem nodes_any (w : World) (B P : Nat) (ns : List (Int × Int)) (se : Int) (n : Nat) (hnn : n = ns.length) (h : LST w B P ns se) (hn : n < 1000000) :
    Calls Try.prog 15 #[.pointer (some ⟨P, 0, none⟩)] w fun e w' => ∃ K O, e = .returned (.tuple #[.slice (some ⟨K, 0, none⟩) n n, .slice (some ⟨O, 0, none⟩) n n]) ∧
      w'.ownsRow w.heap.size 5 1 (.slice (some ⟨K, 0, none⟩) n n) n (ns.map kindV) ∧ w'.ownsRow w.heap.size 3 1 (.slice (some ⟨O, 0, none⟩) n n) n (ns.map offV) ∧ Below w.heap.size w w' := by
  obtain ⟨i5, hi, hz0, hz1, hz2⟩ := info_parts Try.info5
  obtain ⟨i3, gi, gz0, gz1, gz2⟩ := info_parts Try.info3
  have hb5 : i5.bytes * n ≤ 281474976710656 := by rw [hz2]; omega
  have hb3 : i3.bytes * n ≤ 281474976710656 := by rw [gz2]; omega
  have HC : Hid (Calls Try.prog 24 #[.pointer (some ⟨P, 0, none⟩)] w fun e w' => e = .returned (.int .i64 (n : Int)) ∧ ∃ n, w' = w.drewN n) := by
    rw [hnn]; exact nodeCount_any w B P ns se h (by omega)
  have HN : Hid (n = ns.length) := hnn
  clear hnn
  go_enter Try.func15, Try.ntmps15
  go_wp2_with (first
    | (go_at_call 24; refine HC.out.mono ?_; rintro e w' ⟨rfl, n1, rfl⟩)
    | (at_make; refine wpList_make_full _ rfl (.tmp 10) (.tmp 10) 22 rfl w.heap.size 5 i5 _ 1 Try.underlying22 hi hz0 hz1 .i64 .i64 _ _ n rfl rfl rfl rfl hb5 (by unfold maxLen; omega) (Nat.le_refl _) ?_; intro w1 hown1 hgrow1)
    | (at_make; refine wpList_make_full _ rfl (.tmp 12) (.tmp 12) 32 rfl w.heap.size 3 i3 _ 1 Try.underlying32 gi gz0 gz1 .i64 .i64 _ _ n rfl rfl rfl rfl hb3 (by unfold maxLen; omega) (by exact hgrow1.size) ?_; intro w2 hown2 hgrow2))
  have hN0 : NRel w w2 w.heap.size w1.heap.size n ns 0 := by
    refine ⟨_, _, hown1.kept hgrow2 (.inr (by simp [Value.ownBlock])), hown2, fun t ht => absurd ht (by omega), fun t ht => absurd ht (by omega), ?_⟩
    have hb1 : Below w.heap.size w w1 := ⟨hgrow1.os, hgrow1.tape, hgrow1.output, hgrow1.size, fun k hk => hgrow1.block k hk (by simp)⟩
    exact hb1.grown hgrow2 hgrow1.size (by simp)
  clear hown1 hown2 hgrow1 hgrow2
  go_loopw [7] (fun i wr => ∃ j : Nat, j ≤ n ∧ i = .int .i64 j ∧ NRel w wr w.heap.size w1.heap.size n ns j) (fun i _ => n - (intOf i).toNat)
  case atStart => exact ⟨0, by omega, rfl, hN0⟩
  case round =>
    obtain ⟨j, hj, rfl, hN⟩ := hrel
    by_cases hlt : j < n
    · obtain ⟨p, hp⟩ : ∃ p, ns[j]? = some p := ⟨ns[j]'(by have := HN.out; omega), List.getElem?_eq_getElem _⟩
      obtain ⟨k, o⟩ := p
      obtain ⟨hb, ⟨x, c1⟩, f1, ⟨y, c2⟩, f2, hKO, hK⟩ := hN.facts hlt
      have hst := hN.step hlt hp
      have hL1 := h.below (Nat.le_refl _) hb
      have hL2 := h.below (Nat.le_refl _) (hb.setCell (p := ⟨w.heap.size, j, none⟩) hK (.int .u8 k))
      have k1 := nodeKind_any wr B P ns se k o j hL1 (by have := HN.out; omega) hp
      have k2 := nodeOff_any _ B P ns se k o j hL2 (by have := HN.out; omega) hp
      clear hL1 hL2 hb hN0
      have HP : Hid (ns[j]? = some (k, o)) := hp
      clear hp
      go_wp2_with (first
        | (go_at_call 25; refine k1.mono ?_; rintro e w' ⟨rfl, rfl⟩)
        | (go_at_call 26; refine k2.mono ?_; rintro e w' ⟨rfl, rfl⟩))
      go_roundw
      case rel => exact ⟨j + 1, by omega, by go_num, hst⟩
      case measure => simp [intOf]; omega
    · obtain rfl : j = n := by omega
      have hf := hN.fin HN.out
      go_wp2
      go_ret2
      exact ⟨_, _, rfl, hf⟩
end Go.Proofs.Qxb6616010a
