/- addShortInteger's contract. -/
import Derived.Test.Qxb6616010aAdd
namespace Go.Proofs.Qxb6616010a
open Go.RowKit

theorem below_of_drewN {B n : Nat} {w w' : World} (h : Below B (w.drewN n) w') : Below B w w' := ⟨h.os, h.tape, h.output, h.size, h.block⟩
theorem kind_nd (k o : Int) (w : World) (h0 : 0 ≤ k) (h1 : k < 16) (h2 : 0 ≤ o) (h3 : o < 576460752303423488) :
    Calls Try.prog 32 #[.int .u64 (nd k o)] w fun e w' => e = .returned (.int .u8 k) ∧ w' = w := by
  have := kind_any (nd k o) w (by unfold nd; omega) (by unfold nd; omega)
  rwa [show nd k o % 16 = k by unfold nd; omega] at this
theorem off_nd (k o : Int) (w : World) (h0 : 0 ≤ k) (h1 : k < 16) (h2 : 0 ≤ o) (h3 : o < 576460752303423488) :
    Calls Try.prog 33 #[.int .u64 (nd k o)] w fun e w' => e = .returned (.int .i64 o) ∧ w' = w := by
  have := off_any (nd k o) w (by unfold nd; omega) (by unfold nd; omega)
  rwa [show nd k o / 16 = o by unfold nd; omega] at this

theorem nodeOk_mk (k o : Int) (h0 : 0 ≤ k) (h1 : k < 16) (h2 : 0 ≤ o) (h3 : o < 576460752303423488) : nodeOk (k, o) := ⟨h0, h1, h2, h3⟩

theorem LST.c6 {w : World} {B P : Nat} {ns : List (Int × Int)} {se : Int} (h : LST w B P ns se) : w.cell? ⟨P, 6, none⟩ = some (.int .i64 se) ∧ (∀ o, w.frozen? ⟨P, o, none⟩ = false) ∧ B ≤ P := by
  obtain ⟨k, l, bk, chv, tlv, hm⟩ := h
  exact ⟨hm.pb.c6, hm.pb.fz, hm.pb.le⟩
theorem LST.setEnd {w : World} {B P : Nat} {ns : List (Int × Int)} {se : Int} (h : LST w B P ns se) (x : Int) : LST (w.setCell ⟨P, 6, none⟩ (.int .i64 x)) B P ns x := by
  obtain ⟨k, l, bk, chv, tlv, hm⟩ := h
  exact ⟨k, l, bk, chv, tlv, hm.setEnd x⟩

set_option maxHeartbeats 400000 in
theorem asi_new (w : World) (B P : Nat) (ns : List (Int × Int)) (se s t : Int) (h : LST w B P ns se) (hn : ns.length < 1000000) (hj : joins se s = false) (hs0 : 0 ≤ s) (hs1 : s < 576460752303423488) (he0 : 0 ≤ se) (he1 : se < 576460752303423488) :
    Calls Try.prog 29 #[.pointer (some ⟨P, 0, none⟩), .int .i64 s, .int .i64 t] w fun e w' => e = .returned (.tuple #[]) ∧ LST w' B P (ns ++ [(7, s)]) t ∧ Below B w w' := by
  obtain ⟨c6, fz, hBP⟩ := h.c6
  have hd := h.drewN
  by_cases h0 : se = 0
  · subst h0
    go_enter Try.func29, Try.ntmps29
    go_wp2_with (go_at_call 30; refine (len_mem w B P ns 0 h hn).mono ?_; rintro e w' ⟨rfl, n1, rfl⟩)
    go_region_with (first | (go_at_call 35; refine (newNode_any 7 s _ (by omega) (by omega) hs0 hs1).mono ?_; rintro e w' ⟨rfl, rfl⟩) | (go_at_call 34; refine (add_any _ B P ns 0 7 s (hd _) (nodeOk_mk 7 s (by omega) (by omega) hs0 hs1) hn).mono ?_; rintro e w2 ⟨rfl, hL2, hB2⟩; obtain ⟨d6, fz2, -⟩ := hL2.c6))
    all_goals
      go_wp2
      go_end0
      exact ⟨rfl, hL2.setEnd t, (below_of_drewN hB2).setCell hBP _⟩
  · have h1 : (se == 0) = false := by simp [h0]
    have h2 : (s != se + 1) = true := by simp [joins, h0] at hj; simp [hj]
    go_enter Try.func29, Try.ntmps29
    go_wp2_with (go_at_call 30; refine (len_mem w B P ns se h hn).mono ?_; rintro e w' ⟨rfl, n1, rfl⟩)
    go_region_with (first | (go_at_call 35; refine (newNode_any 7 s _ (by omega) (by omega) hs0 hs1).mono ?_; rintro e w' ⟨rfl, rfl⟩) | (go_at_call 34; refine (add_any _ B P ns se 7 s (hd _) (nodeOk_mk 7 s (by omega) (by omega) hs0 hs1) hn).mono ?_; rintro e w2 ⟨rfl, hL2, hB2⟩; obtain ⟨d6, fz2, -⟩ := hL2.c6))
    all_goals
      go_wp2
      go_end0
      exact ⟨rfl, hL2.setEnd t, (below_of_drewN hB2).setCell hBP _⟩

set_option maxHeartbeats 400000 in
theorem asi_two (w : World) (B P : Nat) (ns : List (Int × Int)) (se s t o : Int) (i : Nat) (h : LST w B P ns se) (hn : ns.length < 1000000) (hj : joins se s = true) (hi : ns.length = i + 1) (hl : ns[i]? = some (7, o)) (he0 : 0 ≤ se) (he1 : se < 576460752303423488) (ht0 : 0 ≤ t) (ht1 : t < 576460752303423488) :
    Calls Try.prog 29 #[.pointer (some ⟨P, 0, none⟩), .int .i64 s, .int .i64 t] w fun e w' => e = .returned (.tuple #[]) ∧ LST w' B P (ns.set i (8, o) ++ [(8, t)]) t ∧ Below B w w' := by
  obtain ⟨c6, fz, hBP⟩ := h.c6
  obtain ⟨k, l, bk, chv, tlv, hm⟩ := h
  have hil : i < ns.length := by omega
  obtain ⟨hnode, hfr, -, -⟩ := hm.node i hil
  have hni : ns[i] = (7, o) := by rw [List.getElem?_eq_getElem hil] at hl; exact Option.some.inj hl
  have hok := hm.ok (7, o) (by rw [← hni]; exact List.getElem_mem hil)
  obtain ⟨-, -, ho0, ho1⟩ := hok
  simp only at ho0 ho1
  rw [hni] at hnode
  change w.cell? _ = some (.int .u64 (nd 7 o)) at hnode
  have hd := hm.drewN
  obtain ⟨b, hb⟩ : ∃ b, b = bk (i / 16384) := ⟨_, rfl⟩
  obtain ⟨of, hof⟩ : ∃ of, of = i % 16384 := ⟨_, rfl⟩
  have hat := fun n => at_mem (w.drewN n) B P ns se k l bk chv tlv (hd n) hn i (i : Int) rfl hil
  rw [← hb, ← hof] at hnode hfr
  simp only [← hb, ← hof] at hat
  have hsd : ∀ n, LST ((w.drewN n).setCell ⟨b, of, none⟩ (.int .u64 (nd 8 o))) B P (ns.set i (8, o)) se := by
    intro n
    rw [hb, hof]
    exact ⟨_, _, _, _, _, (hd n).setNode i hil (8, o) (nodeOk_mk 8 o (by omega) (by omega) ho0 ho1)⟩
  have hbd : ∀ n, Below B w ((w.drewN n).setCell ⟨b, of, none⟩ (.int .u64 (nd 8 o))) := by
    intro n
    have h0 : Below B w (w.drewN n) := ⟨rfl, rfl, rfl, Nat.le_refl _, fun _ _ => rfl⟩
    refine h0.setCell (p := ⟨b, of, none⟩) ?_ _
    rw [hb]; exact ((hm.row _ (hm.node i hil).2.2.1).lt _ rfl).1
  have hbP : b ≠ P := by rw [hb]; exact hm.bkP (hm.node i hil).2.2.1
  have hL : LST w B P ns se := ⟨_, _, _, _, _, hm⟩
  clear hl hni hm hb hof
  have h1 : (se == 0) = false := by simp [joins] at hj ⊢; exact hj.1
  have h2 : (s != se + 1) = false := by simp [joins] at hj ⊢; exact hj.2
  have hlen : (ns.set i (8, o)).length < 1000000 := by simp; omega
  clear hj
  go_enter Try.func29, Try.ntmps29
  go_wp2_with (first
    | (go_at_call 30; refine (len_mem w B P ns se hL hn).mono ?_; rintro e w' ⟨rfl, n1, rfl⟩)
    | (go_at_call 31; refine (hat _).mono ?_; rintro e w' ⟨rfl, rfl⟩)
    | (go_at_call 32; refine (kind_nd 7 o _ (by omega) (by omega) ho0 ho1).mono ?_; rintro e w' ⟨rfl, rfl⟩))
  go_region_with (first
    | (go_at_call 31; refine (hat _).mono ?_; rintro e w' ⟨rfl, rfl⟩)
    | (go_at_call 33; refine (off_nd 7 o _ (by omega) (by omega) ho0 ho1).mono ?_; rintro e w' ⟨rfl, rfl⟩)
    | (go_at_call 35; refine (newNode_any 8 o _ (by omega) (by omega) ho0 ho1).mono ?_; rintro e w' ⟨rfl, rfl⟩))
  go_wp2_with fail
  go_region_with (first
    | (go_at_call 35; refine (newNode_any 8 t _ (by omega) (by omega) ht0 ht1).mono ?_; rintro e w' ⟨rfl, rfl⟩)
    | (go_at_call 34; refine (add_any _ B P (ns.set i (8, o)) se 8 t (by exact (hsd _).drewN 1) (nodeOk_mk 8 t (by omega) (by omega) ht0 ht1) hlen).mono ?_; rintro e w2 ⟨rfl, hL2, hB2⟩; obtain ⟨d6, fz2, -⟩ := hL2.c6))
  all_goals
    go_wp2
    go_end0
    exact ⟨rfl, hL2.setEnd t, ((hbd _).trans (below_of_drewN (n := 1) hB2)).setCell hBP _⟩

set_option maxHeartbeats 400000 in
theorem asi_ext (w : World) (B P : Nat) (ns : List (Int × Int)) (se s t o : Int) (i : Nat) (h : LST w B P ns se) (hn : ns.length < 1000000) (hj : joins se s = true) (hi : ns.length = i + 1) (hl : ns[i]? = some (8, o)) (he0 : 0 ≤ se) (he1 : se < 576460752303423488) (ht0 : 0 ≤ t) (ht1 : t < 576460752303423488) :
    Calls Try.prog 29 #[.pointer (some ⟨P, 0, none⟩), .int .i64 s, .int .i64 t] w fun e w' => e = .returned (.tuple #[]) ∧ LST w' B P (ns.set i (8, t)) t ∧ Below B w w' := by
  obtain ⟨c6, fz, hBP⟩ := h.c6
  obtain ⟨k, l, bk, chv, tlv, hm⟩ := h
  have hil : i < ns.length := by omega
  obtain ⟨hnode, hfr, -, -⟩ := hm.node i hil
  have hni : ns[i] = (8, o) := by rw [List.getElem?_eq_getElem hil] at hl; exact Option.some.inj hl
  have hok := hm.ok (8, o) (by rw [← hni]; exact List.getElem_mem hil)
  obtain ⟨-, -, ho0, ho1⟩ := hok
  simp only at ho0 ho1
  rw [hni] at hnode
  change w.cell? _ = some (.int .u64 (nd 8 o)) at hnode
  have hd := hm.drewN
  obtain ⟨b, hb⟩ : ∃ b, b = bk (i / 16384) := ⟨_, rfl⟩
  obtain ⟨of, hof⟩ : ∃ of, of = i % 16384 := ⟨_, rfl⟩
  have hat := fun n => at_mem (w.drewN n) B P ns se k l bk chv tlv (hd n) hn i (i : Int) rfl hil
  rw [← hb, ← hof] at hnode hfr
  simp only [← hb, ← hof] at hat
  have hsd : ∀ n, LST ((w.drewN n).setCell ⟨b, of, none⟩ (.int .u64 (nd 8 t))) B P (ns.set i (8, t)) se := by
    intro n
    rw [hb, hof]
    exact ⟨_, _, _, _, _, (hd n).setNode i hil (8, t) (nodeOk_mk 8 t (by omega) (by omega) ht0 ht1)⟩
  have hbd : ∀ n, Below B w ((w.drewN n).setCell ⟨b, of, none⟩ (.int .u64 (nd 8 t))) := by
    intro n
    have h0 : Below B w (w.drewN n) := ⟨rfl, rfl, rfl, Nat.le_refl _, fun _ _ => rfl⟩
    refine h0.setCell (p := ⟨b, of, none⟩) ?_ _
    rw [hb]; exact ((hm.row _ (hm.node i hil).2.2.1).lt _ rfl).1
  have hbP : b ≠ P := by rw [hb]; exact hm.bkP (hm.node i hil).2.2.1
  have hL : LST w B P ns se := ⟨_, _, _, _, _, hm⟩
  clear hl hni hm hb hof
  have h1 : (se == 0) = false := by simp [joins] at hj ⊢; exact hj.1
  have h2 : (s != se + 1) = false := by simp [joins] at hj ⊢; exact hj.2
  clear hj
  go_enter Try.func29, Try.ntmps29
  go_wp2_with (first
    | (go_at_call 30; refine (len_mem w B P ns se hL hn).mono ?_; rintro e w' ⟨rfl, n1, rfl⟩)
    | (go_at_call 31; refine (hat _).mono ?_; rintro e w' ⟨rfl, rfl⟩)
    | (go_at_call 32; refine (kind_nd 8 o _ (by omega) (by omega) ho0 ho1).mono ?_; rintro e w' ⟨rfl, rfl⟩)
    | (go_at_call 35; refine (newNode_any 8 t _ (by omega) (by omega) ht0 ht1).mono ?_; rintro e w' ⟨rfl, rfl⟩))
  go_end0
  exact ⟨rfl, (hsd _).setEnd t, (hbd _).setCell hBP _⟩

/-- one short integer added: the plain function -/
def stp (st : List (Int × Int) × Int) (sp : Int × Int) : List (Int × Int) × Int :=
  if joins st.2 sp.1 then
    match st.1.getLast? with
    | some (k, o) => if k = 7 then (st.1.set (st.1.length - 1) (8, o) ++ [(8, sp.2)], sp.2) else (st.1.set (st.1.length - 1) (8, sp.2), sp.2)
    | none => st
  else (st.1 ++ [(7, sp.1)], sp.2)

structure Good (st : List (Int × Int) × Int) : Prop where
  ne : st.2 ≠ 0 → st.1 ≠ []
  kinds : ∀ p ∈ st.1, p.1 = 7 ∨ p.1 = 8
  lo : 0 ≤ st.2
  hi : st.2 < 576460752303423488

def spOk (p : Int × Int) : Prop := 0 ≤ p.1 ∧ p.1 < 576460752303423488 ∧ 0 ≤ p.2 ∧ p.2 < 576460752303423488

theorem joins_ne {b c : Int} (h : joins b c = true) : b ≠ 0 := by simp [joins] at h; exact h.1

theorem stp_new (ns : List (Int × Int)) (se s t : Int) (h : joins se s = false) : stp (ns, se) (s, t) = (ns ++ [(7, s)], t) := by simp [stp, h]
theorem stp_two (ns : List (Int × Int)) (se s t o : Int) (i : Nat) (h : joins se s = true) (hi : ns.length = i + 1) (hl : ns[i]? = some (7, o)) : stp (ns, se) (s, t) = (ns.set i (8, o) ++ [(8, t)], t) := by
  have e : ns.getLast? = some (7, o) := by rw [List.getLast?_eq_getElem?, hi]; exact hl
  simp [stp, h, e, hi]
theorem stp_ext (ns : List (Int × Int)) (se s t o : Int) (i : Nat) (h : joins se s = true) (hi : ns.length = i + 1) (hl : ns[i]? = some (8, o)) : stp (ns, se) (s, t) = (ns.set i (8, t), t) := by
  have e : ns.getLast? = some (8, o) := by rw [List.getLast?_eq_getElem?, hi]; exact hl
  simp [stp, h, e, hi]

theorem stp_cases (ns : List (Int × Int)) (se s _t : Int) (hg : Good (ns, se)) : (joins se s = false) ∨ (joins se s = true ∧ ∃ i o, ns.length = i + 1 ∧ (ns[i]? = some (7, o) ∨ ns[i]? = some (8, o))) := by
  rcases Bool.eq_false_or_eq_true (joins se s) with h | h
  · right
    have hne := hg.ne (joins_ne h)
    have hpos : 0 < ns.length := List.length_pos_iff.2 hne
    refine ⟨h, ns.length - 1, ns[ns.length - 1].2, by omega, ?_⟩
    have hk := hg.kinds ns[ns.length - 1] (List.getElem_mem _)
    rw [List.getElem?_eq_getElem (by omega)]
    rcases hk with hk | hk
    · left; rw [← hk]
    · right; rw [← hk]
  · exact .inl h

theorem stp_good (ns : List (Int × Int)) (se s t : Int) (hg : Good (ns, se)) (hs : spOk (s, t)) : Good (stp (ns, se) (s, t)) ∧ (stp (ns, se) (s, t)).1.length ≤ ns.length + 1 ∧ ns.length ≤ (stp (ns, se) (s, t)).1.length ∧ (stp (ns, se) (s, t)).2 = t := by
  obtain ⟨_, _, h3, h4⟩ := hs
  rcases stp_cases ns se s t hg with h | ⟨h, i, o, hi, hl | hl⟩
  · rw [stp_new ns se s t h]
    refine ⟨⟨fun _ => by simp, ?_, h3, h4⟩, by simp, by simp, rfl⟩
    intro p hp
    rcases List.mem_append.1 hp with hp | hp
    · exact hg.kinds p hp
    · simp at hp; left; rw [hp]
  · rw [stp_two ns se s t o i h hi hl]
    refine ⟨⟨fun _ => by simp, ?_, h3, h4⟩, by simp, by simp, rfl⟩
    intro p hp
    rcases List.mem_append.1 hp with hp | hp
    · rcases List.mem_or_eq_of_mem_set hp with hp | hp
      · exact hg.kinds p hp
      · right; rw [hp]
    · simp at hp; right; rw [hp]
  · rw [stp_ext ns se s t o i h hi hl]
    refine ⟨⟨fun _ => ?_, ?_, h3, h4⟩, by simp, by simp, rfl⟩
    · intro e
      have := congrArg List.length e
      simp [hi] at this
    · intro p hp
      rcases List.mem_or_eq_of_mem_set hp with hp | hp
      · exact hg.kinds p hp
      · right; rw [hp]

theorem asi_any (w : World) (B P : Nat) (ns : List (Int × Int)) (se s t : Int) (h : LST w B P ns se) (hn : ns.length < 1000000) (hg : Good (ns, se)) (hs : spOk (s, t)) :
    Calls Try.prog 29 #[.pointer (some ⟨P, 0, none⟩), .int .i64 s, .int .i64 t] w fun e w' => e = .returned (.tuple #[]) ∧ LST w' B P (stp (ns, se) (s, t)).1 (stp (ns, se) (s, t)).2 ∧ Below B w w' := by
  obtain ⟨h1, h2, h3, h4⟩ := hs
  rcases stp_cases ns se s t hg with hj | ⟨hj, i, o, hi, hl | hl⟩
  · rw [stp_new ns se s t hj]
    exact asi_new w B P ns se s t h hn hj h1 h2 hg.lo hg.hi
  · rw [stp_two ns se s t o i hj hi hl]
    exact asi_two w B P ns se s t o i h hn hj hi hl hg.lo hg.hi h3 h4
  · rw [stp_ext ns se s t o i hj hi hl]
    exact asi_ext w B P ns se s t o i h hn hj hi hl hg.lo hg.hi h3 h4

end Go.Proofs.Qxb6616010a
