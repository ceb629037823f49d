/- add's contract. -/
import Derived.Test.Qxb6616010aGrow
namespace Go.Proofs.Qxb6616010a
open Go.RowKit

def LST (w : World) (B P : Nat) (ns : List (Int × Int)) (se : Int) : Prop := ∃ k l bk chv tlv, MEM w B P ns se k l bk chv tlv

theorem LST.drewN {w : World} {B P : Nat} {ns : List (Int × Int)} {se : Int} (h : LST w B P ns se) (n : Nat) : LST (w.drewN n) B P ns se := by
  obtain ⟨k, l, bk, chv, tlv, hm⟩ := h
  exact ⟨k, l, bk, chv, tlv, hm.drewN n⟩

set_option maxHeartbeats 400000 in
theorem add_room (w : World) (B P : Nat) (ns : List (Int × Int)) (se kk oo : Int) (k l : Nat) (bk : Nat → Nat) (chv tlv : Value) (h : MEM w B P ns se k l bk chv tlv) (hk : 0 < k) (hr : ns.length < 16384 * (k - 1) + l) (hp : nodeOk (kk, oo)) (_hn : ns.length < 1000000) :
    Calls Try.prog 34 #[.pointer (some ⟨P, 7, none⟩), .int .u64 (nd kk oo)] w fun e w' => e = .returned (.tuple #[]) ∧ LST w' B P (ns ++ [(kk, oo)]) se ∧ Below B w w' := by
  obtain ⟨i74, hi, hz0, hz1, hz2⟩ := info_parts Try.info74
  obtain ⟨hT, hn1, hn2, hl1, hl2⟩ := h.non hk
  obtain ⟨m, hm⟩ : ∃ m, m = ns.length - 16384 * (k - 1) := ⟨_, rfl⟩
  obtain ⟨g, hg⟩ : ∃ g, g = bk (k - 1) := ⟨_, rfl⟩
  rw [← hm, ← hg] at hT
  subst hT
  have c8 := h.pb.c8
  have fz := h.pb.fz
  have HP := h.pb.lt
  have hBP := h.pb.le
  have hne : ((m : Int) == (l : Int)) = false := by simp; omega
  have hml : m + 1 ≤ l := by omega
  have hrow := h.row (k - 1) (by omega)
  have e1 : (ck ns (k - 1)).length = m := by rw [ck_len]; omega
  have e2 : cp k l (k - 1) = l := by unfold cp; rw [if_neg (by omega)]
  rw [e1, e2, ← hg] at hrow
  have hgP : g ≠ P := by rw [hg]; exact h.bkP (by omega)
  have hgw : g < w.heap.size := (hrow.lt g rfl).2
  have hBg : B ≤ g := (hrow.lt g rfl).1
  have Hfin : Hid (∀ w3 : World, w3.ownsRow B 74 1 (.slice (some ⟨g, 0, none⟩) (m + 1) l) (m + 1) ((ck ns (k - 1)).map nodeV ++ [.int .u64 (nd kk oo)]) → (w.alloc (.cells #[.int .u64 (nd kk oo)] 74)).grownBy w3 (some g) →
      LST (w3.setCell ⟨P, 8, none⟩ (.slice (some ⟨g, 0, none⟩) (m + 1) l)) B P (ns ++ [(kk, oo)]) se ∧ Below B w (w3.setCell ⟨P, 8, none⟩ (.slice (some ⟨g, 0, none⟩) (m + 1) l))) := by
    intro w3 ho hgr
    subst hg
    rw [hm] at ho ⊢
    have := (h.alloc (.cells #[.int .u64 (nd kk oo)] 74)).push hk hr (kk, oo) hp ho hgr
    refine ⟨⟨_, _, _, _, _, this⟩, Below.setCell (((Below.refl B w).alloc (by omega) _).grown hgr (by simp; omega) ?_) hBP _⟩
    intro k' hk'; simp at hk'; omega
  clear e1 e2
  have HM : Hid (m = ns.length - 16384 * (k - 1)) := hm
  have HG : Hid (g = bk (k - 1)) := hg
  clear hm hg
  go_enter Try.func34, Try.ntmps34
  go_wp2_with fail
  go_quiet (fail)
  go_wp2_with (at_builtin; (refine wpList_append_fits _ rfl (.tmp 21) (.tmp 23) 52 rfl B 74 i74 1 Try.underlying52 hi hz1 g m l _ rfl (by exact hrow.alloc _) ⟨w.heap.size, 0, none⟩ 1 1 [.int .u64 (nd kk oo)] rfl rfl (by exact cell_one_new _ _ _) (by simp [Value.oneCell']) hml ?_); intro w3 hown3 hgrow3; have hP3 : w3.heap[P]? = w.heap[P]? := (hgrow3.block P (by simp; omega) (by simp; omega)).trans (Below.heap_alloc w _ P HP); have hpb3 := h.pb.kept hP3; have f8 := hpb3.c8; have fz3 := hpb3.fz; have HP3 : Hid (w3.heap[P]? = w.heap[P]?) := hP3; clear hP3)
  go_end0
  exact ⟨rfl, Hfin.out w3 hown3 ⟨hgrow3.os, hgrow3.tape, hgrow3.output, hgrow3.size, hgrow3.block⟩⟩

set_option maxHeartbeats 400000 in
theorem add_full (w : World) (B P : Nat) (ns : List (Int × Int)) (se kk oo : Int) (k l : Nat) (bk : Nat → Nat) (chv tlv : Value) (h : MEM w B P ns se k l bk chv tlv) (hfull : ns.length = 16384 * (k - 1) + l) (hp : nodeOk (kk, oo)) (hn : ns.length < 1000000) :
    Calls Try.prog 34 #[.pointer (some ⟨P, 7, none⟩), .int .u64 (nd kk oo)] w fun e w' => e = .returned (.tuple #[]) ∧ LST w' B P (ns ++ [(kk, oo)]) se ∧ Below B w w' := by
  obtain ⟨i74, hi, hz0, hz1, hz2⟩ := info_parts Try.info74
  obtain ⟨a, c8'⟩ : ∃ a, tlv = .slice a l l := by
    rcases Nat.eq_zero_or_pos k with hk | hk
    · obtain ⟨_, rfl, rfl, _⟩ := h.emp hk; exact ⟨none, rfl⟩
    · obtain ⟨hT, _⟩ := h.non hk
      exact ⟨_, by rw [hT]; congr 1; omega⟩
  subst c8'
  have c8 := h.pb.c8
  have hd := h.drewN
  go_enter Try.func34, Try.ntmps34
  go_wp2_with fail
  go_quiet (fail)
  go_wp2_with fail
  refine (grow_any (w.drewN nq) B P ns se k l bk chv _ (hd nq) hfull hn).mono ?_
  rintro e w1 ⟨rfl, ⟨k1, l1, bk1, chv1, tlv1, h1, hk1, hr1⟩, hb1'⟩
  have hb1 : Below B w w1 := ⟨hb1'.os, hb1'.tape, hb1'.output, hb1'.size, hb1'.block⟩
  clear hb1' hfull c8
  obtain ⟨hT1, hn1, hn2, hl1, hl2⟩ := h1.non hk1
  obtain ⟨m, hm⟩ : ∃ m, m = ns.length - 16384 * (k1 - 1) := ⟨_, rfl⟩
  obtain ⟨g, hg⟩ : ∃ g, g = bk1 (k1 - 1) := ⟨_, rfl⟩
  rw [← hm, ← hg] at hT1
  rw [hT1] at h1
  clear hT1
  have d8 := h1.pb.c8
  have fz := h1.pb.fz
  have HP := h1.pb.lt
  have hBP := h1.pb.le
  have hml : m + 1 ≤ l1 := by omega
  have hrow := h1.row (k1 - 1) (by omega)
  have e1 : (ck ns (k1 - 1)).length = m := by rw [ck_len]; omega
  have e2 : cp k1 l1 (k1 - 1) = l1 := by unfold cp; rw [if_neg (by omega)]
  rw [e1, e2, ← hg] at hrow
  have hgP : g ≠ P := by rw [hg]; exact h1.bkP (by omega)
  have hgw : g < w1.heap.size := (hrow.lt g rfl).2
  have hBg : B ≤ g := (hrow.lt g rfl).1
  have Hfin : Hid (∀ w3 : World, w3.ownsRow B 74 1 (.slice (some ⟨g, 0, none⟩) (m + 1) l1) (m + 1) ((ck ns (k1 - 1)).map nodeV ++ [.int .u64 (nd kk oo)]) → (w1.alloc (.cells #[.int .u64 (nd kk oo)] 74)).grownBy w3 (some g) →
      LST (w3.setCell ⟨P, 8, none⟩ (.slice (some ⟨g, 0, none⟩) (m + 1) l1)) B P (ns ++ [(kk, oo)]) se ∧ Below B w (w3.setCell ⟨P, 8, none⟩ (.slice (some ⟨g, 0, none⟩) (m + 1) l1))) := by
    intro w3 ho hgr
    subst hg
    rw [hm] at ho ⊢
    have := (h1.alloc (.cells #[.int .u64 (nd kk oo)] 74)).push hk1 hr1 (kk, oo) hp ho hgr
    refine ⟨⟨_, _, _, _, _, this⟩, Below.setCell ((hb1.alloc (by omega) _).grown hgr (by simp; omega) ?_) hBP _⟩
    intro k' hk'; simp at hk'; omega
  have HM : Hid (m = ns.length - 16384 * (k1 - 1)) := hm
  have HG : Hid (g = bk1 (k1 - 1)) := hg
  clear e1 e2 hm hg
  go_wp2_with (at_builtin; (refine wpList_append_fits _ rfl (.tmp 21) (.tmp 23) 52 rfl B 74 i74 1 Try.underlying52 hi hz1 g m l1 _ rfl (by exact hrow.alloc _) ⟨w1.heap.size, 0, none⟩ 1 1 [.int .u64 (nd kk oo)] rfl rfl (by exact cell_one_new _ _ _) (by simp [Value.oneCell']) hml ?_); intro w3 hown3 hgrow3; have hP3 : w3.heap[P]? = w1.heap[P]? := (hgrow3.block P (by simp; omega) (by simp; omega)).trans (Below.heap_alloc w1 _ P HP); have hpb3 := h1.pb.kept hP3; have f8 := hpb3.c8; have fz3 := hpb3.fz; have HP3 : Hid (w3.heap[P]? = w1.heap[P]?) := hP3; clear hP3)
  go_end0
  exact ⟨rfl, Hfin.out w3 hown3 ⟨hgrow3.os, hgrow3.tape, hgrow3.output, hgrow3.size, hgrow3.block⟩⟩

theorem add_any (w : World) (B P : Nat) (ns : List (Int × Int)) (se kk oo : Int) (h : LST w B P ns se) (hp : nodeOk (kk, oo)) (hn : ns.length < 1000000) :
    Calls Try.prog 34 #[.pointer (some ⟨P, 7, none⟩), .int .u64 (nd kk oo)] w fun e w' => e = .returned (.tuple #[]) ∧ LST w' B P (ns ++ [(kk, oo)]) se ∧ Below B w w' := by
  obtain ⟨k, l, bk, chv, tlv, hm⟩ := h
  by_cases hr : 0 < k ∧ ns.length < 16384 * (k - 1) + l
  · exact add_room w B P ns se kk oo k l bk chv tlv hm hr.1 hr.2 hp hn
  · refine add_full w B P ns se kk oo k l bk chv tlv hm ?_ hp hn
    rcases Nat.eq_zero_or_pos k with e | e
    · obtain ⟨rfl, rfl, -⟩ := hm.emp e; subst e; rfl
    · have := hm.non e; omega
theorem len_mem (w : World) (B P : Nat) (ns : List (Int × Int)) (se : Int) (h : LST w B P ns se) (hn : ns.length < 1000000) :
    Calls Try.prog 30 #[.pointer (some ⟨P, 7, none⟩)] w fun e w' => e = .returned (.int .i64 (ns.length : Int)) ∧ ∃ n, w' = w.drewN n := by
  obtain ⟨k, l, bk, chv, tlv, hm⟩ := h
  rcases Nat.eq_zero_or_pos k with e | e
  · obtain ⟨rfl, rfl, rfl, rfl⟩ := hm.emp e
    subst e
    exact len_any P none 0 0 0 w hm.pb.c8 (by simpa using hm.pb.c9) (by omega) (by omega)
  · obtain ⟨hT, hn1, hn2, _⟩ := hm.non e
    have := len_any P _ (ns.length - 16384 * (k - 1)) l ((16384 * (k - 1) : Nat) : Int) w (by rw [hm.pb.c8, hT]) hm.pb.c9 (by omega) (by omega)
    rw [show (((16384 * (k - 1) : Nat) : Int) + ((ns.length - 16384 * (k - 1) : Nat) : Int)) = (ns.length : Int) by omega] at this
    exact this

theorem at_mem (w : World) (B P : Nat) (ns : List (Int × Int)) (se : Int) (k l : Nat) (bk : Nat → Nat) (chv tlv : Value) (h : MEM w B P ns se k l bk chv tlv) (hn : ns.length < 1000000) (i : Nat) (x : Int) (hx : x = (i : Int)) (hi : i < ns.length) :
    Calls Try.prog 31 #[.pointer (some ⟨P, 7, none⟩), .int .i64 x] w fun e w' => e = .returned (.pointer (some ⟨bk (i / 16384), i % 16384, none⟩)) ∧ w' = w := by
  obtain ⟨_, _, hj, hcp⟩ := h.node i hi
  obtain ⟨C, cc, rfl, _, _, _, hc⟩ := h.chunk (by omega)
  exact at_any P C k cc _ _ _ i x w hx h.pb.c7 (hc _ hj) hj hcp (by omega)

end Go.Proofs.Qxb6616010a
