/- grow's contracts: nothing there yet; the first chunk made anew; a further chunk. -/
import Derived.Test.Qxb6616010aMem
import Derived.Laws.CopyOwn
import Derived.Deep.AppendLies
namespace Go.Proofs.Qxb6616010a
open Go.RowKit
theorem Try.info74 : (Try.prog.info? 74).map (fun i => (i.zero, i.size, i.bytes)) = some (some (.int .u64 0), 1, 8) := by kernel_rfl
theorem Try.info52 : (Try.prog.info? 52).map (fun i => (i.zero, i.size, i.bytes)) = some (some (.slice none 0 0), 1, 24) := by kernel_rfl
theorem Try.sz74 : (Try.prog.info? 74).map (·.size) = some 1 := by kernel_rfl

def MEMx (w : World) (B P : Nat) (ns : List (Int × Int)) (se : Int) (k l : Nat) : Prop := ∃ bk chv tlv, MEM w B P ns se k l bk chv tlv

theorem MEMx.drewN {w : World} {B P : Nat} {ns : List (Int × Int)} {se : Int} {k l : Nat} (h : MEMx w B P ns se k l) (n : Nat) : MEMx (w.drewN n) B P ns se k l := by
  obtain ⟨bk, chv, tlv, hm⟩ := h
  exact ⟨bk, chv, tlv, hm.drewN n⟩

theorem owns_cut0 {w : World} {base : Nat} {e : TypeId} {size n C cc : Nat} {xs : List Value} (h : w.ownsRow base e size (.slice (some ⟨C, 0, none⟩) n cc) n xs) : w.ownsRow base e size (.slice (some ⟨C, 0, none⟩) 0 cc) 0 [] := by
  rcases h.2 with ⟨h', _⟩ | ⟨g', cap', cur, h', hb, hg, hnc, hm, hcs, htake⟩
  · simp at h'
  · simp only [Value.slice.injEq, Option.some.injEq, Addr.mk.injEq, and_true, true_and] at h'
    obtain ⟨rfl, rfl⟩ := h'
    exact ⟨by simp, .inr ⟨_, _, cur, rfl, hb, hg, by omega, hm, hcs, by simp⟩⟩

theorem nodes_oneCell (ns : List (Int × Int)) : ∀ u ∈ ns.map nodeV, u.oneCell' = true := by
  intro u hu
  obtain ⟨_, _, rfl⟩ := List.mem_map.1 hu
  rfl

theorem sl_one (g n c : Nat) : ∀ u ∈ [Value.slice (some ⟨g, 0, none⟩) n c], u.oneCell' = true := by simp [Value.oneCell']
theorem chunk_new {w : World} {B q g cap : Nat} {xs : List Value} {v : Value} (h : w.ownsRow B 52 1 (.slice (some ⟨g, 0, none⟩) (q + 1 + 1) cap) (q + 1 + 1) (xs ++ [v])) : w.cell? ⟨g, q + 1, none⟩ = some v := by
  have hl := h.1
  simp at hl
  rw [h.cellAt (q + 1) (by omega), List.getElem?_append_right (by omega)]
  simp [hl]

theorem PB.ne {w : World} {B P : Nat} {se bs : Int} {chv tlv : Value} (h : PB w B P se chv tlv bs) {B' g n m cap : Nat} {xs : List Value} (ho : w.ownsRow B' 52 1 (.slice (some ⟨g, 0, none⟩) m cap) n xs) : g ≠ P := by
  obtain ⟨cur, hc, _⟩ := owns_block ho
  obtain ⟨arr, hp, _⟩ := h.ex
  exact type_ne hc hp (by decide)

def zs16 : Array Value := madeCells #[.int .u64 0] (16384 * 1)
theorem zs16_size : zs16.size = 16384 := size_madeCells _ _

set_option maxHeartbeats 400000 in
theorem grow_zero (w : World) (B P : Nat) (se : Int) (bk : Nat → Nat) (chv tlv : Value) (h : MEM w B P [] se 0 0 bk chv tlv) :
    Calls Try.prog 36 #[.pointer (some ⟨P, 7, none⟩)] w fun e w' => e = .returned (.tuple #[]) ∧ MEMx w' B P [] se 1 64 ∧ Below B w w' := by
  obtain ⟨i74, hi, hz0, hz1, hz2⟩ := info_parts Try.info74
  obtain ⟨i52, gi, gz0, gz1, gz2⟩ := info_parts Try.info52
  obtain ⟨_, _, rfl, rfl⟩ := h.emp rfl
  have c7 := h.pb.c7
  have c8 := h.pb.c8
  have c9 := h.pb.c9
  have fz := h.pb.fz
  have HP := h.pb.lt
  have hBP := h.pb.le
  have hb2 : i74.bytes * 64 ≤ 281474976710656 := by rw [hz2]; omega
  have hfin : ∀ (cur0 : Array Value) (w2 w3 : World) (g cap : Nat), cur0.size = 64 * 1 → Hid (w2.heap[w.heap.size]? = some (Obj.cells (splice cur0.toList 0 []).toArray 74 (0, 0))) → Below w.heap.size w w2 →
      w3.ownsRow B 52 1 (.slice (some ⟨g, 0, none⟩) (0 + 1) cap) (0 + 1) ([] ++ [.slice (some ⟨w.heap.size, 0, none⟩) 64 64]) → (w2.alloc (.cells #[.slice (some ⟨w.heap.size, 0, none⟩) 64 64] 52)).grownBy w3 (Value.slice none 0 0).ownBlock →
      Hid (w3.heap[P]? = w2.heap[P]?) → MEMx ((w3.setCell ⟨P, 7, none⟩ (.slice (some ⟨g, 0, none⟩) 1 cap)).setCell ⟨P, 8, none⟩ (.slice (some ⟨w.heap.size, 0, none⟩) 0 64)) B P [] se 1 64 ∧
        Below B w ((w3.setCell ⟨P, 7, none⟩ (.slice (some ⟨g, 0, none⟩) 1 cap)).setCell ⟨P, 8, none⟩ (.slice (some ⟨w.heap.size, 0, none⟩) 0 64)) := by
    intro cur0 w2 w3 g cap hsz hF2 hB2 hown3 hgrow3 hP3
    have hF2l : w.heap.size < w2.heap.size := lt_of_block hF2.out
    have hF3 : w3.heap[w.heap.size]? = some (.cells (splice cur0.toList 0 []).toArray 74 (0, 0)) :=
      (hgrow3.block _ (by simp; omega) (by simp [Value.ownBlock])).trans ((Below.heap_alloc w2 _ _ hF2l).trans hF2.out)
    have hM := h.grow1 (by omega) w.heap.size 64 (by omega) (by omega) (by simp) hF3 (by rw [List.size_toArray, length_splice _ _ _ (by simp)]; simpa using hsz) (by simp) (by omega) (v' := .slice (some ⟨g, 0, none⟩) 1 cap) (by simpa using hown3) (hP3.out.trans (hB2.block P HP))
    refine ⟨⟨_, _, _, hM⟩, ((((hB2.mono (by omega)).alloc (by omega) _).grown hgrow3 (by simp; omega) ?_).setCell hBP _).setCell hBP _⟩
    intro k hk; simp [Value.ownBlock] at hk
  have h064 : ([] : List Value).length = Nat.min 0 64 := by decide
  have Hfin := show Hid _ from hfin
  clear hfin
  go_enter Try.func36, Try.ntmps36
  go_wp2_with (first
    | (at_make; refine wpList_make_full _ rfl _ _ 52 rfl B 74 i74 _ 1 Try.underlying52 hi hz0 hz1 .i64 .i64 _ _ 64 rfl rfl (by omega) (by omega) hb2 (by unfold maxLen; omega) (by omega) ?_; intro w1 hown1 hgrow1; have hpb1 := h.pb.kept (hgrow1.block P HP (by simp)); have d7 := hpb1.c7; have d8 := hpb1.c8; have fz1 := hpb1.fz; have hB1 : Below w.heap.size w w1 := (Below.refl _ _).grown hgrow1 (Nat.le_refl _) (by simp); obtain ⟨cur0, hF1, hsz0, hjunk⟩ := owns_block hown1; clear hjunk; have HF1 : Hid (w1.heap[w.heap.size]? = some (Obj.cells cur0 74 (0, 0))) := hF1; clear hF1 hown1; have HSZ : Hid (cur0.size = 64 * 1) := hsz0; clear hsz0)
    | (with_reducible show wpList _ _ _ (Oper.mk _ (Op.call ⟨Callee.builtin Builtin.copy, _, _⟩) _ _ _ _ :: _) _ _; (refine wpList_copy_splice (by rfl) (.tmp 61) (.tmp 65) 52 52 (by rfl) 74 Try.underlying52 Try.sz74 (some ⟨w.heap.size, 0, none⟩) none 64 64 0 0 rfl rfl w.heap.size 0 cur0.toList 74 (by simpa using HF1.out) [] h064 (fun hx => absurd hx (by simp)) (by simp) (by simp) w.heap.size w hB1 (Nat.le_refl _) ?_); intro w2 hF2 hB2; have hpb2 := h.pb.kept (hB2.block P HP); have e7 := hpb2.c7; have e8 := hpb2.c8; have fz2 := hpb2.fz; have hF2l : w.heap.size < w2.heap.size := lt_of_block hF2.out)
    | (at_builtin; refine wpList_append_lies _ (by rfl) (.tmp 72) (.tmp 74) 51 (by rfl) B 52 i52 _ 1 24 Try.underlying51 gi gz0 gz1 gz2 (by rfl) (by omega) (.slice none 0 0) 0 [] rfl (World.ownsRow_nil _ _ _ _) ⟨w2.heap.size, 0, none⟩ 1 1 [.slice (some ⟨w.heap.size, 0, none⟩) 64 64] rfl rfl (cell_one_new _ _ _) (by simp [Value.oneCell']) (by omega) (by unfold maxLen; omega) (by omega) (by have := hB2.size; simp; omega) (w2.heap.size + 1) (by simp) ?_; intro g cap w3 hown3 hgrow3 hat3 hlt3; have hP3 : w3.heap[P]? = w2.heap[P]? := (hgrow3.block P (by simp; omega) (by simp [Value.ownBlock])).trans (Below.heap_alloc w2 _ P (by omega)); have hpb3 := hpb2.kept hP3; have f7 := hpb3.c7; have f8 := hpb3.c8; have fz3 := hpb3.fz; have HP3 : Hid (w3.heap[P]? = w2.heap[P]?) := hP3; clear hP3))
  go_end0
  exact ⟨rfl, Hfin.out cur0 w2 w3 g cap HSZ.out hF2 hB2 hown3 hgrow3 HP3⟩
set_option maxHeartbeats 400000 in
theorem grow_one (w : World) (B P : Nat) (ns : List (Int × Int)) (se : Int) (l L : Nat) (bk : Nat → Nat) (chv tlv : Value) (h : MEM w B P ns se 1 l bk chv tlv) (hfull : ns.length = l) (hl : l < 16384) (hL : (2 * l < 16384 ∧ L = 2 * l) ∨ (16384 ≤ 2 * l ∧ L = 16384)) :
    Calls Try.prog 36 #[.pointer (some ⟨P, 7, none⟩)] w fun e w' => e = .returned (.tuple #[]) ∧ MEMx w' B P ns se 1 L ∧ Below B w w' := by
  obtain ⟨i74, hi, hz0, hz1, hz2⟩ := info_parts Try.info74
  obtain ⟨i52, gi, gz0, gz1, gz2⟩ := info_parts Try.info52
  obtain ⟨C, cc, rfl, hCl, hCP, hBC, hCc⟩ := h.chunk (by omega)
  have hnon := h.non (by omega)
  obtain ⟨hT, hn1, hn2, hl1, hl2⟩ := hnon
  simp only [Nat.sub_self, Nat.mul_zero, Nat.sub_zero, hfull] at hT
  subst hT
  have c7 := h.pb.c7
  have c8 := h.pb.c8
  have c9 := h.pb.c9
  have fz := h.pb.fz
  have HP := h.pb.lt
  have hBP := h.pb.le
  have hne : ((l : Int) == 16384) = false := by simp; omega
  have hck : ck ns 0 = ns := by unfold ck; rw [Nat.mul_zero, List.drop_zero, List.take_of_length_le (by omega)]
  have hrow := h.row 0 (by omega)
  rw [hck] at hrow
  have hbk : bk 0 < w.heap.size := (hrow.lt (bk 0) rfl).2
  have HS : Hid (∀ (w1 : World), Below w.heap.size w w1 → ∀ j v, (ns.map nodeV)[j]? = some v → w1.cell? ((⟨bk 0, 0, none⟩ : Addr).add j) = some v) := by
    intro w1 hb j v hv
    have := hrow.cells (g := bk 0) rfl j v hv
    rw [Addr.add_lit] at this ⊢
    rw [hb.cell (by exact hbk)]; exact this
  have HO : Hid (∀ (w1 : World), Below w.heap.size w w1 → w1.ownsRow B 52 1 (.slice (some ⟨C, 0, none⟩) 0 cc) 0 []) := by
    intro w1 hb
    exact owns_heap (owns_cut0 h.ch) (fun g hg => hb.block g (by simp [Value.ownBlock] at hg; omega))
  have HFull : Hid (ns.length = l) := hfull
  have HN : Hid ((ns.map nodeV).length = Nat.min l L) := by
    show _ = _
    rw [List.length_map, hfull]; exact (Nat.min_eq_left (by omega)).symm
  have hnl : (ns.map nodeV).length ≤ l := by simp [hfull]
  clear hCc hfull hn1 hn2 hck hrow
  have hlL : l < L := by omega
  have hL16 : L ≤ 16384 := by omega
  have hb2 : i74.bytes * L ≤ 281474976710656 := by rw [hz2]; omega
  have hfin : ∀ (cur0 : Array Value) (w2 w3 : World) (g cap : Nat), cur0.size = L * 1 → Hid (w2.heap[w.heap.size]? = some (Obj.cells (splice cur0.toList 0 (ns.map nodeV)).toArray 74 (0, 0))) → Below w.heap.size w w2 →
      w3.ownsRow B 52 1 (.slice (some ⟨g, 0, none⟩) (0 + 1) cap) (0 + 1) ([] ++ [.slice (some ⟨w.heap.size, 0, none⟩) L L]) → (w2.alloc (.cells #[.slice (some ⟨w.heap.size, 0, none⟩) L L] 52)).grownBy w3 (Value.slice (some ⟨C, 0, none⟩) 0 cc).ownBlock →
      Hid (w3.heap[P]? = w2.heap[P]?) → MEMx ((w3.setCell ⟨P, 7, none⟩ (.slice (some ⟨g, 0, none⟩) 1 cap)).setCell ⟨P, 8, none⟩ (.slice (some ⟨w.heap.size, 0, none⟩) l L)) B P ns se 1 L ∧
        Below B w ((w3.setCell ⟨P, 7, none⟩ (.slice (some ⟨g, 0, none⟩) 1 cap)).setCell ⟨P, 8, none⟩ (.slice (some ⟨w.heap.size, 0, none⟩) l L)) := by
    intro cur0 w2 w3 g cap hsz hF2 hB2 hown3 hgrow3 hP3
    have hfull := HFull.out
    have hF2l : w.heap.size < w2.heap.size := lt_of_block hF2.out
    have hF3 : w3.heap[w.heap.size]? = some (.cells (splice cur0.toList 0 (ns.map nodeV)).toArray 74 (0, 0)) :=
      (hgrow3.block _ (by simp; omega) (by simp [Value.ownBlock]; omega)).trans ((Below.heap_alloc w2 _ _ hF2l).trans hF2.out)
    have hM := h.grow1 (by omega) w.heap.size L (by omega) (by omega) (by omega) hF3 (by rw [List.size_toArray, length_splice _ _ _ (by simp; omega)]; simpa using hsz) (by simp [splice]) (by omega) (v' := .slice (some ⟨g, 0, none⟩) 1 cap) (by simpa using hown3) (hP3.out.trans (hB2.block P HP))
    rw [hfull] at hM
    refine ⟨⟨_, _, _, hM⟩, ((((hB2.mono (by omega)).alloc (by omega) _).grown hgrow3 (by simp; omega) ?_).setCell hBP _).setCell hBP _⟩
    intro k hk; simp [Value.ownBlock] at hk; omega
  have Hfin := show Hid _ from hfin
  clear hfin
  have hcase : (2 * l < 16384 ∧ 2 * l ≤ L ∧ L ≤ 2 * l) ∨ (16384 ≤ 2 * l ∧ 16384 ≤ L ∧ L ≤ 16384) := by omega
  clear hL
  rcases hcase with ⟨hL1, hL2, hL3⟩ | ⟨hL1, hL2, hL3⟩
  all_goals
    go_enter Try.func36, Try.ntmps36
    go_wp2_with (first
      | (at_make; refine wpList_make_full _ rfl _ _ 52 rfl B 74 i74 _ 1 Try.underlying52 hi hz0 hz1 .i64 .i64 _ _ L rfl rfl (by omega) (by omega) hb2 (by unfold maxLen; omega) (by omega) ?_; intro w1 hown1 hgrow1; have hpb1 := h.pb.kept (hgrow1.block P HP (by simp)); have d7 := hpb1.c7; have d8 := hpb1.c8; have fz1 := hpb1.fz; have hB1 : Below w.heap.size w w1 := (Below.refl _ _).grown hgrow1 (Nat.le_refl _) (by simp); obtain ⟨cur0, hF1, hsz0, hjunk⟩ := owns_block hown1; clear hjunk; have HF1 : Hid (w1.heap[w.heap.size]? = some (Obj.cells cur0 74 (0, 0))) := hF1; clear hF1 hown1)
      | (with_reducible show wpList _ _ _ (Oper.mk _ (Op.call ⟨Callee.builtin Builtin.copy, _, _⟩) _ _ _ _ :: _) _ _; (refine wpList_copy_splice (by rfl) (.tmp 61) (.tmp 65) 52 52 (by rfl) 74 Try.underlying52 Try.sz74 (some ⟨w.heap.size, 0, none⟩) (some ⟨bk 0, 0, none⟩) L L l l rfl rfl w.heap.size 0 cur0.toList 74 (by simpa using HF1.out) (ns.map nodeV) HN.out (fun _ => ⟨rfl, _, rfl, HS.out _ hB1⟩) (by have e : cur0.toList.length = L := (Array.length_toList (xs := cur0)).trans (hsz0.trans (Nat.mul_one L)); omega) (nodes_oneCell ns) w.heap.size w hB1 (Nat.le_refl _) ?_; intro w2 hF2 hB2; have hpb2 := h.pb.kept (hB2.block P HP); have e7 := hpb2.c7; have e8 := hpb2.c8; have fz2 := hpb2.fz; have hF2l : w.heap.size < w2.heap.size := lt_of_block hF2.out))
      | (at_builtin; (refine wpList_append_lies _ (by rfl) (.tmp 72) (.tmp 74) 51 (by rfl) B 52 i52 _ 1 24 Try.underlying51 gi gz0 gz1 gz2 (by rfl) (by omega) (.slice (some ⟨C, 0, none⟩) 0 cc) 0 [] rfl ((HO.out w2 hB2).alloc _) ⟨w2.heap.size, 0, none⟩ 1 1 [.slice (some ⟨w.heap.size, 0, none⟩) L L] rfl rfl (cell_one_new _ _ _) (by simp [Value.oneCell']) (by omega) (by unfold maxLen; omega) (by omega) (by have := hB2.size; simp; omega) (w2.heap.size + 1) (by simp) ?_; intro g cap w3 hown3 hgrow3 hat3 hlt3; have hP3 : w3.heap[P]? = w2.heap[P]? := (hgrow3.block P (by simp; omega) (by simp [Value.ownBlock]; omega)).trans (Below.heap_alloc w2 _ P (by omega)); have hpb3 := hpb2.kept hP3; have f7 := hpb3.c7; have f8 := hpb3.c8; have fz3 := hpb3.fz; have HP3 : Hid (w3.heap[P]? = w2.heap[P]?) := hP3; clear hP3)))
    all_goals
      go_end0
      exact ⟨rfl, Hfin.out cur0 w2 w3 g cap hsz0 hF2 hB2 hown3 hgrow3 HP3⟩
set_option maxHeartbeats 400000 in
theorem grow_more (w : World) (B P : Nat) (ns : List (Int × Int)) (se : Int) (q : Nat) (bk : Nat → Nat) (chv tlv : Value) (h : MEM w B P ns se (q + 1) 16384 bk chv tlv) (hfull : ns.length = 16384 * (q + 1)) (hq : q < 1000) :
    Calls Try.prog 36 #[.pointer (some ⟨P, 7, none⟩)] w fun e w' => e = .returned (.tuple #[]) ∧ MEMx w' B P ns se (q + 2) 16384 ∧ Below B w w' := by
  obtain ⟨i74, hi, hz0, hz1, hz2⟩ := info_parts Try.info74
  obtain ⟨i52, gi, gz0, gz1, gz2⟩ := info_parts Try.info52
  obtain ⟨C, cc, rfl, hCl, hCP, hBC, hCc⟩ := h.chunk (by omega)
  have hnon := h.non (by omega)
  obtain ⟨hT, hn1, hn2, hl1, hl2⟩ := hnon
  have e0 : ns.length - 16384 * (q + 1 - 1) = 16384 := by omega
  rw [e0] at hT
  subst hT
  have hmk : ∀ w : World, (Instr.makeSlice 52 (.int .i64 16384) (.int .i64 16384)).run Try.prog w = .ok (.slice (some ⟨w.heap.size, 0, none⟩) 16384 16384) (w.alloc (.cells zs16 74)) := by
    intro w
    have := run_make (P := Try.prog) w 52 74 i74 _ Try.underlying52 hi hz0 .i64 .i64 16384 16384 (by omega) (by omega) (by rw [hz2]; omega) (by omega)
    rw [hz1] at this
    exact this
  have c7 := h.pb.c7
  have c8 := h.pb.c8
  have c9 : w.cell? ⟨P, 9, none⟩ = some (.int .i64 (16384 * (q : Int))) := by have := h.pb.c9; simpa using this
  have fz := h.pb.fz
  have HP := h.pb.lt
  have hBP := h.pb.le
  have HO := show Hid _ from h.ch
  have HFull : Hid (ns.length = 16384 * (q + 1)) := hfull
  clear hfull hn1 hn2 e0 hCc
  obtain ⟨W2, hW2⟩ : ∃ W2, W2 = ((w.alloc (.cells zs16 74)).alloc (.cells #[.slice (some ⟨w.heap.size, 0, none⟩) 16384 16384] 52)).drew := ⟨_, rfl⟩
  have hW2h : ∀ b, b < w.heap.size → W2.heap[b]? = w.heap[b]? := fun b hb => by
    rw [hW2]
    exact (Below.heap_alloc (w.alloc (.cells zs16 74)) _ b (by simp; omega)).trans (Below.heap_alloc w _ b hb)
  have hW2s : W2.heap.size = w.heap.size + 2 := by rw [hW2]; simp
  have hO2 : W2.ownsRow B 52 1 (.slice (some ⟨C, 0, none⟩) (q + 1) cc) (q + 1) ((List.range (q + 1)).map fun j => .slice (some ⟨bk j, 0, none⟩) (cp (q + 1) 16384 j) (cp (q + 1) 16384 j)) :=
    owns_heap HO.out (fun g hg => hW2h g (by simp [Value.ownBlock] at hg; omega))
  have hT2 : W2.heap[w.heap.size + 1]? = some (.cells #[.slice (some ⟨w.heap.size, 0, none⟩) 16384 16384] 52 (0, 0)) := by
    have := Go.heap_alloc_new (w.alloc (.cells zs16 74)) (.cells #[.slice (some ⟨w.heap.size, 0, none⟩) 16384 16384] 52 (0, 0))
    have e : (w.alloc (.cells zs16 74)).heap.size = w.heap.size + 1 := by simp
    rw [e] at this
    rw [hW2]
    exact this
  have hF2 : W2.heap[w.heap.size]? = some (.cells zs16 74 (0, 0)) := by
    rw [hW2]
    exact (Below.heap_alloc (w.alloc (.cells zs16 74)) _ _ (by simp)).trans (Go.heap_alloc_new w _)
  have hN2 := World.news_of_block hT2
  rw [hW2] at hO2 hN2
  have hS2 : ((w.alloc (.cells zs16 74)).alloc (.cells #[.slice (some ⟨w.heap.size, 0, none⟩) 16384 16384] 52)).drew.heap.size = w.heap.size + 2 := by rw [← hW2]; exact hW2s
  have hS3 : B ≤ ((w.alloc (.cells zs16 74)).alloc (.cells #[.slice (some ⟨w.heap.size, 0, none⟩) 16384 16384] 52)).drew.heap.size := by rw [hS2]; omega
  have hq1 : q + 1 + 1 ≤ maxLen := by unfold maxLen; omega
  have hq2 : (q + 1 + 1) * 24 ≤ 140737488355328 := by omega
  have HS2 := show Hid _ from hS2
  have HS3 := show Hid _ from hS3
  have HP2 : Hid (∀ w3, ((w.alloc (.cells zs16 74)).alloc (.cells #[.slice (some ⟨w.heap.size, 0, none⟩) 16384 16384] 52)).drew.grownBy w3 (Value.slice (some ⟨C, 0, none⟩) (q + 1) cc).ownBlock → PB w3 B P se (.slice (some ⟨C, 0, none⟩) (q + 1) cc) (.slice (some ⟨bk (q + 1 - 1), 0, none⟩) 16384 16384) ((16384 * (q + 1 - 1) : Nat) : Int)) := by
    intro w3 hg
    refine h.pb.kept ((hg.block P (by rw [hS2]; omega) (by simp [Value.ownBlock]; omega)).trans ?_)
    rw [← hW2]; exact hW2h P HP
  have Hfin : Hid (∀ (w3 : World) (g cap : Nat), w3.ownsRow B 52 1 (.slice (some ⟨g, 0, none⟩) (q + 1 + 1) cap) (q + 1 + 1) (((List.range (q + 1)).map fun j => .slice (some ⟨bk j, 0, none⟩) (cp (q + 1) 16384 j) (cp (q + 1) 16384 j)) ++ [.slice (some ⟨w.heap.size, 0, none⟩) 16384 16384]) →
      ((w.alloc (.cells zs16 74)).alloc (.cells #[.slice (some ⟨w.heap.size, 0, none⟩) 16384 16384] 52)).drew.grownBy w3 (Value.slice (some ⟨C, 0, none⟩) (q + 1) cc).ownBlock →
      PB w3 B P se (.slice (some ⟨C, 0, none⟩) (q + 1) cc) (.slice (some ⟨bk (q + 1 - 1), 0, none⟩) 16384 16384) ((16384 * (q + 1 - 1) : Nat) : Int) →
      MEMx (((w3.setCell ⟨P, 7, none⟩ (.slice (some ⟨g, 0, none⟩) (q + 1 + 1) cap)).setCell ⟨P, 8, none⟩ (.slice (some ⟨w.heap.size, 0, none⟩) 0 16384)).setCell ⟨P, 9, none⟩ (.int .i64 (16384 * (q : Int) + 16384))) B P ns se (q + 2) 16384 ∧
      Below B w (((w3.setCell ⟨P, 7, none⟩ (.slice (some ⟨g, 0, none⟩) (q + 1 + 1) cap)).setCell ⟨P, 8, none⟩ (.slice (some ⟨w.heap.size, 0, none⟩) 0 16384)).setCell ⟨P, 9, none⟩ (.int .i64 (16384 * (q : Int) + 16384)))) := by
    intro w3 g cap ho hg hpb
    rw [← hW2] at hg
    have hF3 : w3.heap[w.heap.size]? = some (.cells zs16 74 (0, 0)) := (hg.block _ (by omega) (by simp [Value.ownBlock]; omega)).trans hF2
    have hrest : ∀ j, j < q + 1 → w3.heap[bk j]? = w.heap[bk j]? := fun j hj => by
      have hlt := ((h.row j hj).lt (bk j) rfl).2
      refine (hg.block _ (by omega) ?_).trans (hW2h _ hlt)
      have := h.bkC hj
      simp [Value.ownBlock] at this ⊢
      exact fun e => this e.symm
    have hP3 : w3.heap[P]? = w.heap[P]? := (hg.block P (by omega) (by simp [Value.ownBlock]; omega)).trans (hW2h P HP)
    have hM := h.grow2 (by omega) HFull.out w.heap.size hF3 zs16_size (by omega) (Nat.le_refl _) (v' := .slice (some ⟨g, 0, none⟩) (q + 1 + 1) cap) ho hP3 hrest
      (w3 := (((w3.setCell ⟨P, 7, none⟩ (.slice (some ⟨g, 0, none⟩) (q + 1 + 1) cap)).setCell ⟨P, 8, none⟩ (.slice (some ⟨w.heap.size, 0, none⟩) 0 16384)).setCell ⟨P, 9, none⟩ (.int .i64 (16384 * (q : Int) + 16384))))
      (fun g' hg' => by rw [heap_setCell_other _ _ g' _ hg', heap_setCell_other _ _ g' _ hg', heap_setCell_other _ _ g' _ hg'])
      (by
        have e : ((16384 * (q + 1) : Nat) : Int) = 16384 * (q : Int) + 16384 := by omega
        rw [e]; exact ((hpb.set7 _).set8 _).set9 _)
    refine ⟨⟨_, _, _, hM⟩, ((Below.setCell (Below.setCell (Below.setCell ?_ hBP _) hBP _) hBP _))⟩
    have hb2 : Below B w W2 := by rw [hW2]; exact ((((Below.refl B w).alloc (by omega) _).alloc (by simp; omega) _).drew)
    exact hb2.grown hg (by omega) (by intro k hk; simp [Value.ownBlock] at hk; omega)
  have HO2 := show Hid _ from hO2
  have HN2 := show Hid _ from hN2
  have HW2 := show Hid _ from hW2
  have HW2h := show Hid _ from hW2h
  have HF2 := show Hid _ from hF2
  have HW2s := show Hid _ from hW2s
  clear hO2 hN2 hT2 hW2h hW2s hF2 hS2 hS3 hW2
  go_enter Try.func36, Try.ntmps36
  go_wp2_with fail
  go_region_law ((refine step_append_lies _ (by rfl) (.tmp 27) (.tmp 29) 51 (by rfl) B 52 i52 (.slice none 0 0) 1 24 Try.underlying51 gi gz0 gz1 gz2 rfl (Nat.le_refl 1) (.slice (some ⟨C, 0, none⟩) (q + 1) cc) (q + 1) _ rfl HO2.out ⟨w.heap.size + 1, 0, none⟩ 1 1 [.slice (some ⟨w.heap.size, 0, none⟩) 16384 16384] rfl rfl HN2.out (sl_one _ _ _) (Nat.le_refl 1) hq1 hq2 HS3.out (w.heap.size + 2) HS2.out ?_; intro g cap w3 hown3 hgrow3 hat3 hlt3; have hpb3 := HP2.out w3 hgrow3; have f7 := hpb3.c7; have f8 := hpb3.c8; have f9 : w3.cell? ⟨P, 9, none⟩ = some (.int .i64 (16384 * (q : Int))) := (hpb3.c9).trans (by simp); have fz3 := hpb3.fz; have hgk := chunk_new hown3; have hgP : g ≠ P := hpb3.ne hown3))
  all_goals
    go_wp2_with fail
    clear c7 c8 c9 fz
    go_region
    all_goals
      go_wp2
      refine bodyPost_ret (results_none rfl _ _ _) rfl ?_
      have hend := Hfin.out w3 g cap hown3 hgrow3 hpb3
      exact ⟨rfl, hend.1.drewN 1, hend.2.drew⟩

/-- there is room for one more node -/
def Room (w : World) (B P : Nat) (ns : List (Int × Int)) (se : Int) : Prop := ∃ k l bk chv tlv, MEM w B P ns se k l bk chv tlv ∧ 0 < k ∧ ns.length < 16384 * (k - 1) + l

theorem grow_any (w : World) (B P : Nat) (ns : List (Int × Int)) (se : Int) (k l : Nat) (bk : Nat → Nat) (chv tlv : Value) (h : MEM w B P ns se k l bk chv tlv) (hfull : ns.length = 16384 * (k - 1) + l) (hn : ns.length < 1000000) :
    Calls Try.prog 36 #[.pointer (some ⟨P, 7, none⟩)] w fun e w' => e = .returned (.tuple #[]) ∧ Room w' B P ns se ∧ Below B w w' := by
  rcases Nat.eq_zero_or_pos k with hk | hk
  · subst hk
    obtain ⟨rfl, rfl, -⟩ := h.emp rfl
    refine (grow_zero w B P se bk chv tlv h).mono ?_
    rintro e w' ⟨rfl, ⟨bk', chv', tlv', hm⟩, hb⟩
    exact ⟨rfl, ⟨1, 64, bk', chv', tlv', hm, by omega, by simp⟩, hb⟩
  · by_cases hl : l = 16384
    · subst hl
      obtain ⟨q, rfl⟩ : ∃ q, k = q + 1 := ⟨k - 1, by omega⟩
      refine (grow_more w B P ns se q bk chv tlv h (by omega) (by omega)).mono ?_
      rintro e w' ⟨rfl, ⟨bk', chv', tlv', hm⟩, hb⟩
      exact ⟨rfl, ⟨q + 2, 16384, bk', chv', tlv', hm, by omega, by omega⟩, hb⟩
    · obtain rfl : k = 1 := by
        rcases Nat.lt_or_ge 1 k with h1 | h1
        · exact absurd (h.big h1) hl
        · omega
      have hnon := h.non (by omega)
      by_cases h2 : 2 * l < 16384
      · refine (grow_one w B P ns se l (2 * l) bk chv tlv h (by omega) (by omega) (.inl ⟨h2, rfl⟩)).mono ?_
        rintro e w' ⟨rfl, ⟨bk', chv', tlv', hm⟩, hb⟩
        exact ⟨rfl, ⟨1, 2 * l, bk', chv', tlv', hm, by omega, by omega⟩, hb⟩
      · refine (grow_one w B P ns se l 16384 bk chv tlv h (by omega) (by omega) (.inr ⟨by omega, rfl⟩)).mono ?_
        rintro e w' ⟨rfl, ⟨bk', chv', tlv', hm⟩, hb⟩
        exact ⟨rfl, ⟨1, 16384, bk', chv', tlv', hm, by omega, by omega⟩, hb⟩

end Go.Proofs.Qxb6616010a
