/- offer: (*signInTurns).offer, to the first of a line. -/
import Derived.Test.Qxb6616195aQueue2
import Derived.Test.Qxb6616195aComm
namespace Go.Proofs.Qxb6616195a
open Go.RowKit Go.Conc

theorem TW.setChan {w : World} {F T : Nat} {s : Int} {M : List Ent} {W : Nat} {p : WS} {O : Nat} {q : WS} (h : TW w F T s M W p O q) (buf : Array Value) (n : Nat) (hb : buf.size = n) (sn rc : Nat) :
    TW (w.setChan p.ch 1 buf false sn rc false) F T s M W { p with tok := n } O q ∧ Fr F XS w (w.setChan p.ch 1 buf false sn rc false) := by
  obtain ⟨buf0, s0, r0, hc, hs⟩ := h.tp.chan
  have hlt := (Array.getElem?_eq_some_iff.1 hc).1
  have hoth : ∀ b, b ≠ p.ch → (w.setChan p.ch 1 buf false sn rc false).heap[b]? = w.heap[b]? := fun b hb => by
    simp only [World.setChan]; rw [Array.getElem?_setIfInBounds_ne (by omega)]
  have hf : Fr F (fun b o => b = p.ch ∧ isCh o) w (w.setChan p.ch 1 buf false sn rc false) :=
    ⟨rfl, rfl, rfl, by simp [World.setChan], fun b hb => hoth b (by have := h.tp.lowC; omega), fun b o ho hx => by
      rw [hoth b]
      · exact ho
      · rintro rfl
        rw [hc] at ho; cases ho
        exact hx ⟨rfl, _, _, _, _, _, _, rfl⟩⟩
  refine ⟨⟨Nat.le_trans h.size hf.size, ?_, ?_, ?_, h.ne, h.nc⟩, hf.mono fun b o hx => .inr (.inr (.inr (.inr (.inr hx.2))))⟩
  · obtain ⟨mb, ht⟩ := h.ts
    exact ⟨mb, ht.fr hf fun b o hx => ⟨fun k => isT_nC k hx.2, fun k => isM_nC k hx.2, fun k => isT_nC k hx.2, fun k => isT_nC k hx.2⟩⟩
  · refine ⟨h.tp.low, ?_, h.tp.lowC, ⟨buf, sn, rc, heap_setChan w _ _ _ _ _ _ _ hlt, hb⟩, h.tp.row.fr hf fun b o hx k => isT_nC k hx.2⟩
    exact hf.keep _ _ h.tp.blk fun hx => isT_nC ⟨_, _, rfl⟩ hx.2
  · refine h.tq.keep ?_ ?_ ?_
    · rw [h.tq.blk]; exact hf.keep _ _ h.tq.blk fun hx => isT_nC ⟨_, _, rfl⟩ hx.2
    · exact hoth _ fun e => h.nc e.symm
    · rintro b ⟨C, m, hb⟩
      rw [hb]; exact hf.keep _ _ hb fun hx => isT_nC ⟨_, _, rfl⟩ hx.2

def OffR (w : World) (F T : Nat) (s : Int) (M : List Ent) (W : Nat) (p : WS) (O : Nat) (q : WS) (k : Ky) (w' : World) : Prop :=
  ∃ M' qv', TW w' F T s M' W { ch := p.ch, qv := qv', qs := [], off := k, tok := 1 } O q ∧ (∀ k', LV M' k' = rmf p.qs [] (LV M) k') ∧ M'.length ≤ M.length ∧ Fr F XS w w'

set_option maxHeartbeats 1000000 in
set_option maxRecDepth 20000 in
theorem offer_any (w : World) (F T : Nat) (s : Int) (M : List Ent) (W : Nat) (p : WS) (O : Nat) (q : WS) (k : Ky) (rest : List Nat) (h : TW w F T s M W p O q) (hk : LV M k = some (W :: rest)) (htok : p.tok = 0)
    (hqd : p.qs.Nodup) (hqlen : p.qs.length ≤ 100000) (hM : M.length ≤ 900000) (hline : ∀ k ∈ p.qs, LV M k = some [W] ∨ LV M k = some [W, O]) (hsh : ∀ k l, LV M k = some l → l.length ≤ 1000) :
    Calls Try.prog 32 #[ptr T, .string ⟨k.toArray⟩] w fun e w' => e = .returned (.tuple #[]) ∧ OffR w F T s M W p O q k w' := by
  obtain ⟨mb, hts⟩ := h.ts
  obtain ⟨M1, x, M2, hMe, hx1, hx2, hlk⟩ := ent_of hts hk
  have hx : ENT w F x := hts.ents x (by rw [hMe]; simp)
  obtain ⟨-, c2, -, -, -⟩ := hts.cells
  have hlook := hts.mp.look k (by rw [← hx1]; exact hx.key)
  rw [hlk] at hlook
  simp only [ptrV] at hlook
  obtain ⟨-, e1, -, hcl⟩ := hx.cells
  have hrow := hx.row
  rw [hx2] at hrow
  obtain ⟨g, cap, hv, -, -⟩ := hrow.form (by simp)
  rw [hv] at hrow
  have g0 := hrow.cellAt 0 (by simp)
  simp only [List.map_cons, List.getElem?_cons_zero] at g0
  rw [hv] at e1
  simp only [List.length_cons] at e1
  obtain ⟨m, hm⟩ : ∃ m, m = rest.length := ⟨_, rfl⟩
  rw [← hm] at e1
  have kq := queue_any w F T s M W p O q [] (.slice none 0 0) h (SROW.nil _ _ _) List.nodup_nil hqd (by simp) hqlen (by simp) (by simp; omega) (fun k hk _ => hline k hk) hsh
  obtain ⟨kb, hkb⟩ : ∃ kb : ByteArray, kb = ⟨k.toArray⟩ := ⟨_, rfl⟩
  rw [← hkb] at hlook ⊢
  have HKB : Hid (kb = ⟨k.toArray⟩) := hkb
  have HT : Hid (p.tok = 0) := htok
  clear hqd hqlen hM hline hsh hts hMe hx1 hx2 hlk hx hrow hv hm hkb h hk htok
  unfold ptr at g0 kq ⊢
  refine calls_of_wpN Try.func32 rfl ?_
  simp only [Try.ntmps32, List.size_toArray, List.length_cons, List.length_nil, Nat.reduceAdd, Nat.reduceSub, Array.replicate_succ, Array.replicate_zero, List.push_toArray, List.append_toArray, List.nil_append, List.cons_append]
  obtain ⟨xc, hxc⟩ : ∃ xc, xc = x.2.1 := ⟨_, rfl⟩
  rw [← hxc] at hlook e1 hcl
  clear hxc
  refine wpN_seq fun K hK => ?_
  go_wp2
  refine wpN_seq fun K hK => ?_
  go_wp2
  refine wpN_seq fun K hK => ?_
  go_wp2
  refine wpN_seq fun K hK => ?_
  go_wp2_with (first
    | (go_at_call 37; refine kq.mono ?_; rintro e w2 ⟨rfl, hQ2⟩))
  clear kq
  obtain ⟨M', qv', hTW, hlv, hlen, hfr⟩ := hQ2
  obtain ⟨-, -, d2, hWl2, dz2⟩ := hTW.tp.cells
  have dz := dz2 2
  obtain ⟨oldb, hold⟩ : ∃ oldb : ByteArray, oldb = ⟨p.off.toArray⟩ := ⟨_, rfl⟩
  simp only [← hold] at d2
  have hset := hTW.set (p' := { ch := p.ch, qv := qv', qs := [], off := k, tok := p.tok }) 2 (.string kb) rfl rfl (by
    have := hTW.tp.blk
    simp [World.setCell, Array.getElem?_modify, this, HKB.out]) hTW.tp.row
  obtain ⟨w3, hw3⟩ : ∃ w3, w3 = w2.setCell ⟨W, 2, none⟩ (.string kb) := ⟨_, rfl⟩
  rw [← hw3] at hset
  obtain ⟨h3, hf3⟩ := hset
  obtain ⟨dch, -, -, -, -⟩ := h3.tp.cells
  have HH : Hid (TW w3 F T s M' W { ch := p.ch, qv := qv', qs := [], off := k, tok := p.tok } O q ∧ (∀ k', LV M' k' = adf W [] p.qs (rmf p.qs [] (LV M)) k') ∧ M'.length ≤ M.length + 0 ∧ Fr F XS w w3) := ⟨h3, hlv, hlen, hfr.trans hf3⟩
  clear hTW hlv hlen hfr h3 hf3 dz2 hold
  refine wpN_seq fun K hK => ?_
  go_wp2
  simp only [← hw3]
  obtain ⟨buf, sn, rc, hch, hbs⟩ := HH.out.1.tp.chan
  simp only at hch hbs dch
  rw [HT.out] at hbs
  obtain rfl : buf = #[] := Array.eq_empty_of_size_eq_zero hbs
  clear d2 dz e1 g0 hlook c2 hcl hWl2 hw3 hbs
  refine arr_region ?_
  simp only [List.size_toArray, List.length_cons, List.length_nil, Nat.reduceAdd, List.range_succ, List.range_zero, List.nil_append, List.cons_append]
  refine arr_step rfl rfl (fun K hK => ?_); go_simp; refine hK _ _ ?_; clear hK K
  refine arr_step rfl rfl (fun K hK => ?_); go_simp; refine hK _ _ ?_; clear hK K
  refine arr_step rfl rfl (fun K hK => ?_); go_simp; refine hK _ _ ?_; clear hK K
  refine arr_step rfl rfl (fun K hK => ?_); go_simp; refine hK _ _ ?_; clear hK K
  refine arr_step rfl rfl (fun K hK => ?_); go_simp; refine hK _ _ ?_; clear hK K
  refine arr_comm (v := undef) (w' := w3.setChan p.ch 1 (#[].push (.agg #[])) false (sn + 1) rc false) rfl (fun b k cs hb =>
    step_lone_send_room (c := p.ch) (cap := 1) (buf := #[]) (s := sn) (r := rc) (tm := false) (stepG_comm (cases := #[scase p.ch (.agg #[]) (.tuple #[])]) (blocking := true) (shape := .send) (w' := w3) rfl rfl hb (by simp [execOp, scase, Act.eval, Act.put])) hch (by simp)) ?_
  refine arr_nil ?_
  obtain ⟨h3, hlv, hlen, hfr⟩ := HH.out
  have hset := h3.setChan (#[].push (.agg #[])) 1 rfl (sn + 1) rc
  refine bodyPost_end (results_none rfl _ _ _) rfl ⟨rfl, M', qv', hset.1, ?_, by omega, hfr.trans hset.2⟩
  intro k'
  rw [hlv]
  simp [adf]
end Go.Proofs.Qxb6616195a
