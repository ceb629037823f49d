/- queue, walked. -/
import Derived.Test.Qxb6616195aQueue
namespace Go.Proofs.Qxb6616195a
open Go.RowKit

def QueR (w : World) (F T : Nat) (s : Int) (M : List Ent) (W : Nat) (p : WS) (O : Nat) (q : WS) (ks : List Ky) (w' : World) : Prop :=
  ∃ M' qv', TW w' F T s M' W { p with qv := qv', qs := ks } O q ∧ (∀ k, LV M' k = adf W ks p.qs (rmf p.qs ks (LV M)) k) ∧ M'.length ≤ M.length + ks.length ∧ Fr F XS w w'

theorem SROW.fr {F : Nat} {X : Nat → Obj → Prop} {w w' : World} {v : Value} {ks : List Ky} (h : SROW w v ks) (k : Fr F X w w') (hX : ∀ b o, X b o → ¬ isT 9 o) : SROW w' v ks :=
  h.keep fun b hb => by
    obtain ⟨C, m, hb⟩ := hb
    rw [hb]; exact k.keep _ _ hb fun hx => hX _ _ hx ⟨_, _, rfl⟩
theorem SROW.lit {w : World} {v : Value} {ks : List Ky} (h : SROW w v ks) : ∃ a c, v = .slice a ks.length c := by
  obtain ⟨a, c, b, o, e, _⟩ := h
  exact ⟨a, c, e⟩
theorem SROW.cell {w : World} {a : Option Addr} {n c : Nat} {ks : List Ky} (h : SROW w (.slice a n c) ks) (hp : 0 < ks.length) : ∃ b o, a = some ⟨b, o, none⟩ ∧ ∀ j k, ks[j]? = some k → w.cell? ⟨b, o + j, none⟩ = some (.string ⟨k.toArray⟩) := by
  obtain ⟨a', c', b, o, e, ha, hc⟩ := h
  simp only [Value.slice.injEq] at e
  obtain ⟨rfl, -, -⟩ := e
  exact ⟨b, o, (ha hp).1, hc⟩

theorem TW.set {w : World} {F T : Nat} {s : Int} {M : List Ent} {W : Nat} {p p' : WS} {O : Nat} {q : WS} (h : TW w F T s M W p O q) (i : Nat) (v : Value) (hc : p'.ch = p.ch) (ht : p'.tok = p.tok)
    (hblk : (w.setCell ⟨W, i, none⟩ v).heap[W]? = some (.cells #[.chan (some p'.ch), p'.qv, .string ⟨p'.off.toArray⟩] 66 (0, 0))) (hrow : SROW w p'.qv p'.qs) :
    TW (w.setCell ⟨W, i, none⟩ v) F T s M W p' O q ∧ Fr F XS w (w.setCell ⟨W, i, none⟩ v) := by
  have hf : Fr F (fun b o => b = W ∧ isT 66 o) w (w.setCell ⟨W, i, none⟩ v) := Fr.set w W i v h.tp.low fun o ho => by
    rw [h.tp.blk] at ho; cases ho; exact ⟨rfl, _, _, rfl⟩
  refine ⟨⟨by simpa using h.size, ?_, ?_, ?_, h.ne, by rw [hc]; exact h.nc⟩, hf.mono fun b o hx => .inr (.inr (.inr (.inr (.inl hx.2))))⟩
  · obtain ⟨mb, hts⟩ := h.ts
    exact ⟨mb, hts.fr hf fun b o hx => ⟨isT_ne hx.2 (by decide), isT_nM hx.2, isT_ne hx.2 (by decide), isT_ne hx.2 (by decide)⟩⟩
  · obtain ⟨buf, s', r, hch, hb⟩ := h.tp.chan
    refine ⟨h.tp.low, hblk, by rw [hc]; exact h.tp.lowC, ⟨buf, s', r, ?_, by rw [ht]; exact hb⟩, hrow.fr hf fun b o hx => isT_ne hx.2 (by decide)⟩
    rw [hc]
    exact hf.keep _ _ hch fun hx => isT_nC hx.2 ⟨_, _, _, _, _, _, rfl⟩
  · obtain ⟨buf, s', r, hch, hb⟩ := h.tq.chan
    refine h.tq.keep ?_ ?_ ?_
    · exact Below.heap_setCell _ _ _ _ (by simpa using fun e => h.ne e.symm)
    · rw [hch]; exact hf.keep _ _ hch fun hx => isT_nC hx.2 ⟨_, _, _, _, _, _, rfl⟩
    · rintro b ⟨C, m, hb⟩
      rw [hb]; exact hf.keep _ _ hb fun hx => isT_ne hx.2 (by decide) ⟨_, _, rfl⟩

set_option maxHeartbeats 1000000 in
set_option maxRecDepth 20000 in
theorem queue_walk (w : World) (F T : Nat) (s : Int) (M : List Ent) (W : Nat) (p : WS) (O : Nat) (q : WS) (ks : List Ky) (h : TW w F T s M W p O q)
    (n c : Nat) (av : Option Addr) (hn : n = ks.length) (hv : SROW w (.slice av n c) ks)
    (qa : Option Addr) (qn qc : Nat) (hqv : p.qv = .slice qa qn qc) (hqn : qn = p.qs.length) (hq : SROW w (.slice qa qn qc) p.qs)
    (hnd : ks.Nodup) (hqd : p.qs.Nodup) (hlen : n ≤ 100000) (hqlen : qn ≤ 100000) (hkl : ∀ k ∈ ks, k.length ≤ 1048576) (hM : M.length + ks.length ≤ 1000000)
    (hline : ∀ k ∈ p.qs, k ∉ ks → LV M k = some [W] ∨ LV M k = some [W, O]) (hsh : ∀ k l, LV M k = some l → l.length ≤ 1000) :
    Calls Try.prog 37 #[ptr T, ptr W, .slice av n c] w fun e w' => e = .returned (.tuple #[]) ∧ QueR w F T s M W p O q ks w' := by
  obtain ⟨-, d1, -, hWl, dz⟩ := h.tp.cells
  rw [hqv] at d1
  have hb1 : Below w.heap.size w (w.alloc (.cells #[ptr W] 29)) := (Below.refl w.heap.size w).alloc (Nat.le_refl _) _
  have h1 : TW (w.alloc (.cells #[ptr W] 29)) F T s M W p O q := h.below hb1
  have hv1 : SROW (w.alloc (.cells #[ptr W] 29)) (.slice av n c) ks := hv.rok (RoK.below hb1)
  have hq1 : SROW (w.alloc (.cells #[ptr W] 29)) (.slice qa qn qc) p.qs := hq.rok (RoK.below hb1)
  have HQ0 : Hid (QS (w.alloc (.cells #[ptr W] 29)) (w.alloc (.cells #[ptr W] 29)) F T s w.heap.size W M.length (LV M) M) := by
    refine ⟨h1.size, h1.ts, fun _ => rfl, Fr.refl _ _ _, heap_alloc_new w _, ?_, Nat.le_refl _⟩
    obtain ⟨mb, ht⟩ := h.ts
    intro x hx e
    obtain ⟨C, hC⟩ := (ht.ents x hx).rowT e
    have := (Array.getElem?_eq_some_iff.1 hC).1
    omega
  have HV : Hid (∀ wr, Fr F XA (w.alloc (.cells #[ptr W] 29)) wr → SROW wr (.slice av n c) ks) := fun wr hf => hv1.fr hf fun b o hx => (XA_w b o hx).2.2
  have HQV : Hid (∀ wr, Fr F XA (w.alloc (.cells #[ptr W] 29)) wr → SROW wr (.slice qa qn qc) p.qs) := fun wr hf => hq1.fr hf fun b o hx => (XA_w b o hx).2.2
  have HP : Hid (∀ wr, Fr F XA (w.alloc (.cells #[ptr W] 29)) wr → WT wr F W p ∧ WT wr F O q) := fun wr hf => ⟨h1.tp.fr hf XA_w, h1.tq.fr hf XA_w⟩
  have HN : Hid (n = ks.length) := hn
  have HQN : Hid (qn = p.qs.length) := hqn
  have HQVv : Hid (p.qv = .slice qa qn qc) := hqv
  have HND : Hid (ks.Nodup ∧ p.qs.Nodup) := ⟨hnd, hqd⟩
  have HL : Hid (∀ k ∈ p.qs, k ∉ ks → LV M k = some [W] ∨ LV M k = some [W, O]) := hline
  have HSH : Hid (∀ k l, LV M k = some l → l.length ≤ 1000) := hsh
  clear hsh
  have HKL : Hid (∀ k ∈ ks, k.length ≤ 1048576) := hkl
  have HM : Hid (M.length + ks.length ≤ 1000000) := hM
  have HH : Hid (TW w F T s M W p O q) := h
  have HOW : Hid (O ≠ W) := fun e => h.ne e.symm
  have d1' : (w.alloc (.cells #[ptr W] 29)).cell? ⟨W, 1, none⟩ = some (.slice qa qn qc) := (hb1.cell (p := ⟨W, 1, none⟩) hWl).trans d1
  clear hnd hqd hkl hM hline h h1 hv hv1 hq hq1 hqv hn hqn hb1 dz
  obtain ⟨w1, hw1⟩ : ∃ w1, w1 = w.alloc (.cells #[ptr W] 29) := ⟨_, rfl⟩
  rw [← hw1] at HQ0 HV HQV HP d1'
  have HW1 : Hid (w1 = w.alloc (.cells #[ptr W] 29)) := hw1
  unfold ptr
  go_enter Try.func37, Try.ntmps37
  go_wp2_with fail
  go_loopw [17] (fun x wr => ∃ i : Nat, i ≤ qn ∧ x = .int .i64 i ∧ ∃ M', QS w1 wr F T s w.heap.size W M.length (rmf (p.qs.take i) ks (LV M)) M') (fun x _ => qn - (intOf x).toNat)
  case atStart =>
    refine ⟨0, by omega, rfl, M, ?_⟩
    have e : rmf (p.qs.take 0) ks (LV M) = LV M := by funext k; simp [rmf]
    rw [e]
    have := HQ0.out
    rw [hw1] at this ⊢
    exact this
  case round =>
    obtain ⟨i, hi, rfl, M', hQ⟩ := hrel
    clear hw1 d1 d1' HQ0
    have HQ : Hid (QS w1 wr F T s w.heap.size W M.length (rmf (p.qs.take i) ks (LV M)) M') := hQ
    have hS := HV.out wr hQ.fr
    have hSq := HQV.out wr hQ.fr
    have hcB := hQ.cellB.1
    by_cases hlt : i < qn
    · obtain ⟨qb, qo, rfl, hqc⟩ := hSq.cell (by have := HQN.out; omega)
      have hk : p.qs[i]? = some (p.qs[i]'(by have := HQN.out; omega)) := List.getElem?_eq_getElem _
      obtain ⟨key, hke⟩ : ∃ k, k = p.qs[i]'(by have := HQN.out; omega) := ⟨_, rfl⟩
      rw [← hke] at hk
      have d := hqc i key hk
      have kc := contains_any wr ks key _ hS (by have := HN.out; omega)
      have HK : Hid (p.qs[i]? = some key) := hk
      obtain ⟨kb, hkb⟩ : ∃ kb : ByteArray, kb = ⟨key.toArray⟩ := ⟨_, rfl⟩
      rw [← hkb] at d kc
      have HKB : Hid (kb = ⟨key.toArray⟩) := hkb
      by_cases hin : key ∈ ks
      · rw [decide_eq_true hin] at kc
        have HS : Hid (∃ M', QS w1 wr F T s w.heap.size W M.length (rmf (p.qs.take (i + 1)) ks (LV M)) M') := ⟨M', by
          have e : rmf (p.qs.take (i + 1)) ks (LV M) = rmf (p.qs.take i) ks (LV M) := funext fun k => rmf_same hk hin k
          show QS _ _ _ _ _ _ _ _ _ _
          rw [e]; exact hQ⟩
        clear hk hke hkb hin hS hSq hqc hQ
        go_wp2_with (first
          | (go_at_call 38; refine kc.mono ?_; rintro e w' ⟨rfl, hw'⟩; subst w'))
        go_roundw
        case rel => exact ⟨i + 1, by omega, by go_num, HS.out⟩
        case measure => simp [intOf]; omega
      · rw [decide_eq_false hin] at kc
        have HIN : Hid (key ∉ ks) := hin
        obtain ⟨mb, hts⟩ := hQ.ts
        have hat : LV M' key = LV M key := by rw [hQ.lv, rmf_at hk HND.out.2]
        have hline := HL.out key (List.mem_of_getElem? hk) hin
        rw [← hat] at hline
        obtain ⟨l, hl, hll⟩ : ∃ l, LV M' key = some l ∧ (l = [W] ∨ l = [W, O]) := by
          rcases hline with h | h
          · exact ⟨_, h, .inl rfl⟩
          · exact ⟨_, h, .inr rfl⟩
        obtain ⟨M1, x, M2, hMe, hx1, hx2, hlk⟩ := ent_of hts hl
        subst hMe
        have hx := hts.ents x (by simp)
        obtain ⟨bm, rfl⟩ : ∃ bm, mb = some bm := by
          cases mb with
          | none =>
            have e : vw (M1 ++ x :: M2) = [] := hts.mp
            simp [vw] at e
          | some bm => exact ⟨bm, rfl⟩
        obtain ⟨-, c2, -, -, -⟩ := hts.cells
        have hlook := hts.mp.look key (by rw [← hx1]; exact hx.key)
        rw [hlk] at hlook
        simp only [ptrV] at hlook
        rw [← hkb] at hlook
        obtain ⟨-, e1, ez, hcl⟩ := hx.cells
        have hPQ := HP.out wr hQ.fr
        have hW := hPQ.1.isW
        have hO := hPQ.2.isW
        have hnb := hQ.nb x (by simp)
        have hBc : w.heap.size ≠ x.2.1 := by
          intro e
          have := hQ.box
          rw [e, hx.cnt] at this; simp at this
        have hrs : ∀ k, rmf (p.qs.take (i + 1)) ks (LV M) k = if k = x.1 then rmv (some l) else rmf (p.qs.take i) ks (LV M) k := by
          intro k
          rw [hx1, rmf_succ hk hin, ← hat, hl]
        rcases hll with hll | hll
        · obtain ⟨g, cap, hrow, hcap, g0, f0, hgl, hfin⟩ := rm1 hts hQ.size (hx2.trans hll)
          rw [hrow] at e1 hnb
          have kd := del1 wr g cap W w.heap.size hcB hW g0 f0 hcap
          have hgc : x.2.1 ≠ g := by
            rintro rfl
            obtain ⟨C, hC⟩ := hx.rowT (g := x.2.1) (by rw [hrow]; rfl)
            rw [hx.cnt] at hC; simp at hC
          have e1' : (wr.setCell ⟨g, 0, none⟩ (.pointer none)).cell? ⟨x.2.1, 1, none⟩ = some (.slice (some ⟨g, 0, none⟩) 1 cap) := (World.cell?_setCell_other wr ⟨g, 0, none⟩ ⟨x.2.1, 1, none⟩ _ (by simp)).trans e1
          have kt := tidy_any _ F T bm s _ (x.1, x.2.1, .slice (some ⟨g, 0, none⟩) 0 cap, []) hfin.1 (by simp) (lookup_of_mem hfin.1.nodup (by simp)) (Nat.le_trans hQ.size hfin.2.size)
          have kt' := kt.mono (R' := fun e w3 => e = .returned (.tuple #[]) ∧ ∃ M'', QS w1 w3 F T s w.heap.size W M.length (rmf (p.qs.take (i + 1)) ks (LV M)) M'') (fun e w3 hT => ⟨hT.1, hQ.tidied (by rw [hrow]; rfl) hfin (by
            rw [Below.heap_setCell _ _ _ _ (by simpa using hBc), Below.heap_setCell _ _ _ _ (by simpa [Value.ownBlock] using fun e : w.heap.size = g => hnb (by rw [e]; rfl))]) hT (fun k => by rw [hrs, hll]; rfl)⟩)
          clear kt
          have e5 : (⟨x.1.toArray⟩ : ByteArray) = kb := by rw [hx1, hkb]
          simp only [e5] at kt'
          obtain ⟨xc, hxc⟩ : ∃ xc, xc = x.2.1 := ⟨_, rfl⟩
          rw [← hxc] at kt' hlook e1 e1' ez hcl
          clear hk hke hkb hin hS hSq hqc hQ hts hl hx1 hx2 hlk hx hfin hPQ hW hO hnb hBc hrs hll hrow hgc e5 hxc hat hline
          unfold ptr at g0 kt'
          unfold clo at kd
          go_wp2_with (first
            | (go_at_call 38; refine kc.mono ?_; rintro e w' ⟨rfl, hw'⟩; subst w')
            | (go_at_call 41; refine kd.mono ?_; rintro e w' ⟨rfl, hw'⟩; subst w')
            | (go_at_call 43; refine kt'.mono ?_; rintro e w3 ⟨rfl, hM3⟩))
          go_roundw
          case rel => exact ⟨i + 1, by omega, by go_num, hM3⟩
          case measure => simp [intOf]; omega
        · obtain ⟨g, cap, hrow, hcap, g0, g1, f0, hgl, hfin⟩ := rm2 hts hQ.size (hx2.trans hll)
          rw [hrow] at e1 hnb
          have kd := del2 wr g cap W O w.heap.size hcB hW hO HOW.out g0 g1 (f0 0) (f0 1) hcap
          have hgc : x.2.1 ≠ g := by
            rintro rfl
            obtain ⟨C, hC⟩ := hx.rowT (g := x.2.1) (by rw [hrow]; rfl)
            rw [hx.cnt] at hC; simp at hC
          have e1' : ((wr.setCell ⟨g, 0, none⟩ (ptr O)).setCell ⟨g, 1, none⟩ (.pointer none)).cell? ⟨x.2.1, 1, none⟩ = some (.slice (some ⟨g, 0, none⟩) 2 cap) :=
            (World.cell?_setCell_other _ ⟨g, 1, none⟩ ⟨x.2.1, 1, none⟩ _ (by simp)).trans ((World.cell?_setCell_other wr ⟨g, 0, none⟩ ⟨x.2.1, 1, none⟩ _ (by simp)).trans e1)
          have kt := tidy_any _ F T bm s _ (x.1, x.2.1, .slice (some ⟨g, 0, none⟩) 1 cap, [O]) hfin.1 (by simp) (lookup_of_mem hfin.1.nodup (by simp)) (Nat.le_trans hQ.size hfin.2.size)
          have hBg : w.heap.size ≠ g := fun e => hnb (by rw [e]; rfl)
          have kt' := kt.mono (R' := fun e w3 => e = .returned (.tuple #[]) ∧ ∃ M'', QS w1 w3 F T s w.heap.size W M.length (rmf (p.qs.take (i + 1)) ks (LV M)) M'') (fun e w3 hT => ⟨hT.1, hQ.tidied (by rw [hrow]; rfl) hfin (by
            rw [Below.heap_setCell _ _ _ _ (by simpa using hBc), Below.heap_setCell _ _ _ _ (by simpa using hBg), Below.heap_setCell _ _ _ _ (by simpa using hBg)]) hT (fun k => by rw [hrs, hll]; rfl)⟩)
          clear kt
          have e5 : (⟨x.1.toArray⟩ : ByteArray) = kb := by rw [hx1, hkb]
          simp only [e5] at kt'
          obtain ⟨xc, hxc⟩ : ∃ xc, xc = x.2.1 := ⟨_, rfl⟩
          rw [← hxc] at kt' hlook e1 e1' ez hcl
          clear hk hke hkb hin hS hSq hqc hQ hts hl hx1 hx2 hlk hx hfin hPQ hW hO hnb hBc hrs hll hrow hgc e5 hxc hat hline hBg
          unfold ptr at g0 g1 kt' kd e1'
          unfold clo at kd
          go_wp2_with (first
            | (go_at_call 38; refine kc.mono ?_; rintro e w' ⟨rfl, hw'⟩; subst w')
            | (go_at_call 41; refine kd.mono ?_; rintro e w' ⟨rfl, hw'⟩; subst w')
            | (go_at_call 43; refine kt'.mono ?_; rintro e w3 ⟨rfl, hM3⟩))
          go_roundw
          case rel => exact ⟨i + 1, by omega, by go_num, hM3⟩
          case measure => simp [intOf]; omega
    · have e1 : rmf (p.qs.take i) ks (LV M) = rmf p.qs ks (LV M) := by rw [List.take_of_length_le (by have := HQN.out; omega)]
      rw [e1] at hQ
      have HQ1 : Hid (QS w1 wr F T s w.heap.size W M.length (rmf p.qs ks (LV M)) M') := hQ
      clear hQ HQ hS hSq hcB e1
      go_wp2_with fail
      go_loopw [46] (fun x wq => ∃ j : Nat, j ≤ n ∧ x = .int .i64 j ∧ ∃ M', QS w1 wq F T s w.heap.size W (M.length + j) (adf W (ks.take j) p.qs (rmf p.qs ks (LV M))) M') (fun x _ => n - (intOf x).toNat)
      case atStart =>
        refine ⟨0, by omega, rfl, M', ?_⟩
        have e : adf W (ks.take 0) p.qs (rmf p.qs ks (LV M)) = rmf p.qs ks (LV M) := by funext k; simp [adf]
        rw [e]
        exact HQ1.out
      case round =>
        obtain ⟨j, hj, rfl, M3, hQ⟩ := hrel
        rename World => wq
        obtain ⟨hWT, hOT⟩ := HP.out wq hQ.fr
        obtain ⟨-, dW, -, hWlq, dzW⟩ := hWT.cells
        rw [HQVv.out] at dW
        have hS := HV.out wq hQ.fr
        have hSq := HQV.out wq hQ.fr
        obtain ⟨hcB, hBl⟩ := hQ.cellB
        unfold ptr at hcB
        by_cases hlt2 : j < n
        · obtain ⟨b, o, rfl, hbc⟩ := hS.cell (by have := HN.out; omega)
          have hk : ks[j]? = some (ks[j]'(by have := HN.out; omega)) := List.getElem?_eq_getElem _
          obtain ⟨key, hke⟩ : ∃ k, k = ks[j]'(by have := HN.out; omega) := ⟨_, rfl⟩
          rw [← hke] at hk
          have d := hbc j key hk
          have kc := contains_any wq p.qs key _ hSq (by have := HQN.out; omega)
          by_cases hin : key ∈ p.qs
          · rw [decide_eq_true hin] at kc
            have HS : Hid (∃ M', QS w1 wq F T s w.heap.size W (M.length + (j + 1)) (adf W (ks.take (j + 1)) p.qs (rmf p.qs ks (LV M))) M') := ⟨M3, by
              have e : adf W (ks.take (j + 1)) p.qs (rmf p.qs ks (LV M)) = adf W (ks.take j) p.qs (rmf p.qs ks (LV M)) := funext fun k => adf_same hk hin k
              show QS _ _ _ _ _ _ _ _ _ _
              rw [e]; exact ⟨hQ.size, hQ.ts, hQ.lv, hQ.fr, hQ.box, hQ.nb, by have := hQ.len; omega⟩⟩
            obtain ⟨kb, hkb⟩ : ∃ kb : ByteArray, kb = ⟨key.toArray⟩ := ⟨_, rfl⟩
            rw [← hkb] at d kc
            clear hk hke hkb hin hS hSq hbc hQ hWT hOT
            go_wp2_with (first
              | (go_at_call 38; refine kc.mono ?_; rintro e w' ⟨rfl, hw'⟩; subst w'))
            go_roundw
            case rel => exact ⟨j + 1, by omega, by go_num, HS.out⟩
            case measure => simp [intOf]; omega
          · rw [decide_eq_false hin] at kc
            obtain ⟨mb, hts⟩ := hQ.ts
            have kn := count_any wq F T s mb M3 key hts (HKL.out key (List.mem_of_getElem? hk)) hQ.size (by have := hQ.len; have := HM.out; have := HN.out; omega)
            obtain ⟨kb, hkb⟩ : ∃ kb : ByteArray, kb = ⟨key.toArray⟩ := ⟨_, rfl⟩
            rw [← hkb] at d kc kn
            have HQ2 : Hid (QS w1 wq F T s w.heap.size W (M.length + j) (adf W (ks.take j) p.qs (rmf p.qs ks (LV M))) M3) := hQ
            have HK : Hid (ks[j]? = some key ∧ key ∉ p.qs) := ⟨hk, hin⟩
            clear hk hke hkb hin hS hSq hbc hQ hWT hOT hts
            unfold ptr at kn
            go_wp2_with (first
              | (go_at_call 38; refine kc.mono ?_; rintro e w' ⟨rfl, hw'⟩; subst w')
              | (go_at_call 36; refine kn.mono ?_; rintro e w2 ⟨mb2, Mc, cc, rfl, hts2, hlk2, hor2, hfr2⟩))
            obtain ⟨M1, x, M2, rfl, hx1, hx2⟩ := split_of hlk2
            have hx := hts2.ents x (by simp)
            obtain ⟨-, e1, ez, hcl⟩ := hx.cells
            obtain ⟨xa, xcap, hxs⟩ := hx.slice
            rw [hxs] at e1
            obtain ⟨m, hm⟩ : ∃ m, m = x.2.2.2.length := ⟨_, rfl⟩
            rw [← hm] at hxs e1
            rw [hx2] at e1 ez hcl
            have hBl2 : w.heap.size < w2.heap.size := Nat.lt_of_lt_of_le hBl hfr2.size
            have hbox2 : w2.heap[w.heap.size]? = some (.cells #[ptr W] 29 (0, 0)) := hfr2.keep _ _ HQ2.out.box (by rintro (⟨_, _, h⟩ | ⟨_, _, h⟩) <;> simp at h)
            have cB2 : w2.cell? ⟨w.heap.size, 0, none⟩ = some (.pointer (some ⟨W, 0, none⟩)) := by rw [cell_of_row _ _ 0 _ 29 _ hbox2]; rfl
            obtain ⟨wa, hwa⟩ : ∃ wa, wa = (w2.alloc (.cells #[.pointer (some ⟨W, 0, none⟩)] 29)).drew := ⟨_, rfl⟩
            have hba : Below w2.heap.size w2 wa := by rw [hwa]; exact ((Below.refl w2.heap.size w2).alloc (Nat.le_refl _) _).drew
            have hOa : wa.ownsRow F 29 1 (.slice xa m xcap) m (x.2.2.2.map ptr) := by
              rw [← hxs, hm]
              exact owns_heap hx.row fun g hg => by
                obtain ⟨C, hC⟩ := hx.rowT hg
                exact hba.block g (Array.getElem?_eq_some_iff.1 hC).1
            have hNa : ∀ t u, ([.pointer (some ⟨W, 0, none⟩)] : List Value)[t]? = some u → wa.cell? ((⟨w2.heap.size, 0, none⟩ : Addr).add t) = some u := by
              refine World.news_of_block (cs := #[.pointer (some ⟨W, 0, none⟩)]) (t := 29) (fr := (0, 0)) ?_
              rw [hwa]
              exact heap_alloc_new w2 _
            have hsa : wa.heap.size = w2.heap.size + 1 := by rw [hwa]; simp
            have hFa : F ≤ wa.heap.size := by have := HQ2.out.size; have := hfr2.size; omega
            have hm0 : m ≤ 1000 := by
              rw [hm]
              have hl := LV_mem hts2.nodup
              rw [hx1] at hl
              rcases hor2 with ⟨e2, _⟩ | ⟨e3, e2⟩
              · rw [e2, HQ2.out.lv, adf_at HK.out.1 HND.out.1] at hl
                have e4 : rmf p.qs ks (LV M) key = LV M key := by simp [rmf, HK.out.2]
                rw [e4] at hl
                exact HSH.out key _ hl
              · rw [e2, LV_app, LV_none.2 e3] at hl
                simp at hl
                rw [hl]; simp
            have hm1 : m + 1 ≤ maxLen := by unfold maxLen; omega
            have hm2 : (m + 1) * 8 ≤ 140737488355328 := by omega
            have HADD : Hid (∀ g cap w3, w3.ownsRow F 29 1 (.slice (some ⟨g, 0, none⟩) (m + 1) cap) (m + 1) (x.2.2.2.map ptr ++ [.pointer (some ⟨W, 0, none⟩)]) → wa.grownBy w3 (Value.slice xa m xcap).ownBlock → ((Value.slice xa m xcap).ownBlock = some g ∨ g = w2.heap.size + 1) →
                w3.cell? ⟨cc, 1, none⟩ = some (.slice xa m xcap) ∧ w3.frozen? ⟨cc, 1, none⟩ = false ∧ ∃ M', QS w1 (w3.setCell ⟨cc, 1, none⟩ (.slice (some ⟨g, 0, none⟩) (m + 1) cap)) F T s w.heap.size W (M.length + (j + 1)) (adf W (ks.take (j + 1)) p.qs (rmf p.qs ks (LV M))) M') := by
              intro g cap w3 hr hg hat
              have hgen := add_gen (W := W) hts2 (by have := HQ2.out.size; have := hfr2.size; omega) hba (by rw [hxs]; exact hg) (by rw [hxs, hsa]; exact hat) (by simp) (by rw [← hm]; exact hr)
              rw [← hm, hx2] at hgen
              obtain ⟨hts3, hcnt3, hkp⟩ := hgen
              have hBcc : w.heap.size ≠ cc := by
                intro e
                rw [← hx2] at e
                rw [e, hx.cnt] at hbox2; simp at hbox2
              refine ⟨by rw [cell_of_row _ _ 1 _ 78 _ hcnt3, hxs]; rfl, by unfold World.frozen?; simp [hcnt3], ?_⟩
              have hnbx : x.2.2.1.ownBlock ≠ some w.heap.size := by
                intro e
                rcases hor2 with ⟨e2, _⟩ | ⟨_, e2⟩
                · exact HQ2.out.nb x (by rw [← e2]; simp) e
                · have hxm : x ∈ M3 ++ [(key, cc, .slice none 0 0, [])] := by rw [← e2]; simp
                  rcases List.mem_append.1 hxm with h | h
                  · exact HQ2.out.nb x h e
                  · simp at h; rw [h] at e; simp [Value.ownBlock] at e
              rw [← hx2] at hts3 hkp hBcc ⊢
              exact HQ2.out.added (mb := mb2) hts2 hor2 hfr2 rfl hx1 hts3 (hkp _ hBl2 hBcc hnbx) (by
                intro g' hg'
                simp [Value.ownBlock] at hg'; subst hg'
                rcases hat with h | h
                · left; rw [hxs]; exact h
                · right; omega) (fun k => by rw [adf_succ HK.out.1 HK.out.2, adf_at HK.out.1 HND.out.1])
            obtain ⟨i29, hi29, hz0, hz1, hz2⟩ := info_parts Try.info29
            have HOa := show Hid _ from hOa
            have HNa := show Hid _ from hNa
            have HFa := show Hid _ from hFa
            have HSa := show Hid _ from hsa
            clear hOa hNa hFa hsa hba hts2 hlk2 hor2 hfr2 hx1 hx2 hx hxs hm hbox2 kn kc d dW dzW hWlq hcB
            subst wa
            unfold ptr
            go_region_law ((refine step_append_lies _ (by rfl) (.tmp 64) (.tmp 66) 43 (by rfl) F 29 i29 (.pointer none) 1 8 Try.underlying43 hi29 hz0 hz1 hz2 rfl (Nat.le_refl 1) (.slice xa m xcap) m _ rfl HOa.out ⟨w2.heap.size, 0, none⟩ 1 1 [.pointer (some ⟨W, 0, none⟩)] rfl rfl HNa.out (by simp [Value.oneCell']) (Nat.le_refl 1) hm1 hm2 HFa.out (w2.heap.size + 1) HSa.out ?_; intro g cap w3 hown3 hgrow3 hat3 hlt3; obtain ⟨f1, f2, hM4⟩ := HADD.out g cap w3 hown3 hgrow3 hat3))
            all_goals
              go_wp2
              go_roundw
              case rel => exact ⟨j + 1, by omega, by go_num, hM4⟩
              case measure => simp [intOf]; omega
        · have e1 : adf W (ks.take j) p.qs (rmf p.qs ks (LV M)) = adf W ks p.qs (rmf p.qs ks (LV M)) := by rw [List.take_of_length_le (by have := HN.out; omega)]
          rw [e1] at hQ
          have hTW : TW wq F T s M3 W p O q := ⟨hQ.size, hQ.ts, hWT, hOT, HH.out.ne, HH.out.nc⟩
          have hfr0 : Fr F XS w wq := by
            have h1 : Fr F XS w w1 := by
              rw [HW1.out]
              exact Fr.of_below ((Below.refl w.heap.size w).alloc (Nat.le_refl _) _) HH.out.size
            exact h1.trans (hQ.fr.mono XA_S)
          have HFIN : Hid (∀ v' w', SROW w' v' ks → Below wq.heap.size wq w' → QueR w F T s M W p O q ks (w'.setCell ⟨W, 1, none⟩ v')) := by
            intro v' w' hs' hb'
            have hT' := hTW.below hb'
            have hset := hT'.set (p' := { p with qv := v', qs := ks }) 1 v' rfl rfl (by simp [World.setCell, Array.getElem?_modify, hT'.tp.blk]) hs'
            refine ⟨M3, v', hset.1, hQ.lv, ?_, hfr0.trans ((Fr.of_below hb' hTW.size).trans hset.2)⟩
            have := hQ.len; have := HN.out; omega
          have kcl := slClone_any wq.drew ks (.slice av n c) (hS.keep fun _ _ => rfl) (by have := HN.out; omega)
          have HDW : Hid (∀ w', Below wq.heap.size wq w' → w'.cell? ⟨W, 1, none⟩ = some (.slice qa qn qc) ∧ w'.frozen? ⟨W, 1, none⟩ = false ∧ w'.cell? ⟨w.heap.size, 0, none⟩ = some (.pointer (some ⟨W, 0, none⟩))) := fun w' hb => ⟨(hb.cell (p := ⟨W, 1, none⟩) hWlq).trans dW, (hb.frozen (p := ⟨W, 1, none⟩) hWlq).trans (dzW 1), (hb.cell (p := ⟨w.heap.size, 0, none⟩) hBl).trans hcB⟩
          have dzq := dzW 1
          clear hQ hS hSq e1 hTW hfr0 hWT hOT dzW
          go_wp2_with fail
          go_region_with (go_at_call 44; refine kcl.mono ?_; rintro e w' ⟨⟨v', rfl, hs'⟩, hb'⟩; have hb2 : Below wq.heap.size wq w' := (Below.refl _ _).drew.trans hb'; obtain ⟨q1, q2, q3⟩ := HDW.out w' hb2; have hfin := HFIN.out v' w' hs' hb2; obtain ⟨va, vc, rfl⟩ := hs'.lit)
          all_goals
            go_end0
            exact ⟨rfl, hfin⟩
theorem queue_any (w : World) (F T : Nat) (s : Int) (M : List Ent) (W : Nat) (p : WS) (O : Nat) (q : WS) (ks : List Ky) (v : Value) (h : TW w F T s M W p O q) (hv : SROW w v ks)
    (hnd : ks.Nodup) (hqd : p.qs.Nodup) (hlen : ks.length ≤ 100000) (hqlen : p.qs.length ≤ 100000) (hkl : ∀ k ∈ ks, k.length ≤ 1048576) (hM : M.length + ks.length ≤ 1000000)
    (hline : ∀ k ∈ p.qs, k ∉ ks → LV M k = some [W] ∨ LV M k = some [W, O]) (hsh : ∀ k l, LV M k = some l → l.length ≤ 1000) :
    Calls Try.prog 37 #[ptr T, ptr W, v] w fun e w' => e = .returned (.tuple #[]) ∧ QueR w F T s M W p O q ks w' := by
  obtain ⟨a, c, rfl⟩ := hv.lit
  have hq := h.tp.row
  obtain ⟨qa, qc, hqv⟩ := hq.lit
  rw [hqv] at hq
  exact queue_walk w F T s M W p O q ks h _ c a rfl hv qa _ qc hqv rfl hq hnd hqd hlen hqlen hkl hM hline hsh
end Go.Proofs.Qxb6616195a
