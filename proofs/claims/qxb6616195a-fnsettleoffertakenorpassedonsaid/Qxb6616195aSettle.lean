/- settle: (*signInTurns).settle. -/
import Derived.Test.Qxb6616195aSmem
import Derived.Test.Qxb6616195aLocks
import Derived.Conc.MuLone
import Derived.Deep.RegionHeld3
namespace Go.Proofs.Qxb6616195a
open Go.RowKit Go.Conc

def kys (A : List Bz) : List Ky := A.map (·.1)
def setf (W : Nat) (ks qs : List Ky) (f : Ky → Option (List Nat)) : Ky → Option (List Nat) := adf W ks qs (rmf qs ks (cnf ks f))
def SetR (w : World) (F T : Nat) (M : List Ent) (W : Nat) (p : WS) (O : Nat) (q : WS) (A : List Bz) (e : Ending) (w' : World) : Prop :=
  ∃ M' again p' q', e = .returned (.tuple #[.bool again, .bool (A.any fun z => decide (0 < z.2))]) ∧ TW w' F T 0 M' W p' O q' ∧ Fr F XS w w' ∧ M'.length ≤ M.length + 2 * A.length ∧ p'.qs = kys A ∧ p'.off = [] ∧ p'.tok = 0 ∧
    ((p.off = [] ∧ again = false ∧ q' = q ∧ ∀ k, LV M' k = setf W (kys A) p.qs (LV M) k) ∨
     (p.off ≠ [] ∧ p.off ∈ kys A ∧ again = true ∧ q' = q ∧ ∀ k, LV M' k = setf W (kys A) p.qs (LV M) k) ∨
     (p.off ≠ [] ∧ p.off ∉ kys A ∧ again = false ∧ q'.qs = [] ∧ q'.off = p.off ∧ q'.tok = 1 ∧ ∀ k, LV M' k = rmf q.qs [] (setf W (kys A) p.qs (LV M)) k))

theorem setf_len {W : Nat} {ks qs : List Ky} {f : Ky → Option (List Nat)} (h : ∀ k l, f k = some l → l.length ≤ 100) (k : Ky) (l : List Nat) (hl : setf W ks qs f k = some l) : l.length ≤ 101 := by
  have h1 : ∀ k l, cnf ks f k = some l → l.length ≤ 100 := by
    intro k l hl
    unfold cnf at hl
    split at hl
    · cases hf : f k with
      | none => rw [hf] at hl; simp at hl; rw [hl]; simp
      | some l' => rw [hf] at hl; simp at hl; rw [← hl]; exact h k l' hf
    · exact h k l hl
  have h2 : ∀ k l, rmf qs ks (cnf ks f) k = some l → l.length ≤ 100 := by
    intro k l hl
    unfold rmf at hl
    split at hl
    · cases hf : cnf ks f k with
      | none => rw [hf] at hl; simp [rmv] at hl
      | some l' =>
        rw [hf] at hl
        have := h1 k l' hf
        match l', hl with
        | _ :: a :: r, hl => simp [rmv] at hl; rw [← hl]; simp at this ⊢; omega
    · exact h1 k l hl
  unfold setf adf at hl
  split at hl
  · cases hf : rmf qs ks (cnf ks f) k with
    | none => rw [hf] at hl; simp at hl; rw [← hl]; simp
    | some l' => rw [hf] at hl; simp at hl; rw [← hl]; have := h2 k l' hf; simp; omega
  · have := h2 k l hl; omega
theorem any_next {A : List Bz} {g : Bz → Bool} {i : Nat} {x : Bz} (hp : A[i]? = some x) : (A.take (i + 1)).any g = ((A.take i).any g || g x) := by
  obtain ⟨hjl, hje⟩ := List.getElem?_eq_some_iff.1 hp
  rw [List.take_succ_eq_append_getElem hjl, List.any_append, hje]; simp
set_option maxHeartbeats 1000000 in
set_option maxRecDepth 20000 in
theorem settle_walk (w : World) (F T : Nat) (M : List Ent) (W : Nat) (p : WS) (O : Nat) (q : WS) (A : List Bz) (h : TW w F T 0 M W p O q)
    (n c : Nat) (av : Option Addr) (hn : n = A.length) (hv : BUSY w (ro w) (.slice av n c) A) (hlen : n ≤ 4096) (hkl : ∀ z ∈ A, z.1.length ≤ 1048576) (hnd : (kys A).Nodup) (hqd : p.qs.Nodup) (hqlen : p.qs.length ≤ 100000) (hM : M.length ≤ 100000)
    (hline : ∀ k ∈ p.qs, k ∉ kys A → LV M k = some [W] ∨ LV M k = some [W, O]) (hsh : ∀ k l, LV M k = some l → l.length ≤ 100)
    (hmode : (p.off = [] ∧ p.tok = 0) ∨ (p.off ≠ [] ∧ p.tok = 1 ∧ (p.off ∈ kys A ∨ (p.off ∉ kys A ∧ q.tok = 0 ∧ q.qs.Nodup ∧ q.qs.length ≤ 100000 ∧ (∃ rest, setf W (kys A) p.qs (LV M) p.off = some (O :: rest)) ∧
      ∀ k ∈ q.qs, setf W (kys A) p.qs (LV M) k = some [O] ∨ setf W (kys A) p.qs (LV M) k = some [O, W])))) :
    Calls Try.prog 27 #[ptr T, ptr W, .slice av n c] w fun e w' => SetR w F T M W p O q A e w' := by
  obtain ⟨mb, hts⟩ := h.ts
  obtain ⟨c0, -, f0, -, -⟩ := hts.cells
  have kl := Go.MuLone.lock_free Try.muLib ⟨T, 0, none⟩ w c0 f0
  obtain ⟨hL, hfL⟩ := h.lock 1
  obtain ⟨w1, hw1⟩ : ∃ w1, w1 = w.setCell ⟨T, 0, none⟩ (.int .i32 1) := ⟨_, rfl⟩
  rw [← hw1] at kl hL hfL
  obtain ⟨i9, hi9, hz0, hz1, hz2⟩ := info_parts Try.info9
  have hb9 : i9.bytes * n ≤ 281474976710656 := by rw [hz2]; omega
  have hv1 : BUSY w1 (ro w1) (.slice av n c) A := hv.rok (hfL.mono XA_S).rok
  have hFs : F ≤ w1.heap.size := hL.size
  have HL : Hid (TW w1 F T 1 M W p O q ∧ Fr F XS w w1) := ⟨hL, hfL.mono XA_S⟩
  have HV : Hid (∀ wr, Fr F XC w1 wr → BUSY wr (ro wr) (.slice av n c) A) := fun wr hf => hv1.rok (hf.mono fun b o hx => XA_S b o (XC_A b o hx)).rok
  have HN : Hid (n = A.length ∧ n = (kys A).length) := ⟨hn, by simp [kys, hn]⟩
  have HKL : Hid (∀ z ∈ A, z.1.length ≤ 1048576) := hkl
  have HND : Hid ((kys A).Nodup ∧ p.qs.Nodup ∧ p.qs.length ≤ 100000) := ⟨hnd, hqd, hqlen⟩
  have HM : Hid (M.length ≤ 100000) := hM
  have HLN : Hid (∀ k ∈ p.qs, k ∉ kys A → LV M k = some [W] ∨ LV M k = some [W, O]) := hline
  have HSH : Hid (∀ k l, LV M k = some l → l.length ≤ 100) := hsh
  have HMODE := show Hid _ from hmode
  have HOW : Hid (O ≠ W) := fun e => h.ne e.symm
  clear h hts c0 f0 hL hfL hv hv1 hn hkl hnd hqd hqlen hM hline hsh hmode hw1
  unfold ptr
  refine calls_of_wpN_defers Try.func27 rfl ?_
  simp only [Try.ntmps27, List.size_toArray, List.length_cons, List.length_nil, Nat.reduceAdd, Nat.reduceSub, Array.replicate_succ, Array.replicate_zero, List.push_toArray, List.append_toArray, List.nil_append, List.cons_append]
  refine wpN_seq fun K hK => ?_
  go_wp2
  refine wpN_seq fun K hK => ?_
  go_wp2_with (first
    | (go_at_call 34; refine kl.mono ?_; rintro e w' ⟨rfl, hw'⟩; subst w'))
  clear kl
  refine wpN_seq fun K hK => ?_
  go_wp2
  refine wpN_seq fun K hK => ?_
  go_wp2_with (first
    | (at_make; refine wpList_make_full _ rfl (.tmp 20) (.tmp 20) 36 rfl F 9 i9 _ 1 Try.underlying36 hi9 hz0 hz1 .i64 .i64 _ _ n rfl rfl rfl rfl hb9 (by unfold maxLen; omega) hFs ?_; intro w2 hown2 hgrow2))
  have HS0 : Hid (SL w1 w2 F T w1.heap.size n (kys A) 0 M.length (cnf ((kys A).take 0) (LV M)) M) := by
    have hb2 : Below w1.heap.size w1 w2 := (Below.refl _ _).grown hgrow2 (Nat.le_refl _) (by simp)
    have f2 : Fr F (fun _ _ => False) w1 w2 := Fr.of_below hb2 hFs
    obtain ⟨mb, ht⟩ := HL.out.1.ts
    have e0 : cnf ((kys A).take 0) (LV M) = LV M := by funext k; simp [cnf]
    show SL _ _ _ _ _ _ _ _ _ _ _
    rw [e0]
    exact ⟨Nat.le_trans hFs hb2.size, ⟨mb, ht.fr f2 fun _ _ h => h.elim⟩, fun _ => rfl, f2.mono fun _ _ h => h.elim, ⟨_, hown2, fun t ht => absurd ht (by omega)⟩, Nat.le_refl _, Nat.le_refl _⟩
  clear hown2 hgrow2
  refine wpN_seq fun K hK => ?_
  go_wp2_with fail
  go_loopw [7, 24] (fun y x wr => ∃ i : Nat, i ≤ n ∧ y = .bool ((A.take i).any fun z => decide (0 < z.2)) ∧ x = .int .i64 i ∧ ∃ M', SL w1 wr F T w1.heap.size n (kys A) i (M.length + i) (cnf ((kys A).take i) (LV M)) M') (fun _ x _ => n - (intOf x).toNat)
  case atStart => exact ⟨0, by omega, by simp, rfl, M, HS0.out⟩
  case round =>
    obtain ⟨i, hi, rfl, rfl, M', hS⟩ := hrel
    have hB := HV.out wr hS.fr
    obtain ⟨ob, hob⟩ : ∃ ob, ob = (A.take i).any fun z => decide (0 < z.2) := ⟨_, rfl⟩
    rw [← hob]
    have HOB : Hid (ob = (A.take i).any fun z => decide (0 < z.2)) := hob
    clear hob
    by_cases hlt : i < n
    · obtain ⟨a', c', b, o, hve, ha, hc⟩ := hB
      simp only [Value.slice.injEq] at hve
      obtain ⟨rfl, hnA, rfl⟩ := hve
      obtain ⟨rfl, -, hb⟩ := ha (by omega)
      obtain ⟨k, z, ka, kc, kb, ko, kl, hp, hkl, hka, hcl, d1, d2⟩ := hc.at hnA hlt hb (Below.refl _ _)
      have hK : KEY wr (ro wr) (.slice ka kl kc) k := ⟨ka, kc, kb, ko, by rw [hkl], by rw [← hkl]; exact hka, hcl⟩
      have hbA : Below wr.heap.size wr (wr.alloc (.cells #[.slice ka kl kc, .int .i64 z] 69)) := (Below.refl _ _).alloc (Nat.le_refl _) _
      have hconv := (hK.below hbA).conv
      have hSb := hS.below hbA
      obtain ⟨⟨x0, c1⟩, f1⟩ := hSb.cell (j := i) hlt
      have hki : (kys A)[i]? = some k := by rw [kys, List.getElem?_map, hp]; rfl
      have hS2 := hSb.store hki hlt
      have hKne : w1.heap.size ≠ wr.heap.size := by
        obtain ⟨C, hC, _⟩ := hS.block
        have := (Array.getElem?_eq_some_iff.1 hC).1
        omega
      have hklen : k.length ≤ 1048576 := HKL.out _ (List.mem_of_getElem? hp)
      obtain ⟨ks, hks⟩ : ∃ ks : ByteArray, ks = ⟨k.toArray⟩ := ⟨_, rfl⟩
      rw [← hks] at hconv hS2
      have d4 : ((wr.alloc (.cells #[.slice ka kl kc, .int .i64 z] 69)).setCell ⟨w1.heap.size, i, none⟩ (.string ks)).heap[wr.heap.size]? = some (.cells #[.slice ka kl kc, .int .i64 z] 69 (0, 0)) :=
        (Below.heap_setCell _ _ _ _ (by simpa using fun e => hKne e.symm)).trans (heap_alloc_new wr _)
      have d5 : ((wr.alloc (.cells #[.slice ka kl kc, .int .i64 z] 69)).setCell ⟨w1.heap.size, i, none⟩ (.string ks)).cell? ⟨w1.heap.size, i, none⟩ = some (.string ks) := World.cell?_setCell_same _ _ _ c1
      have d6 : ((wr.alloc (.cells #[.slice ka kl kc, .int .i64 z] 69)).setCell ⟨w1.heap.size, i, none⟩ (.string ks)).cell? ⟨wr.heap.size, 1, none⟩ = some (.int .i64 z) := by rw [cell_of_row _ _ 1 _ 69 _ d4]; rfl
      obtain ⟨w3, hw3⟩ : ∃ w3, w3 = ((wr.alloc (.cells #[.slice ka kl kc, .int .i64 z] 69)).setCell ⟨w1.heap.size, i, none⟩ (.string ks)) := ⟨_, rfl⟩
      have hS3 := hS2.below (wr' := w3.drew) (by rw [← hw3]; exact (Below.refl _ _).drew)
      obtain ⟨mb3, hts3⟩ := hS3.ts
      have kn := (count_any w3.drew F T 1 mb3 M' k hts3 hklen hS3.size (by have := hS3.len; have := HM.out; omega)).mono (R' := fun e w4 => ∃ c M'', e = .returned (.pointer (some ⟨c, 0, none⟩)) ∧ SL w1 w4 F T w1.heap.size n (kys A) (i + 1) (M.length + (i + 1)) (cnf ((kys A).take (i + 1)) (LV M)) M'' ∧ w4.cell? ⟨c, 0, none⟩ = some (.int .i64 0) ∧ w4.cell? ⟨wr.heap.size, 1, none⟩ = some (.int .i64 z)) (fun e w4 hc => by
          obtain ⟨c, M'', h1, h2, h3, h4⟩ := hS3.count hki hc
          refine ⟨c, M'', h1, h2, h3, ?_⟩
          have : w4.heap[wr.heap.size]? = some (.cells #[.slice ka kl kc, .int .i64 z] 69 (0, 0)) := h4.keep _ _ (by show w3.heap[_]? = _; rw [hw3]; exact d4) (by rintro (⟨_, _, h⟩ | ⟨_, _, h⟩) <;> simp at h)
          rw [cell_of_row _ _ 1 _ 69 _ this]; rfl)
      rw [← hks] at kn
      rw [hw3] at kn
      have HP : Hid (A[i]? = some (k, z)) := hp
      clear ha hc hp hkl hka hcl hK hbA hSb hki hS2 hKne hklen hks d4 hS3 hts3 hS hw3 hnA
      unfold ptr at kn
      by_cases hz : 0 < z
      · have HT1 : Hid ((true : Bool) = (A.take (i + 1)).any fun z => decide (0 < z.2)) := by
          show _ = _
          rw [any_next HP.out]; simp [hz]
        go_wp2_with fail
        refine wp_region_noPanic ?_
        go_region_with (go_at_call 36; refine kn.mono ?_; rintro e w4 ⟨c, M'', rfl, hS4, e1, e2⟩)
        all_goals
          refine NoPanic.normal ?_
          go_wp2
          go_roundw
          case rel => exact ⟨i + 1, by omega, congrArg Value.bool HT1.out, by go_num, M'', hS4⟩
          case measure => simp [intOf]; omega
      · have HN1 : Hid (ob = (A.take (i + 1)).any fun z => decide (0 < z.2)) := by
          show _ = _
          rw [any_next HP.out, ← HOB.out]; simp [hz]
        go_wp2_with fail
        refine wp_region_noPanic ?_
        go_region_with (go_at_call 36; refine kn.mono ?_; rintro e w4 ⟨c, M'', rfl, hS4, e1, e2⟩)
        all_goals
          refine NoPanic.normal ?_
          go_wp2
          go_roundw
          case rel => exact ⟨i + 1, by omega, congrArg Value.bool HN1.out, by go_num, M'', hS4⟩
          case measure => simp [intOf]; omega
    · have hin : i = n := by omega
      subst hin
      have hTW := hS.tw HL.out.1
      have hrow := hS.fin rfl HN.out.2
      have e1 : cnf ((kys A).take i) (LV M) = cnf (kys A) (LV M) := by rw [List.take_of_length_le (by have := HN.out.2; omega)]
      have hlv := hS.lv
      rw [e1] at hlv
      have hob : ob = A.any fun z => decide (0 < z.2) := by rw [HOB.out, List.take_of_length_le (by have := HN.out.1; omega)]
      have hfr : Fr F XS w wr := HL.out.2.trans (hS.fr.mono fun b o hx => XA_S b o (XC_A b o hx))
      have kq := queue_any wr F T 1 M' W p O q (kys A) _ hTW hrow HND.out.1 HND.out.2.1 (by have := HN.out.2; omega) HND.out.2.2 (by
          intro k hk
          obtain ⟨z, hz, rfl⟩ := List.mem_map.1 hk
          exact HKL.out z hz) (by have := hS.len; have := HM.out; have := HN.out.2; omega) (by
          intro k hk hnk
          rw [hlv]
          have : cnf (kys A) (LV M) k = LV M k := by simp [cnf, hnk]
          rw [this]
          exact HLN.out k hk hnk) (by
          intro k l hl
          rw [hlv] at hl
          unfold cnf at hl
          split at hl
          · cases hf : LV M k with
            | none => rw [hf] at hl; simp at hl; rw [hl]; simp
            | some l' => rw [hf] at hl; simp at hl; rw [← hl]; have := HSH.out k l' hf; omega
          · have := HSH.out k l hl; omega)
      have hlenM := hS.len
      have HX : Hid (Fr F XS w wr ∧ M'.length ≤ M.length + i ∧ (∀ k, LV M' k = cnf (kys A) (LV M) k) ∧ SROW wr (.slice (some ⟨w1.heap.size, 0, none⟩) i i) (kys A) ∧ ob = A.any fun z => decide (0 < z.2)) := ⟨hfr, hlenM, hlv, hrow, hob⟩
      clear hS hTW hrow e1 hlv hob hfr hlenM hB
      unfold ptr at kq
      go_wp2
      refine wpN_seq fun K hK => ?_
      go_wp2_with (first
        | (go_at_call 37; refine kq.mono ?_; rintro e w5 ⟨rfl, hQ5⟩))
      clear kq
      obtain ⟨M5, qv5, hTW5, hlv5, hlen5, hfr5⟩ := hQ5
      refine wpN_seq fun K hK => ?_
      go_wp2
      obtain ⟨dch, -, doff, hWl5, dz5⟩ := hTW5.tp.cells
      have dz2 := dz5 2
      obtain ⟨buf, sn, rc, hch, hbs⟩ := hTW5.tp.chan
      simp only at dch doff hch hbs
      have H5 : Hid (TW w5 F T 1 M5 W { p with qv := qv5, qs := kys A } O q ∧ (∀ k, LV M5 k = setf W (kys A) p.qs (LV M) k) ∧ M5.length ≤ M.length + 2 * i ∧ Fr F XS w w5 ∧ SROW w5 (.slice (some ⟨w1.heap.size, 0, none⟩) i i) (kys A)) := by
        obtain ⟨x1, x2, x3, x4, x5⟩ := HX.out
        refine ⟨hTW5, fun k => ?_, ?_, x1.trans hfr5, x4.rok hfr5.rok⟩
        · rw [hlv5]
          have : LV M' = cnf (kys A) (LV M) := funext x3
          rw [this]; rfl
        · have := HN.out.2; omega
      clear dz5 hTW5 hlv5 hlen5 hfr5
      refine wpN_seqC fun K hK => ?_
      refine wpN_seq fun K2 hK2 => ?_
      go_wp2
      refine wpN_seqC fun K3 hK3 => ?_
      refine arr_region ?_
      simp only [List.size_toArray, List.length_cons, List.length_nil, Nat.reduceAdd, List.range_succ, List.range_zero, List.nil_append, List.cons_append]
      rcases HMODE.out with ⟨hoff, htok⟩ | ⟨hoff, htok, hsub⟩
      · rw [htok] at hbs
        obtain rfl : buf = #[] := Array.eq_empty_of_size_eq_zero hbs
        refine arr_comm (v := .tuple #[goInt (-1), .bool false, .agg #[]]) (w' := w5) rfl (fun b k cs hb =>
          step_lone_select_default (c := p.ch) (cap := 1) (s := sn) (r := rc) (tm := false) (stepG_comm (cases := #[rcase p.ch (.agg #[])]) (blocking := false) (shape := .select) (w' := w5) rfl rfl hb (by simp [go_sem, execOp, rcase, Act.eval])) hch) ?_
        refine arr_step rfl rfl (fun K hK => ?_); go_simp; refine hK _ _ ?_; clear hK K
        refine arr_step rfl rfl (fun K hK => ?_); go_simp; refine hK _ _ ?_; clear hK K
        refine arr_nil (hK3 _ _ ?_)
        clear hK3 K3
        go_wp2
        refine leaves_cons (f := 35) (args := #[.pointer (some ⟨T, 0, none⟩)]) (by simp) (by simp [go_sem]) ?_
        obtain ⟨t5, l5, n5, f5, -⟩ := H5.out
        obtain ⟨mb5, hts5⟩ := t5.ts
        obtain ⟨c50, -, f50, -, -⟩ := hts5.cells
        refine (Go.MuLone.unlock_deferred Try.muLib ⟨T, 0, none⟩ .returning _ c50 f50).mono ?_
        rintro e u' w'' ⟨rfl, rfl, rfl⟩
        obtain ⟨h6, f6⟩ := t5.lock 0
        refine ⟨_, results_tmp2 rfl _ _ _, M5, false, { p with qv := qv5, qs := kys A }, q, ?_, h6, f5.trans (f6.mono XA_S), ?_, rfl, hoff, htok, .inl ⟨hoff, rfl, rfl, l5⟩⟩
        · rw [← HX.out.2.2.2.2]; rfl
        · have := HN.out.1; omega
      · rw [htok] at hbs
        have hbe : (buf.extract 1 buf.size).size = 0 := by simp; omega
        have ht6 := H5.out.1.setChan (buf.extract 1 buf.size) 0 hbe sn (rc + 1)
        simp only at ht6
        obtain ⟨w6, hw6⟩ : ∃ w6, w6 = w5.setChan p.ch 1 (buf.extract 1 buf.size) false sn (rc + 1) false := ⟨_, rfl⟩
        rw [← hw6] at ht6
        refine arr_comm (v := .tuple #[goInt 0, .bool true, buf.getD 0 undef]) (w' := w6) rfl (fun b k cs hb => by
          rw [hw6]
          exact step_lone_select_recv_buf (c := p.ch) (cap := 1) (s := sn) (r := rc) (tm := false) (stepG_comm (cases := #[rcase p.ch (.agg #[])]) (blocking := false) (shape := .select) (w' := w5) rfl rfl hb (by simp [go_sem, execOp, rcase, Act.eval])) hch (by omega)) ?_
        obtain ⟨bx, hbx⟩ : ∃ bx, bx = buf.getD 0 undef := ⟨_, rfl⟩
        rw [← hbx]
        obtain ⟨ht6, hf6⟩ := ht6
        have H6 : Hid (TW w6 F T 1 M5 W { ch := p.ch, qv := qv5, qs := kys A, off := p.off, tok := 0 } O q ∧ Fr F XS w w6) := ⟨ht6, H5.out.2.2.2.1.trans hf6⟩
        obtain ⟨-, -, d62, hWl6, dz6⟩ := ht6.tp.cells
        simp only at d62
        have dz62 := dz6 2
        have hS6 : SROW w6 (.slice (some ⟨w1.heap.size, 0, none⟩) i i) (kys A) := H5.out.2.2.2.2.rok hf6.rok
        have kc := contains_any w6 (kys A) p.off _ hS6 (by have := HN.out.2; omega)
        obtain ⟨fb, hfb⟩ : ∃ fb : ByteArray, fb = ⟨p.off.toArray⟩ := ⟨_, rfl⟩
        rw [← hfb] at d62 kc
        have hne : fb.toList.isEmpty = false := by
          rw [hfb, toList_mk]
          simpa using hoff
        have HFB : Hid (fb = ⟨p.off.toArray⟩) := hfb
        have HOFF : Hid (p.off ≠ []) := hoff
        clear dch doff hWl5 dz2 hch hbs hbe ht6 hf6 hw6 dz6 hS6 hfb hoff hbx
        refine arr_step rfl rfl (fun K hK => ?_); go_simp; refine hK _ _ ?_; clear hK K
        refine arr_step rfl rfl (fun K hK => ?_); go_simp; refine hK _ _ ?_; clear hK K
        refine arr_nil (hK3 _ _ ?_)
        clear hK3 K3
        by_cases hin : p.off ∈ kys A
        · rw [decide_eq_true hin] at kc
          have HIN : Hid (p.off ∈ kys A) := hin
          clear hin hsub
          go_wp2_with (first
            | (go_at_call 38; refine kc.mono ?_; rintro e w' ⟨rfl, hw'⟩; subst w'))
          refine leaves_cons (f := 35) (args := #[.pointer (some ⟨T, 0, none⟩)]) (by simp) (by simp [go_sem]) ?_
          obtain ⟨t6, f6⟩ := H6.out
          obtain ⟨t7, f7⟩ := t6.set (p' := { ch := p.ch, qv := qv5, qs := kys A, off := [], tok := 0 }) 2 (.string ⟨#[]⟩) rfl rfl (by
            have := t6.tp.blk
            simp [World.setCell, Array.getElem?_modify, this]) t6.tp.row
          obtain ⟨mb7, hts7⟩ := t7.ts
          obtain ⟨c70, -, f70, -, -⟩ := hts7.cells
          refine (Go.MuLone.unlock_deferred Try.muLib ⟨T, 0, none⟩ .returning _ c70 f70).mono ?_
          rintro e u' w'' ⟨rfl, rfl, rfl⟩
          obtain ⟨t8, f8⟩ := t7.lock 0
          refine ⟨_, results_tmp2 rfl _ _ _, M5, true, _, q, ?_, t8, f6.trans (f7.trans (f8.mono XA_S)), ?_, rfl, rfl, rfl, .inr (.inl ⟨HOFF.out, HIN.out, rfl, rfl, H5.out.2.1⟩)⟩
          · rw [← HX.out.2.2.2.2]; rfl
          · have := HN.out.1; have := H5.out.2.2.1; omega
        · rw [decide_eq_false hin] at kc
          have HIN : Hid (p.off ∉ kys A) := hin
          rcases hsub with hsub | ⟨-, hqt, hqn, hql, ⟨rest, hrest⟩, hqline⟩
          · exact absurd hsub hin
          · obtain ⟨x1, x2, x3, x4, x5⟩ := H5.out
            have ko := offer_any w6 F T 1 M5 O q W _ p.off rest H6.out.1.swap ((x2 _).trans hrest) hqt hqn hql (by have := HM.out; omega) (by
              intro k hk
              rw [x2]
              exact hqline k hk) (by
              intro k l hl
              rw [x2] at hl
              have := setf_len HSH.out k l hl
              omega)
            rw [← HFB.out] at ko
            clear hin hqt hqn hql hrest hqline x1 x2 x3 x4 x5
            have HK7 : Hid (∀ w7, OffR w6 F T 1 M5 O q W { ch := p.ch, qv := qv5, qs := kys A, off := p.off, tok := 0 } p.off w7 → w7.cell? ⟨W, 2, none⟩ = some (.string fb) ∧ w7.frozen? ⟨W, 2, none⟩ = false) := by
              rintro w7 ⟨M7, qv7, t7, -⟩
              obtain ⟨-, -, y1, -, y2⟩ := t7.tq.cells
              exact ⟨by rw [HFB.out]; exact y1, y2 2⟩
            unfold ptr at ko
            go_wp2_with (first
              | (go_at_call 38; refine kc.mono ?_; rintro e w' ⟨rfl, hw'⟩; subst w')
              | (go_at_call 32; refine ko.mono ?_; rintro e w7 ⟨rfl, hO7⟩; obtain ⟨y1, y2⟩ := HK7.out w7 hO7))
            obtain ⟨M7, qv7, t7', l7, n7, f7⟩ := hO7
            have t7 := t7'.swap
            refine leaves_cons (f := 35) (args := #[.pointer (some ⟨T, 0, none⟩)]) (by simp) (by simp [go_sem]) ?_
            obtain ⟨t8, f8⟩ := t7.set (p' := { ch := p.ch, qv := qv5, qs := kys A, off := [], tok := 0 }) 2 (.string ⟨#[]⟩) rfl rfl (by
              have := t7.tp.blk
              simp [World.setCell, Array.getElem?_modify, this]) t7.tp.row
            obtain ⟨mb8, hts8⟩ := t8.ts
            obtain ⟨c80, -, f80, -, -⟩ := hts8.cells
            refine (Go.MuLone.unlock_deferred Try.muLib ⟨T, 0, none⟩ .returning _ c80 f80).mono ?_
            rintro e u' w'' ⟨rfl, rfl, rfl⟩
            obtain ⟨t9, f9⟩ := t8.lock 0
            refine ⟨_, results_tmp2 rfl _ _ _, M7, false, _, _, ?_, t9, H6.out.2.trans (f7.trans (f8.trans (f9.mono XA_S))), ?_, rfl, rfl, rfl, .inr (.inr ⟨HOFF.out, HIN.out, rfl, rfl, rfl, rfl, ?_⟩)⟩
            · rw [← HX.out.2.2.2.2]; rfl
            · have := HN.out.1; have := H5.out.2.2.1; omega
            · intro k
              rw [l7]
              have : LV M5 = setf W (kys A) p.qs (LV M) := funext H5.out.2.1
              rw [this]
theorem settle_any (w : World) (F T : Nat) (M : List Ent) (W : Nat) (p : WS) (O : Nat) (q : WS) (A : List Bz) (v : Value) (h : TW w F T 0 M W p O q)
    (hv : BUSY w (ro w) v A) (hlen : A.length ≤ 4096) (hkl : ∀ z ∈ A, z.1.length ≤ 1048576) (hnd : (kys A).Nodup) (hqd : p.qs.Nodup) (hqlen : p.qs.length ≤ 100000) (hM : M.length ≤ 100000)
    (hline : ∀ k ∈ p.qs, k ∉ kys A → LV M k = some [W] ∨ LV M k = some [W, O]) (hsh : ∀ k l, LV M k = some l → l.length ≤ 100)
    (hmode : (p.off = [] ∧ p.tok = 0) ∨ (p.off ≠ [] ∧ p.tok = 1 ∧ (p.off ∈ kys A ∨ (p.off ∉ kys A ∧ q.tok = 0 ∧ q.qs.Nodup ∧ q.qs.length ≤ 100000 ∧ (∃ rest, setf W (kys A) p.qs (LV M) p.off = some (O :: rest)) ∧
      ∀ k ∈ q.qs, setf W (kys A) p.qs (LV M) k = some [O] ∨ setf W (kys A) p.qs (LV M) k = some [O, W])))) :
    Calls Try.prog 27 #[ptr T, ptr W, v] w fun e w' => SetR w F T M W p O q A e w' := by
  have hv' := hv
  obtain ⟨a, c, b, o, rfl, -, -⟩ := hv'
  exact settle_walk w F T M W p O q A h _ c a rfl hv hlen hkl hnd hqd hqlen hM hline hsh hmode
end Go.Proofs.Qxb6616195a
