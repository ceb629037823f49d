/- FnSettleKeepsPlaceFirstComeFirst, walked. -/
import Derived.Test.Qxb6616195aWant
namespace Go.Proofs.Qxb6616195a
open Go.RowKit Go.Conc

theorem keeps_line {W w w' : World} {T : Nat} {M : List Ent} {W1 : Nat} {p : WS} {W2 : Nat} {q : WS} {xa : Value} {A : List Bz} {xb : Value} {B : List Bz} {xc : Value} {C : List Bz} {all : List Ky} {i : Nat} {key : Ky} {want : List Nat} {v : Value}
    (h : LS W w T M W1 p W2 q xa A xb B xc C) (hb : Below w.heap.size w w') (hM : LV M = k3 W1 W2 (kys A) (kys B) (kys C)) (hall : ∀ k, k ∈ all ↔ k ∈ kys A ∨ k ∈ kys B ∨ k ∈ kys C) (hk : all[i]? = some key) (hw : wantK W1 W2 (kys A) (kys B) (kys C) key = want)
    (hrow : w'.ownsRow w.heap.size 29 1 v want.length (want.map ptr)) (hl : want.length ≤ 1000) (hwm : ∀ g ∈ want, g = W1 ∨ g = W2) :
    Calls Try.prog 21 #[ptr T, .string ⟨key.toArray⟩, v] w' fun e w'' => e = .returned (.bool true) ∧ ∃ n, w'' = w'.drewN n := by
  have h' := h.below hb
  obtain ⟨mb, hts⟩ := h'.tw.ts
  refine lineIs_any w' W.heap.size T 0 mb M key hts ?_ w.heap.size v want hrow hl ?_ ?_
  · rcases (hall key).1 (List.mem_of_getElem? hk) with h1 | h1 | h1
    · exact h'.a.klen key h1
    · exact h'.b.klen key h1
    · exact h'.c.klen key h1
  · intro g hg
    rcases hwm g hg with rfl | rfl
    · exact h'.tw.tp.isW
    · exact h'.tw.tq.isW
  · rw [hM, k3_eq, hw]

set_option maxHeartbeats 4000000 in
set_option maxRecDepth 100000 in
theorem keeps_law (W : World) (va vb vc : Value) (A B C : List Bz) (hA : BUSY W All va A) (hB : BUSY W All vb B) (hC : BUSY W All vc C) :
    Calls Try.prog 3 #[va, vb, vc] W fun e W' => YES W e W' := by
  obtain ⟨a1, c1, b1, o1, L1, rfl, r1⟩ := hA.rd
  obtain ⟨a2, c2, b2, o2, L2, rfl, r2⟩ := hB.rd
  obtain ⟨a3, c3, b3, o3, L3, rfl, r3⟩ := hC.rd
  have kz := zz3 W a1 c1 b1 o1 _ L1 r1 a2 c2 b2 o2 _ L2 r2 a3 c3 b3 o3 _ L3 r3
  clear r1 r2 r3
  have HA : Hid (BUSY W All (.slice a1 A.length c1) A) := hA
  have HB : Hid (BUSY W All (.slice a2 B.length c2) B) := hB
  have HC : Hid (BUSY W All (.slice a3 C.length c3) C) := hC
  clear hA hB hC
  obtain ⟨n1, hn1⟩ : ∃ n, n = A.length := ⟨_, rfl⟩
  obtain ⟨n2, hn2⟩ : ∃ n, n = B.length := ⟨_, rfl⟩
  obtain ⟨n3, hn3⟩ : ∃ n, n = C.length := ⟨_, rfl⟩
  rw [← hn1, ← hn2, ← hn3] at kz
  rw [← hn1] at HA ⊢
  rw [← hn2] at HB ⊢
  rw [← hn3] at HC ⊢
  clear hn1 hn2 hn3
  go_enter Try.func3, Try.ntmps3
  go_wp2_with fail
  refine kz.mono ?_
  rintro e w0 ⟨⟨r, rfl⟩, hw0⟩
  subst w0
  clear kz
  cases r with
  | false => go_wp2; go_ret; exact ⟨rfl, Below.refl _ _⟩
  | true =>
  go_wp2_with fail
  refine (bytes_any W A 0 _ HA.out (by omega) (by omega)).mono ?_
  rintro e w1 ⟨⟨r, rfl, hr0, hr1, hfA⟩, bel1⟩
  by_cases hr : 1048576 < r
  · clear hfA; go_wp2; go_ret; exact ⟨rfl, bel1⟩
  replace hr : r ≤ 1048576 := by omega
  have HFA : Hid (fits A) := hfA hr
  clear hfA hr1
  go_wp2_with fail
  refine (bytes_any w1 B r _ (HB.out.below bel1) hr0 hr).mono ?_
  clear hr0 hr
  rintro e w2 ⟨⟨r, rfl, hr0, hr1, hfA⟩, bel2⟩
  have bel2 := bel1.trans (bel2.mono bel1.size)
  clear bel1
  by_cases hr : 1048576 < r
  · clear hfA; go_wp2; go_ret; exact ⟨rfl, bel2⟩
  replace hr : r ≤ 1048576 := by omega
  have HFB : Hid (fits B) := hfA hr
  clear hfA hr1
  go_wp2_with fail
  refine (bytes_any w2 C r _ (HC.out.below bel2) hr0 hr).mono ?_
  clear hr0 hr
  rintro e w3 ⟨⟨r, rfl, hr0, hr1, hfA⟩, bel3⟩
  have bel3 := bel2.trans (bel3.mono bel2.size)
  clear bel2
  by_cases hr : 1048576 < r
  · clear hfA; go_wp2; go_ret; exact ⟨rfl, bel3⟩
  replace hr : r ≤ 1048576 := by omega
  have HFC : Hid (fits C) := hfA hr
  clear hfA hr1
  go_wp2_with fail
  refine (distinct_any w3 A _ (HA.out.below bel3) HFA.out).mono ?_
  clear hr0 hr
  rintro e w4 ⟨⟨r, rfl, hnA⟩, m, hw4⟩
  subst w4
  cases r with
  | false => clear hnA; go_wp2; go_ret; exact ⟨rfl, bel3.trans (drew_below _ _ _)⟩
  | true =>
  have HNA : Hid ((kys A).Nodup) := hnA rfl
  clear hnA
  go_wp2_with fail
  refine (distinct_any _ B _ (HB.out.below (bel3.trans (drew_below _ _ _))) HFB.out).mono ?_
  rintro e w4 ⟨⟨r, rfl, hnA⟩, m2, hw4⟩
  rw [drew2] at hw4
  subst w4
  cases r with
  | false => clear hnA; go_wp2; go_ret; exact ⟨rfl, bel3.trans (drew_below _ _ _)⟩
  | true =>
  have HNB : Hid ((kys B).Nodup) := hnA rfl
  clear hnA
  go_wp2_with fail
  refine (distinct_any _ C _ (HC.out.below (bel3.trans (drew_below _ _ _))) HFC.out).mono ?_
  rintro e w4 ⟨⟨r, rfl, hnA⟩, m3, hw4⟩
  rw [drew2] at hw4
  have bel4 : Below W.heap.size W w4 := by rw [hw4]; exact bel3.trans (drew_below _ _ _)
  clear hw4 bel3
  cases r with
  | false => clear hnA; go_wp2; go_ret; exact ⟨rfl, bel4⟩
  | true =>
  have HNC : Hid ((kys C).Nodup) := hnA rfl
  clear hnA
  go_wp2_with fail
  refine (cloneBusy_any w4 A _ (HA.out.below bel4) HFA.out.1 HFA.out.2).mono ?_
  rintro e w5 ⟨xa, rfl, hxa, b5⟩
  have HXA : Hid (CB w5 xa A) := ⟨hxa, HFA.out.1, HFA.out.2, HNA.out⟩
  have bel5 := bel4.trans (b5.mono bel4.size)
  clear hxa b5 bel4 HA HFA HNA
  go_wp2_with fail
  refine (cloneBusy_any w5 B _ (HB.out.below bel5) HFB.out.1 HFB.out.2).mono ?_
  rintro e w6 ⟨xb, rfl, hxb, b6⟩
  have HXB : Hid (CB w6 xb B) := ⟨hxb, HFB.out.1, HFB.out.2, HNB.out⟩
  have bel6 := bel5.trans (b6.mono bel5.size)
  replace HXA : Hid (CB w6 xa A) := HXA.out.below b6
  clear hxb b6 bel5 HB HFB HNB
  go_wp2_with fail
  refine (cloneBusy_any w6 C _ (HC.out.below bel6) HFC.out.1 HFC.out.2).mono ?_
  rintro e w7 ⟨xc, rfl, hxc, b7⟩
  have HXC : Hid (CB w7 xc C) := ⟨hxc, HFC.out.1, HFC.out.2, HNC.out⟩
  have bel7 := bel6.trans (b7.mono bel6.size)
  replace HXA : Hid (CB w7 xa A) := HXA.out.below b7
  replace HXB : Hid (CB w7 xb B) := HXB.out.below b7
  clear hxc b7 bel6 HC HFC HNC
  go_wp2_with fail
  refine (newTurns_any w7).mono ?_
  rintro e w8 ⟨rfl, h8⟩
  replace h8 := turns_ts (F := W.heap.size) bel7.size h8
  obtain ⟨T, hT⟩ : ∃ T, T = w7.heap.size := ⟨_, rfl⟩
  rw [← hT]
  have HT : Hid (T = w7.heap.size) := hT
  clear hT
  go_wp2_with fail
  refine (newWaiter_any w8).mono ?_
  rintro e w9 ⟨rfl, h9⟩
  have s8 := h8.2.size
  replace h9 := waiter_wt (F := W.heap.size) (by have := bel7.size; omega) h9
  obtain ⟨W1, hW1⟩ : ∃ T, T = w8.heap.size + 1 := ⟨_, rfl⟩
  rw [← hW1]
  have HW1 : Hid (W1 = w8.heap.size + 1) := hW1
  clear hW1
  go_wp2_with fail
  refine (newWaiter_any w9).mono ?_
  rintro e w10 ⟨rfl, h10⟩
  have s9 := h9.2.size
  replace h10 := waiter_wt (F := W.heap.size) (by have := bel7.size; omega) h10
  obtain ⟨W2, hW2⟩ : ∃ T, T = w9.heap.size + 1 := ⟨_, rfl⟩
  rw [← hW2]
  have h11 := start_tw (F := W.heap.size) bel7.size h8 h9 h10
  rw [← HT.out, ← HW1.out, ← hW2] at h11
  have HS : Hid (LS W w10 T [] W1 (fresh w8.heap.size) W2 (fresh w9.heap.size) xa A xb B xc C) := by
    have b := h11.2
    rw [HT.out] at b
    exact ⟨h11.1, HXA.out.below b, HXB.out.below b, HXC.out.below b, bel7.trans (b.mono bel7.size)⟩
  obtain ⟨ch1, hch1⟩ : ∃ T, T = w8.heap.size := ⟨_, rfl⟩
  obtain ⟨ch2, hch2⟩ : ∃ T, T = w9.heap.size := ⟨_, rfl⟩
  rw [← hch1, ← hch2] at HS
  clear h8 h9 h10 h11 HT HW1 hW2 hch1 hch2 s8 s9 HXA HXB HXC bel7
  go_wp2_with fail
  refine (busyCounts_any w10 A xa HS.out.a.busy (by have := HS.out.a.len; omega)).mono ?_
  rintro e w11 ⟨ya, rfl, hya, b11⟩
  replace HS : Hid (LS W w11 T [] W1 (fresh ch1) W2 (fresh ch2) xa A xb B xc C) := HS.out.below b11
  clear b11
  go_wp2_with fail
  refine (zzsettle_any (settle_any w11 W.heap.size T [] W1 (fresh ch1) W2 (fresh ch2) A ya HS.out.tw hya HS.out.a.len HS.out.a.keys HS.out.a.nodup List.nodup_nil (by simp [fresh]) (by simp) (by simp [fresh]) (by simp [LV, ln]) (.inl ⟨rfl, rfl⟩))).mono ?_
  rintro e w12 hR
  obtain ⟨M1, p1, rfl, ht, hf, hlM1, hq1, hoff1, htok1, hlv1⟩ := hR.plain rfl
  replace HS : Hid (LS W w12 T M1 W1 p1 W2 (fresh ch2) xa A xb B xc C) := HS.out.fr hf ht
  have HP1 : Hid (p1.qs = kys A ∧ p1.off = [] ∧ p1.tok = 0 ∧ M1.length ≤ 2 * A.length ∧ LV M1 = k1 W1 (kys A)) := ⟨hq1, hoff1, htok1, by simpa using hlM1, funext hlv1⟩
  clear hR hya ht hf hlM1 hq1 hoff1 htok1 hlv1
  go_wp2_with fail
  refine (busyCounts_any w12 B xb HS.out.b.busy (by have := HS.out.b.len; omega)).mono ?_
  rintro e w13 ⟨yb, rfl, hyb, b13⟩
  replace HS : Hid (LS W w13 T M1 W1 p1 W2 (fresh ch2) xa A xb B xc C) := HS.out.below b13
  clear b13
  go_wp2_with fail
  refine (zzsettle_any (settle_any w13 W.heap.size T M1 W2 (fresh ch2) W1 p1 B yb HS.out.tw.swap hyb HS.out.b.len HS.out.b.keys HS.out.b.nodup List.nodup_nil (by simp [fresh]) (by have := HP1.out.2.2.2.1; have := HS.out.a.len; omega) (by simp [fresh]) (by rw [HP1.out.2.2.2.2]; exact k1_short _ _) (.inl ⟨rfl, rfl⟩))).mono ?_
  rintro e w14 hR
  obtain ⟨M2, q2, rfl, ht, hf, hlM2, hq2, hoff2, htok2, hlv2⟩ := hR.plain rfl
  replace HS : Hid (LS W w14 T M2 W1 p1 W2 q2 xa A xb B xc C) := HS.out.fr hf ht.swap
  have HP2 : Hid (q2.qs = kys B ∧ q2.off = [] ∧ q2.tok = 0 ∧ M2.length ≤ 2 * A.length + 2 * B.length ∧ LV M2 = k2 W1 W2 (kys A) (kys B)) := ⟨hq2, hoff2, htok2, by have := HP1.out.2.2.2.1; omega, by
    rw [HP1.out.2.2.2.2] at hlv2
    exact funext hlv2⟩
  clear hR hyb ht hf hlM2 hq2 hoff2 htok2 hlv2
  go_wp2_with fail
  refine (busyCounts_any w14 C xc HS.out.c.busy (by have := HS.out.c.len; omega)).mono ?_
  rintro e w15 ⟨yc, rfl, hyc, b15⟩
  replace HS : Hid (LS W w15 T M2 W1 p1 W2 q2 xa A xb B xc C) := HS.out.below b15
  clear b15
  go_wp2_with fail
  refine (zzsettle_any (settle_any w15 W.heap.size T M2 W1 p1 W2 q2 C yc HS.out.tw hyc HS.out.c.len HS.out.c.keys HS.out.c.nodup (by rw [HP1.out.1]; exact HS.out.a.nodup) (by rw [HP1.out.1, kys_len]; have := HS.out.a.len; omega) (by have := HP2.out.2.2.2.1; have := HS.out.a.len; have := HS.out.b.len; omega) (by
      rw [HP1.out.1, HP2.out.2.2.2.2]
      intro k hk _
      exact k2_line hk) (by rw [HP2.out.2.2.2.2]; exact k2_short _ _ _ _) (.inl ⟨HP1.out.2.1, HP1.out.2.2.1⟩))).mono ?_
  rintro e w16 hR
  obtain ⟨M3, p3, rfl, ht, hf, hlM3, hq3, hoff3, htok3, hlv3⟩ := hR.plain HP1.out.2.1
  replace HS : Hid (LS W w16 T M3 W1 p3 W2 q2 xa A xb B xc C) := HS.out.fr hf ht
  have HP3 : Hid (p3.qs = kys C ∧ p3.off = [] ∧ p3.tok = 0 ∧ LV M3 = k3 W1 W2 (kys A) (kys B) (kys C)) := ⟨hq3, hoff3, htok3, by
    rw [HP1.out.1, HP2.out.2.2.2.2] at hlv3
    exact funext hlv3⟩
  clear hR hyc ht hf hlM3 hq3 hoff3 htok3 hlv3 HP1
  go_wp2_with fail
  refine (any_any w16 A xa HS.out.a.busy (by have := HS.out.a.len; omega)).mono ?_
  rintro e w17 ⟨rfl, b⟩
  replace HS : Hid (LS W w17 T M3 W1 p3 W2 q2 xa A xb B xc C) := HS.out.below b
  clear b
  go_wp2_with fail
  refine (any_any w17 B xb HS.out.b.busy (by have := HS.out.b.len; omega)).mono ?_
  rintro e w18 ⟨rfl, b⟩
  replace HS : Hid (LS W w18 T M3 W1 p3 W2 q2 xa A xb B xc C) := HS.out.below b
  clear b
  go_wp2_with fail
  refine (any_any w18 C xc HS.out.c.busy (by have := HS.out.c.len; omega)).mono ?_
  rintro e w19 ⟨rfl, b⟩
  replace HS : Hid (LS W w19 T M3 W1 p3 W2 q2 xa A xb B xc C) := HS.out.below b
  clear b
  go_wp2_with fail
  refine (queued_any w19 W.heap.size W1 p3 HS.out.tw.tp).mono ?_
  rintro e w' ⟨rfl, hw'⟩
  subst w'
  go_wp2_with fail
  refine (keysOf_any w19 C xc HS.out.c.busy (by have := HS.out.c.len; omega)).mono ?_
  rintro e w20 ⟨K, rfl, hrow, b⟩
  replace HS : Hid (LS W w20 T M3 W1 p3 W2 q2 xa A xb B xc C) := HS.out.below b
  have hsr := strs_srow hrow
  clear b hrow
  go_wp2_with fail
  refine (sameStrs_any w20 p3.qs (kys C) _ _ HS.out.tw.tp.row hsr (by rw [HP3.out.1, kys_len]; have := HS.out.c.len; omega) (by rw [kys_len]; have := HS.out.c.len; omega)).mono ?_
  rintro e w21 ⟨rfl, m21, hw21⟩
  rw [decide_eq_true HP3.out.1]
  replace HS : Hid (LS W w21 T M3 W1 p3 W2 q2 xa A xb B xc C) := HS.out.below (by rw [hw21]; exact drew_below _ _ _)
  clear hsr hw21
  go_wp2_with fail
  refine (queued_any w21 W.heap.size W2 q2 HS.out.tw.tq).mono ?_
  rintro e w' ⟨rfl, hw'⟩
  subst w'
  go_wp2_with fail
  refine (keysOf_any w21 B xb HS.out.b.busy (by have := HS.out.b.len; omega)).mono ?_
  rintro e w22 ⟨K2, rfl, hrow, b⟩
  replace HS : Hid (LS W w22 T M3 W1 p3 W2 q2 xa A xb B xc C) := HS.out.below b
  have hsr := strs_srow hrow
  clear b hrow
  go_wp2_with fail
  refine (sameStrs_any w22 q2.qs (kys B) _ _ HS.out.tw.tq.row hsr (by rw [HP2.out.1, kys_len]; have := HS.out.b.len; omega) (by rw [kys_len]; have := HS.out.b.len; omega)).mono ?_
  rintro e w23 ⟨rfl, m23, hw23⟩
  rw [decide_eq_true HP2.out.1]
  replace HS : Hid (LS W w23 T M3 W1 p3 W2 q2 xa A xb B xc C) := HS.out.below (by rw [hw23]; exact drew_below _ _ _)
  clear hsr hw23
  go_wp2_with fail
  refine (offered_any w23 W.heap.size W1 p3 HS.out.tw.tp).mono ?_
  rintro e w' ⟨rfl, hw'⟩
  subst w'
  rw [HP3.out.2.1]
  go_wp2_with fail
  refine (offered_any w23 W.heap.size W2 q2 HS.out.tw.tq).mono ?_
  rintro e w' ⟨rfl, hw'⟩
  subst w'
  rw [HP2.out.2.1]
  go_wp2_with fail
  refine (tokens_any w23 W.heap.size W1 p3 HS.out.tw.tp).mono ?_
  rintro e w' ⟨rfl, hw'⟩
  subst w'
  rw [HP3.out.2.2.1]
  go_wp2_with fail
  refine (tokens_any w23 W.heap.size W2 q2 HS.out.tw.tq).mono ?_
  rintro e w' ⟨rfl, hw'⟩
  subst w'
  rw [HP2.out.2.2.1]
  go_wp2_with fail
  refine (addKeys_any w23 w23 A xa HS.out.a.busy [] _ (KR.start w23) (by have := HS.out.a.len; simp; omega)).mono ?_
  rintro e w24 ⟨z1, rfl, hz1⟩
  go_wp2_with fail
  refine (addKeys_any w23 w24 B xb HS.out.b.busy (addk [] A) _ hz1 (by have := HS.out.a.len; have := HS.out.b.len; have := addk_len A []; simp at this; omega)).mono ?_
  clear hz1
  rintro e w25 ⟨z2, rfl, hz2⟩
  go_wp2_with fail
  refine (addKeys_any w23 w25 C xc HS.out.c.busy (addk (addk [] A) B) _ hz2 (by have := HS.out.a.len; have := HS.out.b.len; have := HS.out.c.len; have := addk_len A []; have := addk_len B (addk [] A); simp at *; omega)).mono ?_
  clear hz2
  rintro e w26 ⟨z3, rfl, hz3⟩
  replace HS : Hid (LS W w26 T M3 W1 p3 W2 q2 xa A xb B xc C) := HS.out.below hz3.2
  obtain ⟨all, hall⟩ : ∃ all, all = addk (addk (addk [] A) B) C := ⟨_, rfl⟩
  rw [← hall] at hz3
  have HALL : Hid (all.Nodup ∧ (∀ k, k ∈ all ↔ k ∈ kys A ∨ k ∈ kys B ∨ k ∈ kys C) ∧ all.length ≤ 20000 ∧ M3.length = (all.filter fun k => decide (wantK W1 W2 (kys A) (kys B) (kys C) k ≠ [])).length) := by
    have hm : ∀ k, k ∈ all ↔ k ∈ kys A ∨ k ∈ kys B ∨ k ∈ kys C := by
      intro k
      rw [hall, addk_mem, addk_mem, addk_mem]
      simp [or_assoc]
    have hnd : all.Nodup := by rw [hall]; exact addk_nodup _ _ (addk_nodup _ _ (addk_nodup _ _ List.nodup_nil))
    refine ⟨hnd, hm, ?_, ?_⟩
    · rw [hall]
      have h1 := addk_len A []
      have h2 := addk_len B (addk [] A)
      have h3 := addk_len C (addk (addk [] A) B)
      have h4 := HS.out.a.len
      have h5 := HS.out.b.len
      have h6 := HS.out.c.len
      simp only [List.length_nil] at h1
      omega
    · refine kept_count HS.out.tw.nodup hnd (fun k => ?_) ?_
      · rw [HP3.out.2.2.2]; exact k3_eq _ _ _ _ _ k
      · intro k hk
        rw [hm]
        unfold wantK at hk
        by_cases h1 : k ∈ kys A
        · exact .inl h1
        · by_cases h2 : k ∈ kys B
          · exact .inr (.inl h2)
          · by_cases h3 : k ∈ kys C
            · exact .inr (.inr h3)
            · simp [h1, h2, h3] at hk
  have hsr := owns_srow rfl hz3.1
  obtain ⟨za, zc, rfl⟩ := hz3.lit
  clear hz3 hall
  obtain ⟨N, hN⟩ : ∃ N, N = all.length := ⟨_, rfl⟩
  rw [← hN] at hsr ⊢
  have HN : Hid (N = all.length) := hN
  have HSR : Hid (SROW w26 (.slice za N zc) all) := hsr
  have hNl : N ≤ 20000 := by rw [hN]; exact HALL.out.2.2.1
  clear hN hsr
  obtain ⟨i29, hi29, hz0, hz1, hz2⟩ := info_parts Try.info29
  have hm01 : 0 + 1 ≤ maxLen := by unfold maxLen; omega
  have hm02 : (0 + 1) * 8 ≤ 140737488355328 := by omega
  have hm11 : 1 + 1 ≤ maxLen := by unfold maxLen; omega
  have hm12 : (1 + 1) * 8 ≤ 140737488355328 := by omega
  unfold ptr
  go_wp2_with fail
  go_loopw [18, 153] (fun y x wr => ∃ i kp : Nat, i ≤ N ∧ kp ≤ i ∧ y = .int .i64 kp ∧ x = .int .i64 i ∧ kp = ((all.take i).filter fun k => decide (wantK W1 W2 (kys A) (kys B) (kys C) k ≠ [])).length ∧ Below w26.heap.size w26 wr) (fun _ x _ => N - (intOf x).toNat)
  case atStart => exact ⟨0, 0, by omega, by omega, rfl, rfl, by simp, Below.refl _ _⟩
  case round =>
    obtain ⟨i, kp, hi, hkp, rfl, rfl, hkpe, hbel⟩ := hrel
    have HKP : Hid (kp = ((all.take i).filter fun k => decide (wantK W1 W2 (kys A) (kys B) (kys C) k ≠ [])).length) := hkpe
    have HBEL : Hid (Below w26.heap.size w26 wr) := hbel
    clear hkpe hbel
    by_cases hlt : i < N
    · have hsr := HSR.out.rok (RoK.below HBEL.out)
      obtain ⟨gb, go, rfl, hcells⟩ := hsr.cell (by have := HN.out; omega)
      have hk : all[i]? = some (all[i]'(by have := HN.out; omega)) := List.getElem?_eq_getElem _
      obtain ⟨key, hke⟩ : ∃ k, k = all[i]'(by have := HN.out; omega) := ⟨_, rfl⟩
      rw [← hke] at hk
      have d := hcells i key hk
      have HK : Hid (all[i]? = some key) := hk
      obtain ⟨kb, hkb⟩ : ∃ kb : ByteArray, kb = ⟨key.toArray⟩ := ⟨_, rfl⟩
      rw [← hkb] at d
      have HKB : Hid (kb = ⟨key.toArray⟩) := hkb
      clear hsr hcells hk hke hkb
      have HS1 : Hid (LS W wr T M3 W1 p3 W2 q2 xa A xb B xc C) := HS.out.below HBEL.out
      go_wp2_with fail
      have h20 := has_any wr A key xa HS1.out.a.busy (by have := HS1.out.a.len; omega)
      rw [any_kys, ← HKB.out] at h20
      refine h20.mono ?_
      clear h20 d
      rintro e wr1 ⟨rfl, b⟩
      replace HS1 : Hid (LS W wr1 T M3 W1 p3 W2 q2 xa A xb B xc C) := HS1.out.below b
      replace HBEL : Hid (Below w26.heap.size w26 wr1) := HBEL.out.trans (b.mono HBEL.out.size)
      clear b
      go_wp2_with fail
      have h20 := has_any wr1 B key xb HS1.out.b.busy (by have := HS1.out.b.len; omega)
      rw [any_kys, ← HKB.out] at h20
      refine h20.mono ?_
      clear h20
      rintro e wr2 ⟨rfl, b⟩
      replace HS1 : Hid (LS W wr2 T M3 W1 p3 W2 q2 xa A xb B xc C) := HS1.out.below b
      replace HBEL : Hid (Below w26.heap.size w26 wr2) := HBEL.out.trans (b.mono HBEL.out.size)
      clear b
      go_wp2_with fail
      have h20 := has_any wr2 C key xc HS1.out.c.busy (by have := HS1.out.c.len; omega)
      rw [any_kys, ← HKB.out] at h20
      refine h20.mono ?_
      clear h20
      rintro e wr3 ⟨rfl, b⟩
      replace HS1 : Hid (LS W wr3 T M3 W1 p3 W2 q2 xa A xb B xc C) := HS1.out.below b
      replace HBEL : Hid (Below w26.heap.size w26 wr3) := HBEL.out.trans (b.mono HBEL.out.size)
      clear b
      by_cases h1 : key ∈ kys A
      · by_cases h2 : key ∈ kys B
        · by_cases h3 : key ∈ kys C
          · have hwant : wantK W1 W2 (kys A) (kys B) (kys C) key = [W1, W2] := by simp [wantK, h1, h2, h3]
            rw [decide_eq_true h1, decide_eq_true h2, decide_eq_true h3]
            have HWANT : Hid (wantK W1 W2 (kys A) (kys B) (kys C) key = [W1, W2]) := hwant
            clear h1 h2 h3 hwant
            have HAP1 : Hid (AP w26 (wr3.alloc (.cells #[ptr W1] 29)) (.slice none 0 0) 0 [] wr3.heap.size W1) := want_first HBEL.out W1
            go_wp2_with (first
            | (at_builtin; refine wpList_append_lies _ rfl (.tmp 170) (.tmp 172) 43 rfl w26.heap.size 29 i29 _ 1 8 Try.underlying43 hi29 hz0 hz1 hz2 rfl (Nat.le_refl 1) _ 0 [] rfl HAP1.out.own ⟨wr3.heap.size, 0, none⟩ 1 1 [ptr W1] rfl rfl HAP1.out.news (one_ptr _) (Nat.le_refl 1) hm01 hm02 HAP1.out.size _ rfl ?_; intro g1 cap1 wv1 hown1 hgrow1 hat1 hlt1; clear hat1 hlt1; have HAP2 : Hid (AP w26 (wv1.alloc (.cells #[ptr W2] 29)) (.slice (some ⟨g1, 0, none⟩) 1 cap1) 1 [ptr W1] wv1.heap.size W2) := want_gen (HAP1.out.fin _ hgrow1) hown1 W2; clear hown1 hgrow1)
            | (at_builtin; refine wpList_append_lies _ rfl (.tmp 175) (.tmp 177) 43 rfl w26.heap.size 29 i29 _ 1 8 Try.underlying43 hi29 hz0 hz1 hz2 rfl (Nat.le_refl 1) _ 1 [ptr W1] rfl HAP2.out.own ⟨wv1.heap.size, 0, none⟩ 1 1 [ptr W2] rfl rfl HAP2.out.news (one_ptr _) (Nat.le_refl 1) hm11 hm12 HAP2.out.size _ rfl ?_; intro g2 cap2 wv2 hown2 hgrow2 hat2 hlt2; clear hat2 hlt2))
            have hbL : Below w26.heap.size w26 wv2 := HAP2.out.fin _ hgrow2
            have hli := keeps_line HS.out hbL HP3.out.2.2.2 HALL.out.2.1 HK.out HWANT.out (v := .slice (some ⟨g2, 0, none⟩) 2 cap2) hown2 (by simp) (by simp)
            rw [← HKB.out] at hli
            unfold ptr at hli
            refine hli.mono ?_
            clear hli
            rintro e w' ⟨rfl, m', hw'⟩
            have hbE : Below w26.heap.size w26 w' := by rw [hw']; exact hbL.trans (drew_below _ _ _)
            clear hw' hbL hown2 hgrow2
            go_wp2_with fail
            go_roundw
            case rel => exact ⟨i + 1, kp + 1, by omega, by omega, by go_num, by go_num, by rw [kept_succ HK.out, ← HKP.out, HWANT.out]; simp, hbE⟩
            case measure => simp [intOf]; omega
          · have hwant : wantK W1 W2 (kys A) (kys B) (kys C) key = [W2] := by simp [wantK, h1, h2, h3]
            rw [decide_eq_true h1, decide_eq_true h2, decide_eq_false h3]
            have HWANT : Hid (wantK W1 W2 (kys A) (kys B) (kys C) key = [W2]) := hwant
            clear h1 h2 h3 hwant
            have HAP1 : Hid (AP w26 (wr3.alloc (.cells #[ptr W2] 29)) (.slice none 0 0) 0 [] wr3.heap.size W2) := want_first HBEL.out W2
            go_wp2_with (first
            | (at_builtin; refine wpList_append_lies _ rfl (.tmp 175) (.tmp 177) 43 rfl w26.heap.size 29 i29 _ 1 8 Try.underlying43 hi29 hz0 hz1 hz2 rfl (Nat.le_refl 1) _ 0 [] rfl HAP1.out.own ⟨wr3.heap.size, 0, none⟩ 1 1 [ptr W2] rfl rfl HAP1.out.news (one_ptr _) (Nat.le_refl 1) hm01 hm02 HAP1.out.size _ rfl ?_; intro g1 cap1 wv1 hown1 hgrow1 hat1 hlt1; clear hat1 hlt1))
            have hbL : Below w26.heap.size w26 wv1 := HAP1.out.fin _ hgrow1
            have hli := keeps_line HS.out hbL HP3.out.2.2.2 HALL.out.2.1 HK.out HWANT.out (v := .slice (some ⟨g1, 0, none⟩) 1 cap1) hown1 (by simp) (by simp)
            rw [← HKB.out] at hli
            unfold ptr at hli
            refine hli.mono ?_
            clear hli
            rintro e w' ⟨rfl, m', hw'⟩
            have hbE : Below w26.heap.size w26 w' := by rw [hw']; exact hbL.trans (drew_below _ _ _)
            clear hw' hbL hown1 hgrow1
            go_wp2_with fail
            go_roundw
            case rel => exact ⟨i + 1, kp + 1, by omega, by omega, by go_num, by go_num, by rw [kept_succ HK.out, ← HKP.out, HWANT.out]; simp, hbE⟩
            case measure => simp [intOf]; omega
        · by_cases h3 : key ∈ kys C
          · have hwant : wantK W1 W2 (kys A) (kys B) (kys C) key = [W1] := by simp [wantK, h1, h2, h3]
            rw [decide_eq_true h1, decide_eq_false h2, decide_eq_true h3]
            have HWANT : Hid (wantK W1 W2 (kys A) (kys B) (kys C) key = [W1]) := hwant
            clear h1 h2 h3 hwant
            have HAP1 : Hid (AP w26 (wr3.alloc (.cells #[ptr W1] 29)) (.slice none 0 0) 0 [] wr3.heap.size W1) := want_first HBEL.out W1
            go_wp2_with (first
            | (at_builtin; refine wpList_append_lies _ rfl (.tmp 170) (.tmp 172) 43 rfl w26.heap.size 29 i29 _ 1 8 Try.underlying43 hi29 hz0 hz1 hz2 rfl (Nat.le_refl 1) _ 0 [] rfl HAP1.out.own ⟨wr3.heap.size, 0, none⟩ 1 1 [ptr W1] rfl rfl HAP1.out.news (one_ptr _) (Nat.le_refl 1) hm01 hm02 HAP1.out.size _ rfl ?_; intro g1 cap1 wv1 hown1 hgrow1 hat1 hlt1; clear hat1 hlt1))
            have hbL : Below w26.heap.size w26 wv1 := HAP1.out.fin _ hgrow1
            have hli := keeps_line HS.out hbL HP3.out.2.2.2 HALL.out.2.1 HK.out HWANT.out (v := .slice (some ⟨g1, 0, none⟩) 1 cap1) hown1 (by simp) (by simp)
            rw [← HKB.out] at hli
            unfold ptr at hli
            refine hli.mono ?_
            clear hli
            rintro e w' ⟨rfl, m', hw'⟩
            have hbE : Below w26.heap.size w26 w' := by rw [hw']; exact hbL.trans (drew_below _ _ _)
            clear hw' hbL hown1 hgrow1
            go_wp2_with fail
            go_roundw
            case rel => exact ⟨i + 1, kp + 1, by omega, by omega, by go_num, by go_num, by rw [kept_succ HK.out, ← HKP.out, HWANT.out]; simp, hbE⟩
            case measure => simp [intOf]; omega
          · have hwant : wantK W1 W2 (kys A) (kys B) (kys C) key = [] := by simp [wantK, h1, h2, h3]
            rw [decide_eq_true h1, decide_eq_false h2, decide_eq_false h3]
            have HWANT : Hid (wantK W1 W2 (kys A) (kys B) (kys C) key = []) := hwant
            clear h1 h2 h3 hwant
            go_wp2_with fail
            have hbL : Below w26.heap.size w26 wr3 := HBEL.out
            have hli := keeps_line HS.out hbL HP3.out.2.2.2 HALL.out.2.1 HK.out HWANT.out (v := .slice none 0 0) (⟨rfl, .inl ⟨rfl, rfl⟩⟩) (by simp) (by simp)
            rw [← HKB.out] at hli
            unfold ptr at hli
            refine hli.mono ?_
            clear hli
            rintro e w' ⟨rfl, m', hw'⟩
            have hbE : Below w26.heap.size w26 w' := by rw [hw']; exact hbL.trans (drew_below _ _ _)
            clear hw' hbL
            go_wp2_with fail
            go_roundw
            case rel => exact ⟨i + 1, kp, by omega, by omega, by go_num, by go_num, by rw [kept_succ HK.out, ← HKP.out, HWANT.out]; simp, hbE⟩
            case measure => simp [intOf]; omega
      · by_cases h2 : key ∈ kys B
        · by_cases h3 : key ∈ kys C
          · have hwant : wantK W1 W2 (kys A) (kys B) (kys C) key = [W2, W1] := by simp [wantK, h1, h2, h3]
            rw [decide_eq_false h1, decide_eq_true h2, decide_eq_true h3]
            have HWANT : Hid (wantK W1 W2 (kys A) (kys B) (kys C) key = [W2, W1]) := hwant
            clear h1 h2 h3 hwant
            have HAP1 : Hid (AP w26 (wr3.alloc (.cells #[ptr W2] 29)) (.slice none 0 0) 0 [] wr3.heap.size W2) := want_first HBEL.out W2
            go_wp2_with (first
            | (at_builtin; refine wpList_append_lies _ rfl (.tmp 175) (.tmp 177) 43 rfl w26.heap.size 29 i29 _ 1 8 Try.underlying43 hi29 hz0 hz1 hz2 rfl (Nat.le_refl 1) _ 0 [] rfl HAP1.out.own ⟨wr3.heap.size, 0, none⟩ 1 1 [ptr W2] rfl rfl HAP1.out.news (one_ptr _) (Nat.le_refl 1) hm01 hm02 HAP1.out.size _ rfl ?_; intro g1 cap1 wv1 hown1 hgrow1 hat1 hlt1; clear hat1 hlt1; have HAP2 : Hid (AP w26 (wv1.alloc (.cells #[ptr W1] 29)) (.slice (some ⟨g1, 0, none⟩) 1 cap1) 1 [ptr W2] wv1.heap.size W1) := want_gen (HAP1.out.fin _ hgrow1) hown1 W1; clear hown1 hgrow1)
            | (at_builtin; refine wpList_append_lies _ rfl (.tmp 184) (.tmp 186) 43 rfl w26.heap.size 29 i29 _ 1 8 Try.underlying43 hi29 hz0 hz1 hz2 rfl (Nat.le_refl 1) _ 1 [ptr W2] rfl HAP2.out.own ⟨wv1.heap.size, 0, none⟩ 1 1 [ptr W1] rfl rfl HAP2.out.news (one_ptr _) (Nat.le_refl 1) hm11 hm12 HAP2.out.size _ rfl ?_; intro g2 cap2 wv2 hown2 hgrow2 hat2 hlt2; clear hat2 hlt2))
            have hbL : Below w26.heap.size w26 wv2 := HAP2.out.fin _ hgrow2
            have hli := keeps_line HS.out hbL HP3.out.2.2.2 HALL.out.2.1 HK.out HWANT.out (v := .slice (some ⟨g2, 0, none⟩) 2 cap2) hown2 (by simp) (by simp)
            rw [← HKB.out] at hli
            unfold ptr at hli
            refine hli.mono ?_
            clear hli
            rintro e w' ⟨rfl, m', hw'⟩
            have hbE : Below w26.heap.size w26 w' := by rw [hw']; exact hbL.trans (drew_below _ _ _)
            clear hw' hbL hown2 hgrow2
            go_wp2_with fail
            go_roundw
            case rel => exact ⟨i + 1, kp + 1, by omega, by omega, by go_num, by go_num, by rw [kept_succ HK.out, ← HKP.out, HWANT.out]; simp, hbE⟩
            case measure => simp [intOf]; omega
          · have hwant : wantK W1 W2 (kys A) (kys B) (kys C) key = [W2] := by simp [wantK, h1, h2, h3]
            rw [decide_eq_false h1, decide_eq_true h2, decide_eq_false h3]
            have HWANT : Hid (wantK W1 W2 (kys A) (kys B) (kys C) key = [W2]) := hwant
            clear h1 h2 h3 hwant
            have HAP1 : Hid (AP w26 (wr3.alloc (.cells #[ptr W2] 29)) (.slice none 0 0) 0 [] wr3.heap.size W2) := want_first HBEL.out W2
            go_wp2_with (first
            | (at_builtin; refine wpList_append_lies _ rfl (.tmp 175) (.tmp 177) 43 rfl w26.heap.size 29 i29 _ 1 8 Try.underlying43 hi29 hz0 hz1 hz2 rfl (Nat.le_refl 1) _ 0 [] rfl HAP1.out.own ⟨wr3.heap.size, 0, none⟩ 1 1 [ptr W2] rfl rfl HAP1.out.news (one_ptr _) (Nat.le_refl 1) hm01 hm02 HAP1.out.size _ rfl ?_; intro g1 cap1 wv1 hown1 hgrow1 hat1 hlt1; clear hat1 hlt1))
            have hbL : Below w26.heap.size w26 wv1 := HAP1.out.fin _ hgrow1
            have hli := keeps_line HS.out hbL HP3.out.2.2.2 HALL.out.2.1 HK.out HWANT.out (v := .slice (some ⟨g1, 0, none⟩) 1 cap1) hown1 (by simp) (by simp)
            rw [← HKB.out] at hli
            unfold ptr at hli
            refine hli.mono ?_
            clear hli
            rintro e w' ⟨rfl, m', hw'⟩
            have hbE : Below w26.heap.size w26 w' := by rw [hw']; exact hbL.trans (drew_below _ _ _)
            clear hw' hbL hown1 hgrow1
            go_wp2_with fail
            go_roundw
            case rel => exact ⟨i + 1, kp + 1, by omega, by omega, by go_num, by go_num, by rw [kept_succ HK.out, ← HKP.out, HWANT.out]; simp, hbE⟩
            case measure => simp [intOf]; omega
        · by_cases h3 : key ∈ kys C
          · have hwant : wantK W1 W2 (kys A) (kys B) (kys C) key = [W1] := by simp [wantK, h1, h2, h3]
            rw [decide_eq_false h1, decide_eq_false h2, decide_eq_true h3]
            have HWANT : Hid (wantK W1 W2 (kys A) (kys B) (kys C) key = [W1]) := hwant
            clear h1 h2 h3 hwant
            have HAP1 : Hid (AP w26 (wr3.alloc (.cells #[ptr W1] 29)) (.slice none 0 0) 0 [] wr3.heap.size W1) := want_first HBEL.out W1
            go_wp2_with (first
            | (at_builtin; refine wpList_append_lies _ rfl (.tmp 184) (.tmp 186) 43 rfl w26.heap.size 29 i29 _ 1 8 Try.underlying43 hi29 hz0 hz1 hz2 rfl (Nat.le_refl 1) _ 0 [] rfl HAP1.out.own ⟨wr3.heap.size, 0, none⟩ 1 1 [ptr W1] rfl rfl HAP1.out.news (one_ptr _) (Nat.le_refl 1) hm01 hm02 HAP1.out.size _ rfl ?_; intro g1 cap1 wv1 hown1 hgrow1 hat1 hlt1; clear hat1 hlt1))
            have hbL : Below w26.heap.size w26 wv1 := HAP1.out.fin _ hgrow1
            have hli := keeps_line HS.out hbL HP3.out.2.2.2 HALL.out.2.1 HK.out HWANT.out (v := .slice (some ⟨g1, 0, none⟩) 1 cap1) hown1 (by simp) (by simp)
            rw [← HKB.out] at hli
            unfold ptr at hli
            refine hli.mono ?_
            clear hli
            rintro e w' ⟨rfl, m', hw'⟩
            have hbE : Below w26.heap.size w26 w' := by rw [hw']; exact hbL.trans (drew_below _ _ _)
            clear hw' hbL hown1 hgrow1
            go_wp2_with fail
            go_roundw
            case rel => exact ⟨i + 1, kp + 1, by omega, by omega, by go_num, by go_num, by rw [kept_succ HK.out, ← HKP.out, HWANT.out]; simp, hbE⟩
            case measure => simp [intOf]; omega
          · have hwant : wantK W1 W2 (kys A) (kys B) (kys C) key = [] := by simp [wantK, h1, h2, h3]
            rw [decide_eq_false h1, decide_eq_false h2, decide_eq_false h3]
            have HWANT : Hid (wantK W1 W2 (kys A) (kys B) (kys C) key = []) := hwant
            clear h1 h2 h3 hwant
            go_wp2_with fail
            have hbL : Below w26.heap.size w26 wr3 := HBEL.out
            have hli := keeps_line HS.out hbL HP3.out.2.2.2 HALL.out.2.1 HK.out HWANT.out (v := .slice none 0 0) (⟨rfl, .inl ⟨rfl, rfl⟩⟩) (by simp) (by simp)
            rw [← HKB.out] at hli
            unfold ptr at hli
            refine hli.mono ?_
            clear hli
            rintro e w' ⟨rfl, m', hw'⟩
            have hbE : Below w26.heap.size w26 w' := by rw [hw']; exact hbL.trans (drew_below _ _ _)
            clear hw' hbL
            go_wp2_with fail
            go_roundw
            case rel => exact ⟨i + 1, kp, by omega, by omega, by go_num, by go_num, by rw [kept_succ HK.out, ← HKP.out, HWANT.out]; simp, hbE⟩
            case measure => simp [intOf]; omega
    · have hfull : all.take i = all := List.take_of_length_le (by have := HN.out; omega)
      have hkM : kp = M3.length := by rw [HKP.out, hfull]; exact HALL.out.2.2.2.symm
      have HS1 : Hid (LS W wr T M3 W1 p3 W2 q2 xa A xb B xc C) := HS.out.below HBEL.out
      obtain ⟨mb, hts⟩ := HS1.out.tw.ts
      have kn := numCounts_any wr W.heap.size T 0 mb M3 hts
      rw [← hkM] at kn
      unfold ptr at kn
      clear hfull hkM hts
      go_wp2_with fail
      refine kn.mono ?_
      clear kn
      rintro e w' ⟨rfl, hw'⟩
      subst w'
      go_wp2
      go_ret
      exact ⟨by simp, HS1.out.bel⟩
end Go.Proofs.Qxb6616195a
