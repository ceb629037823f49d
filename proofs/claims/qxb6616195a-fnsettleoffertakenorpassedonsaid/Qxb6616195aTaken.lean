/- FnSettleOfferTakenOrPassedOn, walked. -/
import Derived.Test.Qxb6616195aWant
namespace Go.Proofs.Qxb6616195a
open Go.RowKit Go.Conc

theorem offer_line {W w w' : World} {T : Nat} {M : List Ent} {W1 : Nat} {p : WS} {W2 : Nat} {q : WS} {xa : Value} {A : List Bz} {xb : Value} {B : List Bz} {xc : Value} {C : List Bz} {all : List Ky} {i : Nat} {key : Ky} {want : List Nat} {v : Value} {t : Bool}
    (h : LS W w T M W1 p W2 q xa A xb B xc C) (hb : Below w.heap.size w w') (hM : ∀ k, LV M k = if wantO W1 W2 t (kys A) (kys C) k = [] then none else some (wantO W1 W2 t (kys A) (kys C) k)) (hall : ∀ k, k ∈ all ↔ k ∈ kys A ∨ k ∈ kys C) (hk : all[i]? = some key) (hw : wantO W1 W2 t (kys A) (kys C) key = want)
    (hrow : w'.ownsRow w.heap.size 29 1 v want.length (want.map ptr)) (hl : want.length ≤ 1000) (hwm : ∀ g ∈ want, g = W1 ∨ g = W2) :
    Calls Try.prog 21 #[ptr T, .string ⟨key.toArray⟩, v] w' fun e w'' => e = .returned (.bool true) ∧ ∃ n, w'' = w'.drewN n := by
  have h' := h.below hb
  obtain ⟨mb, hts⟩ := h'.tw.ts
  refine lineIs_any w' W.heap.size T 0 mb M key hts ?_ w.heap.size v want hrow hl ?_ ?_
  · rcases (hall key).1 (List.mem_of_getElem? hk) with h1 | h1
    · exact h'.a.klen key h1
    · exact h'.c.klen key h1
  · intro g hg
    rcases hwm g hg with rfl | rfl
    · exact h'.tw.tp.isW
    · exact h'.tw.tq.isW
  · rw [hM, hw]

set_option maxHeartbeats 4000000 in
set_option maxRecDepth 100000 in
theorem offer_law (W : World) (va vc : Value) (x : Int) (A C : List Bz) (hA : BUSY W All va A) (hC : BUSY W All vc C) (hx : -9223372036854775808 ≤ x ∧ x ≤ 9223372036854775807) :
    Calls Try.prog 4 #[va, .int .i64 x, vc] W fun e W' => YES W e W' := by
  obtain ⟨a1, c1, b1, o1, L1, rfl, r1⟩ := hA.rd
  obtain ⟨a3, c3, b3, of3, L3, rfl, r3⟩ := hC.rd
  have kz := zz4 W x a1 c1 b1 o1 _ L1 r1 a3 c3 b3 of3 _ L3 r3
  clear r1 r3
  have HA : Hid (BUSY W All (.slice a1 A.length c1) A) := hA
  have HC : Hid (BUSY W All (.slice a3 C.length c3) C) := hC
  clear hA hC
  obtain ⟨n1, hn1⟩ : ∃ n, n = A.length := ⟨_, rfl⟩
  obtain ⟨n3, hn3⟩ : ∃ n, n = C.length := ⟨_, rfl⟩
  rw [← hn1, ← hn3] at kz
  rw [← hn1] at HA ⊢
  rw [← hn3] at HC ⊢
  have HN1 : Hid (n1 = A.length) := hn1
  clear hn1 hn3
  go_enter Try.func4, Try.ntmps4
  go_wp2_with fail
  refine kz.mono ?_
  rintro e w0 ⟨⟨r, rfl⟩, hw0⟩
  subst w0
  clear kz
  cases r with
  | false => go_wp2; go_ret; exact ⟨rfl, Below.refl _ _⟩
  | true =>
  go_wp2_with fail
  refine (bytes_any W A 0 _ HA.out (by omega) (by omega)).mono ?_
  rintro e w1 ⟨⟨r, rfl, hr0, hr1, hfA⟩, bel1⟩
  by_cases hr : 1048576 < r
  · clear hfA; go_wp2; go_ret; exact ⟨rfl, bel1⟩
  replace hr : r ≤ 1048576 := by omega
  have HFA : Hid (fits A) := hfA hr
  clear hfA hr1
  go_wp2_with fail
  refine (bytes_any w1 C r _ (HC.out.below bel1) hr0 hr).mono ?_
  clear hr0 hr
  rintro e w3 ⟨⟨r, rfl, hr0, hr1, hfA⟩, bel3⟩
  replace bel3 := bel1.trans (bel3.mono bel1.size)
  clear bel1
  by_cases hr : 1048576 < r
  · clear hfA; go_wp2; go_ret; exact ⟨rfl, bel3⟩
  replace hr : r ≤ 1048576 := by omega
  have HFC : Hid (fits C) := hfA hr
  clear hfA hr1
  go_wp2_with fail
  refine (distinct_any w3 A _ (HA.out.below bel3) HFA.out).mono ?_
  clear hr0 hr
  rintro e w4 ⟨⟨r, rfl, hnA⟩, m, hw4⟩
  subst w4
  cases r with
  | false => clear hnA; go_wp2; go_ret; exact ⟨rfl, bel3.trans (drew_below _ _ _)⟩
  | true =>
  have HNA : Hid ((kys A).Nodup) := hnA rfl
  clear hnA
  go_wp2_with fail
  refine (distinct_any _ C _ (HC.out.below (bel3.trans (drew_below _ _ _))) HFC.out).mono ?_
  rintro e w4 ⟨⟨r, rfl, hnA⟩, m3, hw4⟩
  rw [drew2] at hw4
  have bel4 : Below W.heap.size W w4 := by rw [hw4]; exact bel3.trans (drew_below _ _ _)
  clear hw4 bel3
  cases r with
  | false => clear hnA; go_wp2; go_ret; exact ⟨rfl, bel4⟩
  | true =>
  have HNC : Hid ((kys C).Nodup) := hnA rfl
  clear hnA
  have hn1l : n1 ≤ 4096 := by rw [HN1.out]; exact HFA.out.1
  have HBEL4 : Hid (Below W.heap.size W w4) := bel4
  clear bel4
  by_cases hx0 : x < 0
  · go_wp2; go_ret; exact ⟨rfl, HBEL4.out⟩
  by_cases hx1 : (n1 : Int) ≤ x
  · go_wp2; go_ret; exact ⟨rfl, HBEL4.out⟩
  obtain ⟨j, rfl⟩ : ∃ j : Nat, x = j := ⟨x.toNat, by omega⟩
  have hj : j < n1 := by omega
  clear hx0 hx1 hx
  obtain ⟨key, z, ka, kc, kl, b, o, hp, hkl, d1, rfl⟩ : ∃ key z ka kc kl b o, A[j]? = some (key, z) ∧ kl = key.length ∧ w4.cell? ⟨b, o + j * 2, none⟩ = some (.slice ka kl kc) ∧ a1 = some ⟨b, o, none⟩ := by
    obtain ⟨a', c', b, o, he, ha, hc⟩ := HA.out
    simp only [Value.slice.injEq] at he
    obtain ⟨rfl, hnA, rfl⟩ := he
    obtain ⟨rfl, -, hb⟩ := ha (by omega)
    obtain ⟨key, z, ka, kc, kb, ko, kl, hp, hkl, -, -, d1, -⟩ := hc.at hnA hj hb HBEL4.out
    exact ⟨key, z, ka, kc, kl, b, o, hp, hkl, d1, rfl⟩
  have HP : Hid (A[j]? = some (key, z) ∧ kl = key.length) := ⟨hp, hkl⟩
  clear hp hkl
  by_cases hk0 : kl = 0
  · subst hk0
    go_wp2; go_ret; exact ⟨rfl, HBEL4.out⟩
  have HKNE : Hid (key ≠ []) := by
    intro e
    have := HP.out.2
    rw [e] at this
    simp at this
    exact hk0 this
  have hkpos : ((kl : Int) == 0) = false := by simpa using hk0
  go_wp2_with fail
  clear hk0 hkpos d1
  refine (cloneBusy_any w4 A _ (HA.out.below HBEL4.out) HFA.out.1 HFA.out.2).mono ?_
  rintro e w5 ⟨xa, rfl, hxa, b5⟩
  have HXA : Hid (CB w5 xa A) := ⟨hxa, HFA.out.1, HFA.out.2, HNA.out⟩
  have bel5 := HBEL4.out.trans (b5.mono HBEL4.out.size)
  clear hxa b5 HBEL4 HA HFA HNA
  go_wp2_with fail
  refine (cloneBusy_any w5 C _ (HC.out.below bel5) HFC.out.1 HFC.out.2).mono ?_
  rintro e w7 ⟨xc, rfl, hxc, b7⟩
  have HXC : Hid (CB w7 xc C) := ⟨hxc, HFC.out.1, HFC.out.2, HNC.out⟩
  have bel7 := bel5.trans (b7.mono bel5.size)
  replace HXA : Hid (CB w7 xa A) := HXA.out.below b7
  clear hxc b7 bel5 HC HFC HNC
  obtain ⟨xaa, xac, xb, xo, hxae, d1, hconv⟩ : ∃ xaa xac b o, xa = .slice (some ⟨b, o, none⟩) n1 xac ∧ w7.cell? ⟨b, o + j * 2, none⟩ = some xaa ∧ (convert 47 9 xaa).run Try.prog w7 = .ok (.string ⟨key.toArray⟩) w7 := by
    obtain ⟨a', c', b, o, he, ha, hc⟩ := HXA.out.busy
    have hAl : 0 < A.length := by have := HN1.out; omega
    obtain ⟨kv, d1, hK, -⟩ := hc j _ HP.out.1
    refine ⟨kv, c', b, o, ?_, d1, hK.conv⟩
    rw [he, (ha hAl).1, HN1.out]
  obtain ⟨ka2, kl2, kc2, hxaa⟩ : ∃ a l c, xaa = .slice a l c := by
    obtain ⟨a', c', b, o, he, ha, hc⟩ := HXA.out.busy
    have hAl : 0 < A.length := by have := HN1.out; omega
    obtain ⟨kv, d2, ⟨ka, kc, kb, ko, rfl, -, -⟩, -⟩ := hc j _ HP.out.1
    rw [(ha hAl).1] at he
    rw [he] at hxae
    simp only [Value.slice.injEq, Option.some.injEq, Addr.mk.injEq] at hxae
    obtain ⟨⟨rfl, rfl, -⟩, -, -⟩ := hxae
    rw [d1] at d2
    exact ⟨_, _, _, Option.some.inj d2⟩
  subst hxaa
  subst hxae
  obtain ⟨fb, hfb⟩ : ∃ fb : ByteArray, fb = ⟨key.toArray⟩ := ⟨_, rfl⟩
  rw [← hfb] at hconv
  have HFB : Hid (fb = ⟨key.toArray⟩) := hfb
  clear hfb
  obtain ⟨xa, hxae⟩ : ∃ xa, xa = Value.slice (some ⟨xb, xo, none⟩) n1 xac := ⟨_, rfl⟩
  rw [← hxae] at HXA
  have HXE : Hid (xa = .slice (some ⟨xb, xo, none⟩) n1 xac) := hxae
  clear hxae
  go_wp2_with fail
  clear d1 hconv
  rw [← HXE.out]
  refine (newTurns_any w7).mono ?_
  rintro e w8 ⟨rfl, h8⟩
  replace h8 := turns_ts (F := W.heap.size) bel7.size h8
  obtain ⟨T, hT⟩ : ∃ T, T = w7.heap.size := ⟨_, rfl⟩
  rw [← hT]
  have HT : Hid (T = w7.heap.size) := hT
  clear hT
  go_wp2_with fail
  refine (newWaiter_any w8).mono ?_
  rintro e w9 ⟨rfl, h9⟩
  have s8 := h8.2.size
  replace h9 := waiter_wt (F := W.heap.size) (by have := bel7.size; omega) h9
  obtain ⟨W1, hW1⟩ : ∃ T, T = w8.heap.size + 1 := ⟨_, rfl⟩
  rw [← hW1]
  have HW1 : Hid (W1 = w8.heap.size + 1) := hW1
  clear hW1
  go_wp2_with fail
  refine (newWaiter_any w9).mono ?_
  rintro e w10 ⟨rfl, h10⟩
  have s9 := h9.2.size
  replace h10 := waiter_wt (F := W.heap.size) (by have := bel7.size; omega) h10
  obtain ⟨W2, hW2⟩ : ∃ T, T = w9.heap.size + 1 := ⟨_, rfl⟩
  rw [← hW2]
  have h11 := start_tw (F := W.heap.size) bel7.size h8 h9 h10
  rw [← HT.out, ← HW1.out, ← hW2] at h11
  have HS : Hid (LS W w10 T [] W1 (fresh w8.heap.size) W2 (fresh w9.heap.size) xa A xa A xc C) := by
    have b := h11.2
    rw [HT.out] at b
    exact ⟨h11.1, HXA.out.below b, HXA.out.below b, HXC.out.below b, bel7.trans (b.mono bel7.size)⟩
  obtain ⟨ch1, hch1⟩ : ∃ T, T = w8.heap.size := ⟨_, rfl⟩
  obtain ⟨ch2, hch2⟩ : ∃ T, T = w9.heap.size := ⟨_, rfl⟩
  rw [← hch1, ← hch2] at HS
  clear h8 h9 h10 h11 HT HW1 hW2 hch1 hch2 s8 s9 HXA HXC bel7
  go_wp2_with fail
  refine (busyCounts_any w10 A xa HS.out.a.busy (by have := HS.out.a.len; omega)).mono ?_
  rintro e w11 ⟨ya, rfl, hya, b11⟩
  replace HS : Hid (LS W w11 T [] W1 (fresh ch1) W2 (fresh ch2) xa A xa A xc C) := HS.out.below b11
  clear b11
  go_wp2_with fail
  refine (zzsettle_any (settle_any w11 W.heap.size T [] W1 (fresh ch1) W2 (fresh ch2) A ya HS.out.tw hya HS.out.a.len HS.out.a.keys HS.out.a.nodup List.nodup_nil (by simp [fresh]) (by simp) (by simp [fresh]) (by simp [LV, ln]) (.inl ⟨rfl, rfl⟩))).mono ?_
  rintro e w12 hR
  obtain ⟨M1, p1, rfl, ht, hf, hlM1, hq1, hoff1, htok1, hlv1⟩ := hR.plain rfl
  replace HS : Hid (LS W w12 T M1 W1 p1 W2 (fresh ch2) xa A xa A xc C) := HS.out.fr hf ht
  have HP1 : Hid (p1.qs = kys A ∧ p1.off = [] ∧ p1.tok = 0 ∧ M1.length ≤ 2 * A.length ∧ LV M1 = k1 W1 (kys A)) := ⟨hq1, hoff1, htok1, by simpa using hlM1, funext hlv1⟩
  clear hR hya ht hf hlM1 hq1 hoff1 htok1 hlv1
  go_wp2_with fail
  refine (busyCounts_any w12 A xa HS.out.b.busy (by have := HS.out.b.len; omega)).mono ?_
  rintro e w13 ⟨yb, rfl, hyb, b13⟩
  replace HS : Hid (LS W w13 T M1 W1 p1 W2 (fresh ch2) xa A xa A xc C) := HS.out.below b13
  clear b13
  go_wp2_with fail
  refine (zzsettle_any (settle_any w13 W.heap.size T M1 W2 (fresh ch2) W1 p1 A yb HS.out.tw.swap hyb HS.out.b.len HS.out.b.keys HS.out.b.nodup List.nodup_nil (by simp [fresh]) (by have := HP1.out.2.2.2.1; have := HS.out.a.len; omega) (by simp [fresh]) (by rw [HP1.out.2.2.2.2]; exact k1_short _ _) (.inl ⟨rfl, rfl⟩))).mono ?_
  rintro e w14 hR
  obtain ⟨M2, q2, rfl, ht, hf, hlM2, hq2, hoff2, htok2, hlv2⟩ := hR.plain rfl
  replace HS : Hid (LS W w14 T M2 W1 p1 W2 q2 xa A xa A xc C) := HS.out.fr hf ht.swap
  have HP2 : Hid (q2.qs = kys A ∧ q2.off = [] ∧ q2.tok = 0 ∧ M2.length ≤ 4 * A.length ∧ LV M2 = k2 W1 W2 (kys A) (kys A)) := ⟨hq2, hoff2, htok2, by have := HP1.out.2.2.2.1; omega, by
    rw [HP1.out.2.2.2.2] at hlv2
    exact funext hlv2⟩
  clear hR hyb ht hf hlM2 hq2 hoff2 htok2 hlv2
  have HKA : Hid (key ∈ kys A) := by
    have := List.mem_of_getElem? HP.out.1
    exact List.mem_map.2 ⟨_, this, rfl⟩
  go_wp2_with fail
  have ko := zzoffer_any (offer_any w14 W.heap.size T 0 M2 W1 p1 W2 q2 key [W2] HS.out.tw (by rw [HP2.out.2.2.2.2]; exact k2_both HKA.out) HP1.out.2.2.1 (by rw [HP1.out.1]; exact HS.out.a.nodup) (by rw [HP1.out.1, kys_len]; have := HS.out.a.len; omega) (by have := HP2.out.2.2.2.1; have := HS.out.a.len; omega) (by
      rw [HP1.out.1, HP2.out.2.2.2.2]
      intro k hk
      exact k2_line hk) (by
      rw [HP2.out.2.2.2.2]
      intro k l hl
      have := k2_short _ _ _ _ k l hl
      omega))
  rw [← HFB.out] at ko
  refine ko.mono ?_
  clear ko
  rintro e w15 ⟨rfl, M3, qv3, ht, hlv3, hlM3, hf⟩
  replace HS : Hid (LS W w15 T M3 W1 { ch := p1.ch, qv := qv3, qs := [], off := key, tok := 1 } W2 q2 xa A xa A xc C) := HS.out.fr hf ht
  have HP3 : Hid (M3.length ≤ 4 * A.length ∧ LV M3 = o3 W1 W2 (kys A)) := ⟨by have := HP2.out.2.2.2.1; omega, by
    rw [HP1.out.1, HP2.out.2.2.2.2] at hlv3
    exact funext hlv3⟩
  clear ht hlv3 hlM3 hf
  obtain ⟨p3, hp3⟩ : ∃ p3 : WS, p3 = { ch := p1.ch, qv := qv3, qs := [], off := key, tok := 1 } := ⟨_, rfl⟩
  rw [← hp3] at HS
  have HP3' : Hid (p3.qs = [] ∧ p3.off = key ∧ p3.tok = 1) := by rw [hp3]; exact ⟨rfl, rfl, rfl⟩
  clear hp3 HP1
  go_wp2_with fail
  refine (busyCounts_any w15 C xc HS.out.c.busy (by have := HS.out.c.len; omega)).mono ?_
  rintro e w16 ⟨yc, rfl, hyc, b15⟩
  replace HS : Hid (LS W w16 T M3 W1 p3 W2 q2 xa A xa A xc C) := HS.out.below b15
  clear b15
  have hs4 : setf W1 (kys C) p3.qs (LV M3) = o4 W1 W2 (kys A) (kys C) := by rw [HP3'.out.1, HP3.out.2]; rfl
  have k3s := zzsettle_any (settle_any w16 W.heap.size T M3 W1 p3 W2 q2 C yc HS.out.tw hyc HS.out.c.len HS.out.c.keys HS.out.c.nodup (by rw [HP3'.out.1]; exact List.nodup_nil) (by rw [HP3'.out.1]; simp) (by have := HP3.out.1; have := HS.out.a.len; omega) (by
      rw [HP3'.out.1]
      intro k hk
      simp at hk) (by rw [HP3.out.2]; exact o3_short _ _ _) (.inr ⟨by rw [HP3'.out.2.1]; exact HKNE.out, HP3'.out.2.2, by
      by_cases hin : p3.off ∈ kys C
      · exact .inl hin
      · refine .inr ⟨hin, HP2.out.2.2.1, by rw [HP2.out.1]; exact HS.out.a.nodup, by rw [HP2.out.1, kys_len]; have := HS.out.a.len; omega, ?_, ?_⟩
        · rw [hs4, HP3'.out.2.1]
          rcases o4_line (W1 := W1) (W2 := W2) (c := kys C) HKA.out with h | h
          · exact ⟨_, h⟩
          · exact ⟨_, h⟩
        · rw [hs4, HP2.out.1]
          intro k hk
          exact o4_line hk⟩))
  have HS4 : Hid (setf W1 (kys C) p3.qs (LV M3) = o4 W1 W2 (kys A) (kys C)) := hs4
  clear hs4 hyc
  go_wp2_with fail
  refine k3s.mono ?_
  clear k3s
  rintro e w17 ⟨M4, again, p4, q4, rfl, ht, hf, hlM4, hq4, hoff4, htok4, hcase⟩
  replace HS : Hid (LS W w17 T M4 W1 p4 W2 q4 xa A xa A xc C) := HS.out.fr hf ht
  have HP4 : Hid (p4.qs = kys C ∧ p4.off = [] ∧ p4.tok = 0) := ⟨hq4, hoff4, htok4⟩
  clear ht hf hlM4 hq4 hoff4 htok4
  rw [HS4.out, HP3'.out.2.1] at hcase
  obtain ⟨i29, hi29, hz0, hz1, hz2⟩ := info_parts Try.info29
  have hm01 : 0 + 1 ≤ maxLen := by unfold maxLen; omega
  have hm02 : (0 + 1) * 8 ≤ 140737488355328 := by omega
  have hm11 : 1 + 1 ≤ maxLen := by unfold maxLen; omega
  have hm12 : (1 + 1) * 8 ≤ 140737488355328 := by omega
  rcases hcase with ⟨h0, -⟩ | ⟨-, hin, hag, hq, hlv⟩ | ⟨-, hin, hag, hqs, hqo, hqt, hlv⟩
  · exact absurd h0 HKNE.out
  · subst hag hq
    have HQ4 : Hid (q4.qs = kys A ∧ q4.off = [] ∧ q4.tok = 0) := ⟨HP2.out.1, HP2.out.2.1, HP2.out.2.2.1⟩
    have HLV : Hid (∀ k, LV M4 k = if wantO W1 W2 true (kys A) (kys C) k = [] then none else some (wantO W1 W2 true (kys A) (kys C) k)) := fun k => (hlv k).trans (o4_eq _ _ _ _ k)
    have HIN : Hid (key ∈ kys C) := hin
    clear hin hlv HP2 HP3 HP3' HS4
    go_wp2_with fail
    have h20 := has_any w17 C key xc HS.out.c.busy (by have := HS.out.c.len; omega)
    rw [any_kys, ← HFB.out, decide_eq_true HIN.out] at h20
    refine h20.mono ?_
    clear h20
    rintro e w18 ⟨rfl, b⟩
    replace HS : Hid (LS W w18 T M4 W1 p4 W2 q4 xa A xa A xc C) := HS.out.below b
    clear b
    go_wp2_with fail
    refine (any_any w18 A xa HS.out.a.busy (by have := HS.out.a.len; omega)).mono ?_
    rintro e w19 ⟨rfl, b⟩
    replace HS : Hid (LS W w19 T M4 W1 p4 W2 q4 xa A xa A xc C) := HS.out.below b
    clear b
    go_wp2_with fail
    refine (any_any w19 A xa HS.out.a.busy (by have := HS.out.a.len; omega)).mono ?_
    rintro e w20 ⟨rfl, b⟩
    replace HS : Hid (LS W w20 T M4 W1 p4 W2 q4 xa A xa A xc C) := HS.out.below b
    clear b
    go_wp2_with fail
    refine (any_any w20 C xc HS.out.c.busy (by have := HS.out.c.len; omega)).mono ?_
    rintro e w21 ⟨rfl, b⟩
    replace HS : Hid (LS W w21 T M4 W1 p4 W2 q4 xa A xa A xc C) := HS.out.below b
    clear b
    go_wp2_with fail
    refine (offered_any w21 W.heap.size W1 p4 HS.out.tw.tp).mono ?_
    rintro e w' ⟨rfl, hw'⟩
    subst w'
    rw [HP4.out.2.1]
    go_wp2_with fail
    refine (tokens_any w21 W.heap.size W1 p4 HS.out.tw.tp).mono ?_
    rintro e w' ⟨rfl, hw'⟩
    subst w'
    rw [HP4.out.2.2]
    go_wp2_with fail
    refine (queued_any w21 W.heap.size W1 p4 HS.out.tw.tp).mono ?_
    rintro e w' ⟨rfl, hw'⟩
    subst w'
    go_wp2_with fail
    refine (keysOf_any w21 C xc HS.out.c.busy (by have := HS.out.c.len; omega)).mono ?_
    rintro e w22 ⟨K, rfl, hrow, b⟩
    replace HS : Hid (LS W w22 T M4 W1 p4 W2 q4 xa A xa A xc C) := HS.out.below b
    clear b
    have hsr := strs_srow hrow
    clear hrow
    go_wp2_with fail
    refine (sameStrs_any w22 p4.qs (kys C) _ _ HS.out.tw.tp.row hsr (by rw [HP4.out.1, kys_len]; have := HS.out.c.len; omega) (by rw [kys_len]; have := HS.out.c.len; omega)).mono ?_
    rintro e w23 ⟨rfl, m23, hw23⟩
    rw [decide_eq_true HP4.out.1]
    replace HS : Hid (LS W w23 T M4 W1 p4 W2 q4 xa A xa A xc C) := HS.out.below (by rw [hw23]; exact drew_below _ _ _)
    clear hsr hw23
    go_wp2_with fail
    refine (offered_any w23 W.heap.size W2 q4 HS.out.tw.tq).mono ?_
    rintro e w' ⟨rfl, hw'⟩
    subst w'
    rw [HQ4.out.2.1]
    go_wp2_with fail
    refine (tokens_any w23 W.heap.size W2 q4 HS.out.tw.tq).mono ?_
    rintro e w' ⟨rfl, hw'⟩
    subst w'
    rw [HQ4.out.2.2]
    go_wp2_with fail
    refine (queued_any w23 W.heap.size W2 q4 HS.out.tw.tq).mono ?_
    rintro e w' ⟨rfl, hw'⟩
    subst w'
    go_wp2_with fail
    refine (keysOf_any w23 A xa HS.out.a.busy (by have := HS.out.a.len; omega)).mono ?_
    rintro e w24 ⟨K2, rfl, hrow, b⟩
    replace HS : Hid (LS W w24 T M4 W1 p4 W2 q4 xa A xa A xc C) := HS.out.below b
    clear b
    have hsr := strs_srow hrow
    clear hrow
    go_wp2_with fail
    refine (sameStrs_any w24 q4.qs (kys A) _ _ HS.out.tw.tq.row hsr (by rw [HQ4.out.1, kys_len]; have := HS.out.a.len; omega) (by rw [kys_len]; have := HS.out.a.len; omega)).mono ?_
    rintro e w25 ⟨rfl, m25, hw25⟩
    rw [decide_eq_true HQ4.out.1]
    replace HS : Hid (LS W w25 T M4 W1 p4 W2 q4 xa A xa A xc C) := HS.out.below (by rw [hw25]; exact drew_below _ _ _)
    clear hsr hw25
    go_wp2_with fail
    refine (addKeys_any w25 w25 A xa HS.out.a.busy [] _ (KR.start w25) (by have := HS.out.a.len; simp; omega)).mono ?_
    rintro e w40 ⟨z1, rfl, hz1'⟩
    go_wp2_with fail
    refine (addKeys_any w25 w40 C xc HS.out.c.busy (addk [] A) _ hz1' (by have := HS.out.a.len; have := HS.out.c.len; have := addk_len A []; simp at this; omega)).mono ?_
    clear hz1'
    rintro e w26 ⟨z3, rfl, hz3⟩
    replace HS : Hid (LS W w26 T M4 W1 p4 W2 q4 xa A xa A xc C) := HS.out.below hz3.2
    obtain ⟨all, hall⟩ : ∃ all, all = addk (addk [] A) C := ⟨_, rfl⟩
    rw [← hall] at hz3
    have HALL : Hid (all.Nodup ∧ (∀ k, k ∈ all ↔ k ∈ kys A ∨ k ∈ kys C) ∧ all.length ≤ 20000 ∧ M4.length = (all.filter fun k => decide (wantO W1 W2 true (kys A) (kys C) k ≠ [])).length) := by
      have hm : ∀ k, k ∈ all ↔ k ∈ kys A ∨ k ∈ kys C := by
        intro k
        rw [hall, addk_mem, addk_mem]
        simp
      have hnd : all.Nodup := by rw [hall]; exact addk_nodup _ _ (addk_nodup _ _ List.nodup_nil)
      refine ⟨hnd, hm, ?_, kept_count HS.out.tw.nodup hnd HLV.out ?_⟩
      · rw [hall]
        have h1 := addk_len A []
        have h3 := addk_len C (addk [] A)
        have h4 := HS.out.a.len
        have h6 := HS.out.c.len
        simp only [List.length_nil] at h1
        omega
      · intro k hk
        rw [hm]
        unfold wantO at hk
        by_cases h1 : k ∈ kys A
        · exact .inl h1
        · by_cases h3 : k ∈ kys C
          · exact .inr h3
          · simp [h1, h3] at hk
    have hsr := owns_srow rfl hz3.1
    obtain ⟨za, zc, rfl⟩ := hz3.lit
    clear hz3 hall
    obtain ⟨N, hN⟩ : ∃ N, N = all.length := ⟨_, rfl⟩
    rw [← hN] at hsr ⊢
    have HN : Hid (N = all.length) := hN
    have HSR : Hid (SROW w26 (.slice za N zc) all) := hsr
    have hNl : N ≤ 20000 := by rw [hN]; exact HALL.out.2.2.1
    clear hN hsr
    unfold ptr
    go_wp2_with fail
    go_loopw [20, 187] (fun y x wr => ∃ i kp : Nat, i ≤ N ∧ kp ≤ i ∧ y = .int .i64 kp ∧ x = .int .i64 i ∧ kp = ((all.take i).filter fun k => decide (wantO W1 W2 true (kys A) (kys C) k ≠ [])).length ∧ Below w26.heap.size w26 wr) (fun _ x _ => N - (intOf x).toNat)
    case atStart => exact ⟨0, 0, by omega, by omega, rfl, rfl, by simp, Below.refl _ _⟩
    case round =>
      obtain ⟨i, kp, hi, hkp, rfl, rfl, hkpe, hbel⟩ := hrel
      have HKP : Hid (kp = ((all.take i).filter fun k => decide (wantO W1 W2 true (kys A) (kys C) k ≠ [])).length) := hkpe
      have HBEL : Hid (Below w26.heap.size w26 wr) := hbel
      clear hkpe hbel
      by_cases hlt : i < N
      · have hsr := HSR.out.rok (RoK.below HBEL.out)
        obtain ⟨gb, go, rfl, hcells⟩ := hsr.cell (by have := HN.out; omega)
        have hk : all[i]? = some (all[i]'(by have := HN.out; omega)) := List.getElem?_eq_getElem _
        obtain ⟨ky, hke⟩ : ∃ k, k = all[i]'(by have := HN.out; omega) := ⟨_, rfl⟩
        rw [← hke] at hk
        have d := hcells i ky hk
        have HK : Hid (all[i]? = some ky) := hk
        obtain ⟨yb2, hkb⟩ : ∃ kb : ByteArray, kb = ⟨ky.toArray⟩ := ⟨_, rfl⟩
        rw [← hkb] at d
        have HKB : Hid (yb2 = ⟨ky.toArray⟩) := hkb
        clear hsr hcells hk hke hkb
        have HS1 : Hid (LS W wr T M4 W1 p4 W2 q4 xa A xa A xc C) := HS.out.below HBEL.out
        go_wp2_with fail
        have h20 := has_any wr A ky xa HS1.out.a.busy (by have := HS1.out.a.len; omega)
        rw [any_kys, ← HKB.out] at h20
        refine h20.mono ?_
        clear h20 d
        rintro e wr1 ⟨rfl, b⟩
        replace HS1 : Hid (LS W wr1 T M4 W1 p4 W2 q4 xa A xa A xc C) := HS1.out.below b
        replace HBEL : Hid (Below w26.heap.size w26 wr1) := HBEL.out.trans (b.mono HBEL.out.size)
        clear b
        go_wp2_with fail
        have h20 := has_any wr1 C ky xc HS1.out.c.busy (by have := HS1.out.c.len; omega)
        rw [any_kys, ← HKB.out] at h20
        refine h20.mono ?_
        clear h20
        rintro e wr3 ⟨rfl, b⟩
        replace HS1 : Hid (LS W wr3 T M4 W1 p4 W2 q4 xa A xa A xc C) := HS1.out.below b
        replace HBEL : Hid (Below w26.heap.size w26 wr3) := HBEL.out.trans (b.mono HBEL.out.size)
        clear b
        by_cases h1 : ky ∈ kys A
        · by_cases h3 : ky ∈ kys C
          · have hwant : wantO W1 W2 true (kys A) (kys C) ky = [W2, W1] := by simp [wantO, h1, h3]
            rw [decide_eq_true h1, decide_eq_true h3]
            have HWANT : Hid (wantO W1 W2 true (kys A) (kys C) ky = [W2, W1]) := hwant
            clear h1 h3 hwant
            have HAP1 : Hid (AP w26 (wr3.alloc (.cells #[ptr W2] 29)) (.slice none 0 0) 0 [] wr3.heap.size W2) := want_first HBEL.out W2
            go_wp2_with (first
              | (at_builtin; refine wpList_append_lies _ rfl (.tmp 201) (.tmp 203) 43 rfl w26.heap.size 29 i29 _ 1 8 Try.underlying43 hi29 hz0 hz1 hz2 rfl (Nat.le_refl 1) _ 0 [] rfl HAP1.out.own ⟨wr3.heap.size, 0, none⟩ 1 1 [ptr W2] rfl rfl HAP1.out.news (one_ptr _) (Nat.le_refl 1) hm01 hm02 HAP1.out.size _ rfl ?_; intro g1 cap1 wv1 hown1 hgrow1 hat1 hlt1; clear hat1 hlt1; have HAP2 : Hid (AP w26 (wv1.alloc (.cells #[ptr W1] 29)) (.slice (some ⟨g1, 0, none⟩) 1 cap1) 1 [ptr W2] wv1.heap.size W1) := want_gen (HAP1.out.fin _ hgrow1) hown1 W1; clear hown1 hgrow1)
              | (at_builtin; refine wpList_append_lies _ rfl (.tmp 206) (.tmp 208) 43 rfl w26.heap.size 29 i29 _ 1 8 Try.underlying43 hi29 hz0 hz1 hz2 rfl (Nat.le_refl 1) _ 1 [ptr W2] rfl HAP2.out.own ⟨wv1.heap.size, 0, none⟩ 1 1 [ptr W1] rfl rfl HAP2.out.news (one_ptr _) (Nat.le_refl 1) hm11 hm12 HAP2.out.size _ rfl ?_; intro g2 cap2 wv2 hown2 hgrow2 hat2 hlt2; clear hat2 hlt2))
            have hbL : Below w26.heap.size w26 wv2 := HAP2.out.fin _ hgrow2
            have hli := offer_line HS.out hbL HLV.out HALL.out.2.1 HK.out HWANT.out (v := .slice (some ⟨g2, 0, none⟩) 2 cap2) hown2 (by simp) (by simp)
            rw [← HKB.out] at hli
            unfold ptr at hli
            refine hli.mono ?_
            clear hli
            rintro e w' ⟨rfl, m', hw'⟩
            have hbE : Below w26.heap.size w26 w' := by rw [hw']; exact hbL.trans (drew_below _ _ _)
            clear hw' hbL hown2 hgrow2
            go_wp2_with fail
            go_roundw
            case rel => exact ⟨i + 1, kp + 1, by omega, by omega, by go_num, by go_num, by rw [kept_succ HK.out, ← HKP.out, HWANT.out]; simp, hbE⟩
            case measure => simp [intOf]; omega
          · have hwant : wantO W1 W2 true (kys A) (kys C) ky = [W2] := by simp [wantO, h1, h3]
            rw [decide_eq_true h1, decide_eq_false h3]
            have HWANT : Hid (wantO W1 W2 true (kys A) (kys C) ky = [W2]) := hwant
            clear h1 h3 hwant
            have HAP1 : Hid (AP w26 (wr3.alloc (.cells #[ptr W2] 29)) (.slice none 0 0) 0 [] wr3.heap.size W2) := want_first HBEL.out W2
            go_wp2_with (first
              | (at_builtin; refine wpList_append_lies _ rfl (.tmp 201) (.tmp 203) 43 rfl w26.heap.size 29 i29 _ 1 8 Try.underlying43 hi29 hz0 hz1 hz2 rfl (Nat.le_refl 1) _ 0 [] rfl HAP1.out.own ⟨wr3.heap.size, 0, none⟩ 1 1 [ptr W2] rfl rfl HAP1.out.news (one_ptr _) (Nat.le_refl 1) hm01 hm02 HAP1.out.size _ rfl ?_; intro g1 cap1 wv1 hown1 hgrow1 hat1 hlt1; clear hat1 hlt1))
            have hbL : Below w26.heap.size w26 wv1 := HAP1.out.fin _ hgrow1
            have hli := offer_line HS.out hbL HLV.out HALL.out.2.1 HK.out HWANT.out (v := .slice (some ⟨g1, 0, none⟩) 1 cap1) hown1 (by simp) (by simp)
            rw [← HKB.out] at hli
            unfold ptr at hli
            refine hli.mono ?_
            clear hli
            rintro e w' ⟨rfl, m', hw'⟩
            have hbE : Below w26.heap.size w26 w' := by rw [hw']; exact hbL.trans (drew_below _ _ _)
            clear hw' hbL hown1 hgrow1
            go_wp2_with fail
            go_roundw
            case rel => exact ⟨i + 1, kp + 1, by omega, by omega, by go_num, by go_num, by rw [kept_succ HK.out, ← HKP.out, HWANT.out]; simp, hbE⟩
            case measure => simp [intOf]; omega
        · by_cases h3 : ky ∈ kys C
          · have hwant : wantO W1 W2 true (kys A) (kys C) ky = [W1] := by simp [wantO, h1, h3]
            rw [decide_eq_false h1, decide_eq_true h3]
            have HWANT : Hid (wantO W1 W2 true (kys A) (kys C) ky = [W1]) := hwant
            clear h1 h3 hwant
            have HAP1 : Hid (AP w26 (wr3.alloc (.cells #[ptr W1] 29)) (.slice none 0 0) 0 [] wr3.heap.size W1) := want_first HBEL.out W1
            go_wp2_with (first
              | (at_builtin; refine wpList_append_lies _ rfl (.tmp 206) (.tmp 208) 43 rfl w26.heap.size 29 i29 _ 1 8 Try.underlying43 hi29 hz0 hz1 hz2 rfl (Nat.le_refl 1) _ 0 [] rfl HAP1.out.own ⟨wr3.heap.size, 0, none⟩ 1 1 [ptr W1] rfl rfl HAP1.out.news (one_ptr _) (Nat.le_refl 1) hm01 hm02 HAP1.out.size _ rfl ?_; intro g1 cap1 wv1 hown1 hgrow1 hat1 hlt1; clear hat1 hlt1))
            have hbL : Below w26.heap.size w26 wv1 := HAP1.out.fin _ hgrow1
            have hli := offer_line HS.out hbL HLV.out HALL.out.2.1 HK.out HWANT.out (v := .slice (some ⟨g1, 0, none⟩) 1 cap1) hown1 (by simp) (by simp)
            rw [← HKB.out] at hli
            unfold ptr at hli
            refine hli.mono ?_
            clear hli
            rintro e w' ⟨rfl, m', hw'⟩
            have hbE : Below w26.heap.size w26 w' := by rw [hw']; exact hbL.trans (drew_below _ _ _)
            clear hw' hbL hown1 hgrow1
            go_wp2_with fail
            go_roundw
            case rel => exact ⟨i + 1, kp + 1, by omega, by omega, by go_num, by go_num, by rw [kept_succ HK.out, ← HKP.out, HWANT.out]; simp, hbE⟩
            case measure => simp [intOf]; omega
          · have hwant : wantO W1 W2 true (kys A) (kys C) ky = [] := by simp [wantO, h1, h3]
            rw [decide_eq_false h1, decide_eq_false h3]
            have HWANT : Hid (wantO W1 W2 true (kys A) (kys C) ky = []) := hwant
            clear h1 h3 hwant
            go_wp2_with fail
            have hbL : Below w26.heap.size w26 wr3 := HBEL.out
            have hli := offer_line HS.out hbL HLV.out HALL.out.2.1 HK.out HWANT.out (v := .slice none 0 0) (⟨rfl, .inl ⟨rfl, rfl⟩⟩) (by simp) (by simp)
            rw [← HKB.out] at hli
            unfold ptr at hli
            refine hli.mono ?_
            clear hli
            rintro e w' ⟨rfl, m', hw'⟩
            have hbE : Below w26.heap.size w26 w' := by rw [hw']; exact hbL.trans (drew_below _ _ _)
            clear hw' hbL
            go_wp2_with fail
            go_roundw
            case rel => exact ⟨i + 1, kp, by omega, by omega, by go_num, by go_num, by rw [kept_succ HK.out, ← HKP.out, HWANT.out]; simp, hbE⟩
            case measure => simp [intOf]; omega
      · have hfull : all.take i = all := List.take_of_length_le (by have := HN.out; omega)
        have hkM : kp = M4.length := by rw [HKP.out, hfull]; exact HALL.out.2.2.2.symm
        have HS1 : Hid (LS W wr T M4 W1 p4 W2 q4 xa A xa A xc C) := HS.out.below HBEL.out
        obtain ⟨mb, hts⟩ := HS1.out.tw.ts
        have kn := numCounts_any wr W.heap.size T 0 mb M4 hts
        rw [← hkM] at kn
        unfold ptr at kn
        clear hfull hkM hts
        go_wp2_with fail
        refine kn.mono ?_
        clear kn
        rintro e w' ⟨rfl, hw'⟩
        subst w'
        go_wp2
        go_ret
        exact ⟨by simp, HS1.out.bel⟩
  · subst hag
    have HQ4 : Hid (q4.qs = [] ∧ q4.off = key ∧ q4.tok = 1) := ⟨hqs, hqo, hqt⟩
    have HLV : Hid (∀ k, LV M4 k = if wantO W1 W2 false (kys A) (kys C) k = [] then none else some (wantO W1 W2 false (kys A) (kys C) k)) := by
      intro k
      rw [HP2.out.1] at hlv
      exact (hlv k).trans (o5_eq _ _ _ _ k)
    have HIN : Hid (key ∉ kys C) := hin
    clear hin hlv hqs hqo hqt HP2 HP3 HP3' HS4
    go_wp2_with fail
    have h20 := has_any w17 C key xc HS.out.c.busy (by have := HS.out.c.len; omega)
    rw [any_kys, ← HFB.out, decide_eq_false HIN.out] at h20
    refine h20.mono ?_
    clear h20
    rintro e w18 ⟨rfl, b⟩
    replace HS : Hid (LS W w18 T M4 W1 p4 W2 q4 xa A xa A xc C) := HS.out.below b
    clear b
    go_wp2_with fail
    refine (any_any w18 A xa HS.out.a.busy (by have := HS.out.a.len; omega)).mono ?_
    rintro e w19 ⟨rfl, b⟩
    replace HS : Hid (LS W w19 T M4 W1 p4 W2 q4 xa A xa A xc C) := HS.out.below b
    clear b
    go_wp2_with fail
    refine (any_any w19 A xa HS.out.a.busy (by have := HS.out.a.len; omega)).mono ?_
    rintro e w20 ⟨rfl, b⟩
    replace HS : Hid (LS W w20 T M4 W1 p4 W2 q4 xa A xa A xc C) := HS.out.below b
    clear b
    go_wp2_with fail
    refine (any_any w20 C xc HS.out.c.busy (by have := HS.out.c.len; omega)).mono ?_
    rintro e w21 ⟨rfl, b⟩
    replace HS : Hid (LS W w21 T M4 W1 p4 W2 q4 xa A xa A xc C) := HS.out.below b
    clear b
    go_wp2_with fail
    refine (offered_any w21 W.heap.size W1 p4 HS.out.tw.tp).mono ?_
    rintro e w' ⟨rfl, hw'⟩
    subst w'
    rw [HP4.out.2.1]
    go_wp2_with fail
    refine (tokens_any w21 W.heap.size W1 p4 HS.out.tw.tp).mono ?_
    rintro e w' ⟨rfl, hw'⟩
    subst w'
    rw [HP4.out.2.2]
    go_wp2_with fail
    refine (queued_any w21 W.heap.size W1 p4 HS.out.tw.tp).mono ?_
    rintro e w' ⟨rfl, hw'⟩
    subst w'
    go_wp2_with fail
    refine (keysOf_any w21 C xc HS.out.c.busy (by have := HS.out.c.len; omega)).mono ?_
    rintro e w22 ⟨K, rfl, hrow, b⟩
    replace HS : Hid (LS W w22 T M4 W1 p4 W2 q4 xa A xa A xc C) := HS.out.below b
    clear b
    have hsr := strs_srow hrow
    clear hrow
    go_wp2_with fail
    refine (sameStrs_any w22 p4.qs (kys C) _ _ HS.out.tw.tp.row hsr (by rw [HP4.out.1, kys_len]; have := HS.out.c.len; omega) (by rw [kys_len]; have := HS.out.c.len; omega)).mono ?_
    rintro e w23 ⟨rfl, m23, hw23⟩
    rw [decide_eq_true HP4.out.1]
    replace HS : Hid (LS W w23 T M4 W1 p4 W2 q4 xa A xa A xc C) := HS.out.below (by rw [hw23]; exact drew_below _ _ _)
    clear hsr hw23
    go_wp2_with fail
    refine (offered_any w23 W.heap.size W2 q4 HS.out.tw.tq).mono ?_
    rintro e w' ⟨rfl, hw'⟩
    subst w'
    rw [HQ4.out.2.1]
    rw [← HFB.out]
    go_wp2_with fail
    refine (tokens_any w23 W.heap.size W2 q4 HS.out.tw.tq).mono ?_
    rintro e w' ⟨rfl, hw'⟩
    subst w'
    rw [HQ4.out.2.2]
    go_wp2_with fail
    refine (queued_any w23 W.heap.size W2 q4 HS.out.tw.tq).mono ?_
    rintro e w' ⟨rfl, hw'⟩
    subst w'
    obtain ⟨qa, qc, hqv⟩ := HS.out.tw.tq.row.lit
    rw [HQ4.out.1, List.length_nil] at hqv
    rw [hqv]
    clear hqv
    go_wp2_with fail
    refine (addKeys_any w23 w23 A xa HS.out.a.busy [] _ (KR.start w23) (by have := HS.out.a.len; simp; omega)).mono ?_
    rintro e w40 ⟨z1, rfl, hz1'⟩
    go_wp2_with fail
    refine (addKeys_any w23 w40 C xc HS.out.c.busy (addk [] A) _ hz1' (by have := HS.out.a.len; have := HS.out.c.len; have := addk_len A []; simp at this; omega)).mono ?_
    clear hz1'
    rintro e w26 ⟨z3, rfl, hz3⟩
    replace HS : Hid (LS W w26 T M4 W1 p4 W2 q4 xa A xa A xc C) := HS.out.below hz3.2
    obtain ⟨all, hall⟩ : ∃ all, all = addk (addk [] A) C := ⟨_, rfl⟩
    rw [← hall] at hz3
    have HALL : Hid (all.Nodup ∧ (∀ k, k ∈ all ↔ k ∈ kys A ∨ k ∈ kys C) ∧ all.length ≤ 20000 ∧ M4.length = (all.filter fun k => decide (wantO W1 W2 false (kys A) (kys C) k ≠ [])).length) := by
      have hm : ∀ k, k ∈ all ↔ k ∈ kys A ∨ k ∈ kys C := by
        intro k
        rw [hall, addk_mem, addk_mem]
        simp
      have hnd : all.Nodup := by rw [hall]; exact addk_nodup _ _ (addk_nodup _ _ List.nodup_nil)
      refine ⟨hnd, hm, ?_, kept_count HS.out.tw.nodup hnd HLV.out ?_⟩
      · rw [hall]
        have h1 := addk_len A []
        have h3 := addk_len C (addk [] A)
        have h4 := HS.out.a.len
        have h6 := HS.out.c.len
        simp only [List.length_nil] at h1
        omega
      · intro k hk
        rw [hm]
        unfold wantO at hk
        by_cases h1 : k ∈ kys A
        · exact .inl h1
        · by_cases h3 : k ∈ kys C
          · exact .inr h3
          · simp [h1, h3] at hk
    have hsr := owns_srow rfl hz3.1
    obtain ⟨za, zc, rfl⟩ := hz3.lit
    clear hz3 hall
    obtain ⟨N, hN⟩ : ∃ N, N = all.length := ⟨_, rfl⟩
    rw [← hN] at hsr ⊢
    have HN : Hid (N = all.length) := hN
    have HSR : Hid (SROW w26 (.slice za N zc) all) := hsr
    have hNl : N ≤ 20000 := by rw [hN]; exact HALL.out.2.2.1
    clear hN hsr
    unfold ptr
    go_wp2_with fail
    go_loopw [20, 187] (fun y x wr => ∃ i kp : Nat, i ≤ N ∧ kp ≤ i ∧ y = .int .i64 kp ∧ x = .int .i64 i ∧ kp = ((all.take i).filter fun k => decide (wantO W1 W2 false (kys A) (kys C) k ≠ [])).length ∧ Below w26.heap.size w26 wr) (fun _ x _ => N - (intOf x).toNat)
    case atStart => exact ⟨0, 0, by omega, by omega, rfl, rfl, by simp, Below.refl _ _⟩
    case round =>
      obtain ⟨i, kp, hi, hkp, rfl, rfl, hkpe, hbel⟩ := hrel
      have HKP : Hid (kp = ((all.take i).filter fun k => decide (wantO W1 W2 false (kys A) (kys C) k ≠ [])).length) := hkpe
      have HBEL : Hid (Below w26.heap.size w26 wr) := hbel
      clear hkpe hbel
      by_cases hlt : i < N
      · have hsr := HSR.out.rok (RoK.below HBEL.out)
        obtain ⟨gb, go, rfl, hcells⟩ := hsr.cell (by have := HN.out; omega)
        have hk : all[i]? = some (all[i]'(by have := HN.out; omega)) := List.getElem?_eq_getElem _
        obtain ⟨ky, hke⟩ : ∃ k, k = all[i]'(by have := HN.out; omega) := ⟨_, rfl⟩
        rw [← hke] at hk
        have d := hcells i ky hk
        have HK : Hid (all[i]? = some ky) := hk
        obtain ⟨yb2, hkb⟩ : ∃ kb : ByteArray, kb = ⟨ky.toArray⟩ := ⟨_, rfl⟩
        rw [← hkb] at d
        have HKB : Hid (yb2 = ⟨ky.toArray⟩) := hkb
        clear hsr hcells hk hke hkb
        have HS1 : Hid (LS W wr T M4 W1 p4 W2 q4 xa A xa A xc C) := HS.out.below HBEL.out
        go_wp2_with fail
        have h20 := has_any wr A ky xa HS1.out.a.busy (by have := HS1.out.a.len; omega)
        rw [any_kys, ← HKB.out] at h20
        refine h20.mono ?_
        clear h20 d
        rintro e wr1 ⟨rfl, b⟩
        replace HS1 : Hid (LS W wr1 T M4 W1 p4 W2 q4 xa A xa A xc C) := HS1.out.below b
        replace HBEL : Hid (Below w26.heap.size w26 wr1) := HBEL.out.trans (b.mono HBEL.out.size)
        clear b
        go_wp2_with fail
        have h20 := has_any wr1 C ky xc HS1.out.c.busy (by have := HS1.out.c.len; omega)
        rw [any_kys, ← HKB.out] at h20
        refine h20.mono ?_
        clear h20
        rintro e wr3 ⟨rfl, b⟩
        replace HS1 : Hid (LS W wr3 T M4 W1 p4 W2 q4 xa A xa A xc C) := HS1.out.below b
        replace HBEL : Hid (Below w26.heap.size w26 wr3) := HBEL.out.trans (b.mono HBEL.out.size)
        clear b
        by_cases h1 : ky ∈ kys A
        · by_cases h3 : ky ∈ kys C
          · have hwant : wantO W1 W2 false (kys A) (kys C) ky = [W1] := by simp [wantO, h1, h3]
            rw [decide_eq_true h1, decide_eq_true h3]
            have HWANT : Hid (wantO W1 W2 false (kys A) (kys C) ky = [W1]) := hwant
            clear h1 h3 hwant
            have HAP1 : Hid (AP w26 (wr3.alloc (.cells #[ptr W1] 29)) (.slice none 0 0) 0 [] wr3.heap.size W1) := want_first HBEL.out W1
            go_wp2_with (first
              | (at_builtin; refine wpList_append_lies _ rfl (.tmp 206) (.tmp 208) 43 rfl w26.heap.size 29 i29 _ 1 8 Try.underlying43 hi29 hz0 hz1 hz2 rfl (Nat.le_refl 1) _ 0 [] rfl HAP1.out.own ⟨wr3.heap.size, 0, none⟩ 1 1 [ptr W1] rfl rfl HAP1.out.news (one_ptr _) (Nat.le_refl 1) hm01 hm02 HAP1.out.size _ rfl ?_; intro g1 cap1 wv1 hown1 hgrow1 hat1 hlt1; clear hat1 hlt1))
            have hbL : Below w26.heap.size w26 wv1 := HAP1.out.fin _ hgrow1
            have hli := offer_line HS.out hbL HLV.out HALL.out.2.1 HK.out HWANT.out (v := .slice (some ⟨g1, 0, none⟩) 1 cap1) hown1 (by simp) (by simp)
            rw [← HKB.out] at hli
            unfold ptr at hli
            refine hli.mono ?_
            clear hli
            rintro e w' ⟨rfl, m', hw'⟩
            have hbE : Below w26.heap.size w26 w' := by rw [hw']; exact hbL.trans (drew_below _ _ _)
            clear hw' hbL hown1 hgrow1
            go_wp2_with fail
            go_roundw
            case rel => exact ⟨i + 1, kp + 1, by omega, by omega, by go_num, by go_num, by rw [kept_succ HK.out, ← HKP.out, HWANT.out]; simp, hbE⟩
            case measure => simp [intOf]; omega
          · have hwant : wantO W1 W2 false (kys A) (kys C) ky = [] := by simp [wantO, h1, h3]
            rw [decide_eq_true h1, decide_eq_false h3]
            have HWANT : Hid (wantO W1 W2 false (kys A) (kys C) ky = []) := hwant
            clear h1 h3 hwant
            go_wp2_with fail
            have hbL : Below w26.heap.size w26 wr3 := HBEL.out
            have hli := offer_line HS.out hbL HLV.out HALL.out.2.1 HK.out HWANT.out (v := .slice none 0 0) (⟨rfl, .inl ⟨rfl, rfl⟩⟩) (by simp) (by simp)
            rw [← HKB.out] at hli
            unfold ptr at hli
            refine hli.mono ?_
            clear hli
            rintro e w' ⟨rfl, m', hw'⟩
            have hbE : Below w26.heap.size w26 w' := by rw [hw']; exact hbL.trans (drew_below _ _ _)
            clear hw' hbL
            go_wp2_with fail
            go_roundw
            case rel => exact ⟨i + 1, kp, by omega, by omega, by go_num, by go_num, by rw [kept_succ HK.out, ← HKP.out, HWANT.out]; simp, hbE⟩
            case measure => simp [intOf]; omega
        · by_cases h3 : ky ∈ kys C
          · have hwant : wantO W1 W2 false (kys A) (kys C) ky = [W1] := by simp [wantO, h1, h3]
            rw [decide_eq_false h1, decide_eq_true h3]
            have HWANT : Hid (wantO W1 W2 false (kys A) (kys C) ky = [W1]) := hwant
            clear h1 h3 hwant
            have HAP1 : Hid (AP w26 (wr3.alloc (.cells #[ptr W1] 29)) (.slice none 0 0) 0 [] wr3.heap.size W1) := want_first HBEL.out W1
            go_wp2_with (first
              | (at_builtin; refine wpList_append_lies _ rfl (.tmp 206) (.tmp 208) 43 rfl w26.heap.size 29 i29 _ 1 8 Try.underlying43 hi29 hz0 hz1 hz2 rfl (Nat.le_refl 1) _ 0 [] rfl HAP1.out.own ⟨wr3.heap.size, 0, none⟩ 1 1 [ptr W1] rfl rfl HAP1.out.news (one_ptr _) (Nat.le_refl 1) hm01 hm02 HAP1.out.size _ rfl ?_; intro g1 cap1 wv1 hown1 hgrow1 hat1 hlt1; clear hat1 hlt1))
            have hbL : Below w26.heap.size w26 wv1 := HAP1.out.fin _ hgrow1
            have hli := offer_line HS.out hbL HLV.out HALL.out.2.1 HK.out HWANT.out (v := .slice (some ⟨g1, 0, none⟩) 1 cap1) hown1 (by simp) (by simp)
            rw [← HKB.out] at hli
            unfold ptr at hli
            refine hli.mono ?_
            clear hli
            rintro e w' ⟨rfl, m', hw'⟩
            have hbE : Below w26.heap.size w26 w' := by rw [hw']; exact hbL.trans (drew_below _ _ _)
            clear hw' hbL hown1 hgrow1
            go_wp2_with fail
            go_roundw
            case rel => exact ⟨i + 1, kp + 1, by omega, by omega, by go_num, by go_num, by rw [kept_succ HK.out, ← HKP.out, HWANT.out]; simp, hbE⟩
            case measure => simp [intOf]; omega
          · have hwant : wantO W1 W2 false (kys A) (kys C) ky = [] := by simp [wantO, h1, h3]
            rw [decide_eq_false h1, decide_eq_false h3]
            have HWANT : Hid (wantO W1 W2 false (kys A) (kys C) ky = []) := hwant
            clear h1 h3 hwant
            go_wp2_with fail
            have hbL : Below w26.heap.size w26 wr3 := HBEL.out
            have hli := offer_line HS.out hbL HLV.out HALL.out.2.1 HK.out HWANT.out (v := .slice none 0 0) (⟨rfl, .inl ⟨rfl, rfl⟩⟩) (by simp) (by simp)
            rw [← HKB.out] at hli
            unfold ptr at hli
            refine hli.mono ?_
            clear hli
            rintro e w' ⟨rfl, m', hw'⟩
            have hbE : Below w26.heap.size w26 w' := by rw [hw']; exact hbL.trans (drew_below _ _ _)
            clear hw' hbL
            go_wp2_with fail
            go_roundw
            case rel => exact ⟨i + 1, kp, by omega, by omega, by go_num, by go_num, by rw [kept_succ HK.out, ← HKP.out, HWANT.out]; simp, hbE⟩
            case measure => simp [intOf]; omega
      · have hfull : all.take i = all := List.take_of_length_le (by have := HN.out; omega)
        have hkM : kp = M4.length := by rw [HKP.out, hfull]; exact HALL.out.2.2.2.symm
        have HS1 : Hid (LS W wr T M4 W1 p4 W2 q4 xa A xa A xc C) := HS.out.below HBEL.out
        obtain ⟨mb, hts⟩ := HS1.out.tw.ts
        have kn := numCounts_any wr W.heap.size T 0 mb M4 hts
        rw [← hkM] at kn
        unfold ptr at kn
        clear hfull hkM hts
        go_wp2_with fail
        refine kn.mono ?_
        clear kn
        rintro e w' ⟨rfl, hw'⟩
        subst w'
        go_wp2
        go_ret
        exact ⟨by simp, HS1.out.bel⟩
end Go.Proofs.Qxb6616195a
