/- FnAddShortIntegerCut: the walk's main way. -/
import Derived.Test.Qxb6616010aRuns
import Derived.Test.Qxb6616010aCutPlain
import Derived.Deep.CutBlock
import Derived.Deep.DeepCutAuto
import Derived.Deep.RegionHeld3
import Derived.Deep.Light
namespace Go.Proofs.Qxb6616010a
open Go.RowKit

theorem F_snd_le (zs : List (Int × Int)) (hz : ∀ p ∈ zs, spOk p) (n : Nat) (h : n ≤ zs.length) : (F zs n).2 = if 0 < n then g2 zs (n - 1) else 0 := by
  split
  · next hp =>
    obtain ⟨m, rfl⟩ : ∃ m, n = m + 1 := ⟨n - 1, by omega⟩
    rw [F_succ zs m _ (g12 zs m (by omega))]
    have hm : (g1 zs m, g2 zs m) ∈ zs := List.mem_of_getElem? (g12 zs m (by omega))
    exact (stp_good (F zs m).1 (F zs m).2 _ _ (F_good zs hz m).1 (hz _ hm)).2.2.2
  · next hp =>
    obtain rfl : n = 0 := by omega
    rfl

theorem grownBy_two_drew (w : World) (x y : Obj) : w.grownBy ((w.alloc x).alloc y).drew none :=
  ⟨(grownBy_two w x y).os, (grownBy_two w x y).tape, (grownBy_two w x y).output, (grownBy_two w x y).size, (grownBy_two w x y).block⟩

/-- the rows K, O hold the kinds and the offsets of ns, and whatever is done to new memory leaves them so -/
def Rd (w : World) (K O : Nat) (ns : List (Int × Int)) : Prop := ∀ wr, Below w.heap.size w wr → ∀ j p, ns[j]? = some p → wr.cell? ⟨K, j, none⟩ = some (.int .u8 p.1) ∧ wr.cell? ⟨O, j, none⟩ = some (.int .i64 p.2)

theorem Rd.mk {w w' : World} {K O B : Nat} {ns : List (Int × Int)} (hK : ∀ j v, (ns.map kindV)[j]? = some v → w.cell? ⟨K, j, none⟩ = some v) (hO : ∀ j v, (ns.map offV)[j]? = some v → w.cell? ⟨O, j, none⟩ = some v) (hb : Below B w w') (h1 : K < w.heap.size) (h2 : O < w.heap.size) (hB : w.heap.size ≤ B) : Rd w' K O ns := by
  intro wr hr j p hp
  have hs := hb.size
  refine ⟨?_, ?_⟩
  · rw [hr.cell (p := ⟨K, j, none⟩) (by show K < _; omega), hb.cell (p := ⟨K, j, none⟩) (by show K < _; omega)]
    exact hK j _ (by simp [hp, kindV])
  · rw [hr.cell (p := ⟨O, j, none⟩) (by show O < _; omega), hb.cell (p := ⟨O, j, none⟩) (by show O < _; omega)]
    exact hO j _ (by simp [hp, offV])

theorem SPN.take {w : World} {b o : Nat} {zs : List (Int × Int)} (h : SPN w b o zs) (k : Nat) : SPN w b o (zs.take k) := fun j p hp => by
  rw [List.getElem?_take] at hp
  split at hp
  · exact h j p hp
  · cases hp
theorem SPN.drop {w : World} {b o : Nat} {zs : List (Int × Int)} (h : SPN w b o zs) (k : Nat) : SPN w b (o + k * 2) (zs.drop k) := fun j p hp => by
  rw [List.getElem?_drop] at hp
  have := h (k + j) p hp
  rw [show o + k * 2 + j * 2 = o + (k + j) * 2 by omega]
  exact this

set_option maxRecDepth 100000 in
set_option maxHeartbeats 40000000 in
theorem cut_main (w : World) (zs : List (Int × Int)) (b o c n k : Nat) (hb : b < w.heap.size) (hn : n = zs.length) (hsp : SPN w b o zs) (hz : ∀ p ∈ zs, spOk p) (hlen : n ≤ 32768) (hpos : 0 < n) (hall : zs.all spB = true) (hw : ∀ p ∈ zs, wide p) (hk : k ≤ n) (hnc : n ≤ c) :
    Calls Try.prog 6 #[.slice (some ⟨b, o, none⟩) n c, .int .i64 (k : Int)] w fun e w' => e = .returned (.bool true) ∧ Below w.heap.size w w' := by
  have k12 := bytes6 w (some ⟨b, o, none⟩) n c (k : Int) (by omega)
  rw [decide_eq_true (show n ≤ 1048576 by omega)] at k12
  have k13 := spansOK_any w zs (some ⟨b, o, none⟩) b o c n (fun _ => rfl) hn hsp hw (by omega)
  rw [hall] at k13
  have k14 := runScript_any w zs (some ⟨b, o, none⟩) b o c n (fun _ => ⟨rfl, hb⟩) hn hsp hz (by omega)
  have hd32 : decide ((32768 : Int) < (n : Int)) = false := by simp; omega
  have hdk0 : decide ((k : Int) < 0) = false := by simp
  have hdkn : decide ((n : Int) < (k : Int)) = false := by simp; omega
  have HN : Hid (n = zs.length) := hn
  clear hn hall
  go_enter Try.func6, Try.ntmps6
  go_wp2_with (first
    | (go_at_call 18; refine k12.mono ?_; rintro e w' ⟨rfl, hw'⟩; subst w')
    | (go_at_call 13; refine k13.mono ?_; rintro e w' ⟨rfl, hw'⟩; subst w'))
  refine k14.mono ?_
  rintro e w1 ⟨rfl, hL1, hB1⟩
  clear k12 k13 k14
  have hkl : k = (zs.take k).length := by have := HN.out; simp; omega
  have k14b := runScript_any w1 (zs.take k) (some ⟨b, o, none⟩) b o c k (fun _ => ⟨rfl, by have := hB1.size; omega⟩) hkl ((hsp.below hB1 hb).take k) (fun p hp => hz p (List.mem_of_mem_take hp)) (by omega)
  clear hkl
  go_wp2_with fail
  refine k14b.mono ?_
  rintro e w2 ⟨rfl, hL2, hB2⟩
  clear k14b
  rw [F_take zs k (by have := HN.out; omega)] at hL2
  obtain ⟨ns1, hns1⟩ : ∃ x, x = (F zs n).1 := ⟨_, rfl⟩
  obtain ⟨se1, hse1⟩ : ∃ x, x = (F zs n).2 := ⟨_, rfl⟩
  obtain ⟨ns2, hns2⟩ : ∃ x, x = (F zs k).1 := ⟨_, rfl⟩
  obtain ⟨se2, hse2⟩ : ∃ x, x = (F zs k).2 := ⟨_, rfl⟩
  obtain ⟨ns3, hns3⟩ : ∃ x, x = (F (zs.drop k) (n - k)).1 := ⟨_, rfl⟩
  obtain ⟨se3, hse3⟩ : ∃ x, x = (F (zs.drop k) (n - k)).2 := ⟨_, rfl⟩
  have hl1 : ns1.length ≤ n := by rw [hns1]; exact (F_good zs hz n).2
  have hl2 : ns2.length ≤ k := by rw [hns2]; exact (F_good zs hz k).2
  have hl3 : ns3.length ≤ n - k := by rw [hns3]; exact (F_good (zs.drop k) (fun p hp => hz p (List.mem_of_mem_drop hp)) (n - k)).2
  rw [← hns1, ← hse1] at hL1
  rw [← hns2, ← hse2] at hL2
  have hsp2 : SPN w2 b o zs := (hsp.below hB1 hb).below hB2 (by have := hB1.size; omega)
  have hb2 : b < w2.heap.size := by have := hB1.size; have := hB2.size; omega
  have HE : Hid (ns1 = (F zs n).1 ∧ se1 = (F zs n).2 ∧ ns2 = (F zs k).1 ∧ se2 = (F zs k).2 ∧ ns3 = (F (zs.drop k) (n - k)).1 ∧ se3 = (F (zs.drop k) (n - k)).2) := ⟨hns1, hse1, hns2, hse2, hns3, hse3⟩
  clear hns1 hse1 hns2 hse2 hns3 hse3
  go_upto_region 11 with fail
  go_cut [7] (fun v wc => v = .pointer (some ⟨w2.heap.size, 0, none⟩) ∧ LST wc w2.heap.size w2.heap.size ns3 se3 ∧ Below w2.heap.size w2 wc)
  case first => as_aux_lemma =>
    have hdl : n - k = (zs.drop k).length := by have := HN.out; simp; omega
    have hzd : ∀ p ∈ zs.drop k, spOk p := fun p hp => hz p (List.mem_of_mem_drop hp)
    by_cases hck : c = k
    · have k14c := fun cc => runScript_any w2 (zs.drop k) (some ⟨b, o, none⟩) b (o + k * 2) cc (n - k) (fun h => absurd h (by omega)) hdl (hsp2.drop k) hzd (by omega)
      have hck1 : c ≤ k := by omega
      have hck2 : k ≤ c := by omega
      clear hdl hck
      go_wp2_with fail
      refine (k14c _).mono ?_
      rintro e w3 ⟨rfl, hL3, hB3⟩
      rw [← HE.out.2.2.2.2.1, ← HE.out.2.2.2.2.2] at hL3
      clear k14c
      go_wp2
      go_meet
      exact ⟨rfl, hL3, hB3⟩
    · have k14c := runScript_any w2 (zs.drop k) (some ⟨b, o + k * 2, none⟩) b (o + k * 2) (c - k) (n - k) (fun _ => ⟨rfl, hb2⟩) hdl (hsp2.drop k) hzd (by omega)
      clear hdl
      go_wp2_with fail
      refine k14c.mono ?_
      rintro e w3 ⟨rfl, hL3, hB3⟩
      rw [← HE.out.2.2.2.2.1, ← HE.out.2.2.2.2.2] at hL3
      clear k14c
      go_wp2
      go_meet
      exact ⟨rfl, hL3, hB3⟩
  case rest =>
    obtain ⟨rfl, hL3, hB3⟩ := hcut
    obtain ⟨m1, hm1⟩ : ∃ m, m = ns1.length := ⟨_, rfl⟩
    obtain ⟨m2, hm2⟩ : ∃ m, m = ns2.length := ⟨_, rfl⟩
    obtain ⟨m3, hm3⟩ : ∃ m, m = ns3.length := ⟨_, rfl⟩
    rw [← hm1] at hl1
    rw [← hm2] at hl2
    rw [← hm3] at hl3
    have HM : Hid (m1 = ns1.length ∧ m2 = ns2.length ∧ m3 = ns3.length) := ⟨hm1, hm2, hm3⟩
    clear hm1 hm2 hm3
    have gL1 := (hL1.below (Nat.le_refl _) hB2).below (Nat.le_refl _) hB3
    have gL2 := hL2.below (Nat.le_refl _) hB3
    clear hL1 hL2
    go_wp2_with fail
    refine (nodes_any wc w.heap.size w.heap.size ns1 se1 m1 HM.out.1 gL1 (by omega)).mono ?_
    rintro e w4 ⟨K1, O1, rfl, hK1, hO1, hB4⟩
    have gL1' := gL1.below (Nat.le_refl _) hB4
    have gL2' := gL2.below (Nat.le_refl _) hB4
    have gL3' := hL3.below (Nat.le_refl _) hB4
    clear gL1 gL2 hL3
    go_wp2_with fail
    refine (nodes_any w4 w1.heap.size w1.heap.size ns2 se2 m2 HM.out.2.1 gL2' (by omega)).mono ?_
    rintro e w5 ⟨K2, O2, rfl, hK2, hO2, hB5⟩
    have gL1 := gL1'.below (Nat.le_refl _) hB5
    have gL2 := gL2'.below (Nat.le_refl _) hB5
    have gL3 := gL3'.below (Nat.le_refl _) hB5
    clear gL1' gL2' gL3'
    go_wp2_with fail
    refine (nodes_any w5 w2.heap.size w2.heap.size ns3 se3 m3 HM.out.2.2 gL3 (by omega)).mono ?_
    rintro e w6 ⟨K3, O3, rfl, hK3, hO3, hB6⟩
    have hL1 := gL1.below (Nat.le_refl _) hB6
    have hL2 := gL2.below (Nat.le_refl _) hB6
    have hL3 := gL3.below (Nat.le_refl _) hB6
    clear gL1 gL2 gL3
    have hB16 : Below wc.heap.size wc w6 := (hB4.trans (hB5.mono hB4.size)).trans (hB6.mono (by have := hB4.size; have := hB5.size; omega))
    have hsp6 : SPN w6 b o zs := (hsp2.below hB3 hb2).below hB16 (by have := hB3.size; omega)
    have hb6 : b < w6.heap.size := by have := hB3.size; have := hB16.size; omega
    have cK1 := owns_cells hK1 (hB5.trans (hB6.mono hB5.size)) (Nat.le_refl _)
    have cO1 := owns_cells hO1 (hB5.trans (hB6.mono hB5.size)) (Nat.le_refl _)
    have cK2 := owns_cells hK2 hB6 (Nat.le_refl _)
    have cO2 := owns_cells hO2 hB6 (Nat.le_refl _)
    have cK3 := owns_cells hK3 (Below.refl w6.heap.size w6) (Nat.le_refl _)
    have cO3 := owns_cells hO3 (Below.refl w6.heap.size w6) (Nat.le_refl _)
    have bK : K1 < w6.heap.size ∧ O1 < w6.heap.size ∧ K2 < w6.heap.size ∧ O2 < w6.heap.size ∧ K3 < w6.heap.size ∧ O3 < w6.heap.size := by
      have := hB5.size; have := hB6.size
      have h1 := (hK1.lt K1 rfl).2; have h2 := (hO1.lt O1 rfl).2; have h3 := (hK2.lt K2 rfl).2; have h4 := (hO2.lt O2 rfl).2
      exact ⟨by omega, by omega, by omega, by omega, (hK3.lt K3 rfl).2, (hO3.lt O3 rfl).2⟩
    have hBt : Below w.heap.size w w6 := ((hB1.trans (hB2.mono hB1.size)).trans (hB3.mono (by have := hB1.size; have := hB2.size; omega))).trans (hB16.mono (by have := hB1.size; have := hB2.size; have := hB3.size; omega))
    have CK : Hid ((∀ j v, (ns1.map kindV)[j]? = some v → w6.cell? ⟨K1, j, none⟩ = some v) ∧ (∀ j v, (ns1.map offV)[j]? = some v → w6.cell? ⟨O1, j, none⟩ = some v) ∧ (∀ j v, (ns2.map kindV)[j]? = some v → w6.cell? ⟨K2, j, none⟩ = some v) ∧ (∀ j v, (ns2.map offV)[j]? = some v → w6.cell? ⟨O2, j, none⟩ = some v) ∧ (∀ j v, (ns3.map kindV)[j]? = some v → w6.cell? ⟨K3, j, none⟩ = some v) ∧ (∀ j v, (ns3.map offV)[j]? = some v → w6.cell? ⟨O3, j, none⟩ = some v)) := ⟨cK1, cO1, cK2, cO2, cK3, cO3⟩
    have BK : Hid (K1 < w6.heap.size ∧ O1 < w6.heap.size ∧ K2 < w6.heap.size ∧ O2 < w6.heap.size ∧ K3 < w6.heap.size ∧ O3 < w6.heap.size) := bK
    clear cK1 cO1 cK2 cO2 cK3 cO3 bK hw hsp
    clear hK1 hO1 hK2 hO2 hK3 hO3 hB1 hB2 hB3 hB4 hB5 hB6 hB16 hsp2 hb2
    go_wp2_with fail
    refine (runsModel_any w6 zs (some ⟨b, o, none⟩) b o c n (fun _ => ⟨rfl, hb6⟩) HN.out hsp6 hz (by omega)).mono ?_
    rintro e w7 ⟨kv, ov, rfl, hRM⟩
    rw [← HE.out.1] at hRM
    obtain ⟨ka, kg, kc, oa, og, oc, rfl, rfl, -⟩ := hRM.shape
    rw [← HM.out.1]
    have hB7 := hRM.2.2
    clear hRM
    obtain ⟨J, hJ⟩ : ∃ J : Bool, J = (decide (0 < k) && decide (k < n) && joins (g2 zs (k - 1)) (g1 zs k)) := ⟨_, rfl⟩
    have HJ : Hid (J = (decide (0 < k) && decide (k < n) && joins (g2 zs (k - 1)) (g1 zs k))) := hJ
    clear hJ
    go_upto_region 20 with fail
    go_cut [18] (fun v wx => v = .bool J ∧ w7.grownBy wx none)
    case first => as_aux_lemma =>
      by_cases hk0 : 0 < k
      · by_cases hkn : k < n
        · have hc1 := hsp6 (k - 1) _ (g12 zs (k - 1) (by have := HN.out; omega))
          have hc2 := hsp6 k _ (g12 zs k (by have := HN.out; omega))
          have c1 : w7.cell? ⟨b, o + (k - 1) * 2, none⟩ = some (.int .i64 (g1 zs (k - 1))) := (hB7.cell (by exact hb6)).trans hc1.1
          have c2 : w7.cell? ⟨b, o + (k - 1) * 2 + 1, none⟩ = some (.int .i64 (g2 zs (k - 1))) := (hB7.cell (by exact hb6)).trans hc1.2
          have c3 : w7.cell? ⟨b, o + k * 2, none⟩ = some (.int .i64 (g1 zs k)) := (hB7.cell (by exact hb6)).trans hc2.1
          have c4 : w7.cell? ⟨b, o + k * 2 + 1, none⟩ = some (.int .i64 (g2 zs k)) := (hB7.cell (by exact hb6)).trans hc2.2
          obtain ⟨-, -, z1, z2⟩ := hz _ (List.mem_of_getElem? (g12 zs (k - 1) (by have := HN.out; omega)))
          simp only at z1 z2
          clear hc1 hc2
          obtain ⟨q, hq⟩ : ∃ q, k = q + 1 := ⟨k - 1, by omega⟩
          have hd1 : decide ((0 : Int) < (k : Int)) = true := by simp; omega
          have hd1' : decide (0 < k) = true := by simp; omega
          have hd2 : decide ((k : Int) < (n : Int)) = true := by simp; omega
          have hi0 : (0 : Int) ≤ (k : Int) - 1 := by omega
          have hi1 : (k : Int) - 1 < (n : Int) := by omega
          have hi2 : (k : Int) < (n : Int) := by omega
          have hi3 : (0 : Int) ≤ (k : Int) := by omega
          have hi4 : (1 : Int) ≤ (k : Int) := by omega
          have hi5 : 1 ≤ k := by omega
          have hi6 : (k : Int) < (n : Int) + 1 := by omega
          have hi7 : k - 1 < n := by omega
          have hw1 : IntKind.i64.wrap ((k : Int) - 1) = (k : Int) - 1 := by rw [IntKind.wrap_i64]; omega
          have hw2 : ((k : Int) - 1).toNat = k - 1 := by omega
          have HF : Hid (J = joins (g2 zs (k - 1)) (g1 zs k)) := by
            have := HJ.out
            rw [decide_eq_true hk0, decide_eq_true hkn] at this
            exact this.trans (by simp)
          clear hq
          go_region_held3 (fun w' => w'.cell? ⟨b, o + (k - 1) * 2, none⟩ = some (.int .i64 (g1 zs (k - 1))) ∧ w'.cell? ⟨b, o + (k - 1) * 2 + 1, none⟩ = some (.int .i64 (g2 zs (k - 1))) ∧ w'.cell? ⟨b, o + k * 2, none⟩ = some (.int .i64 (g1 zs k)) ∧ w'.cell? ⟨b, o + k * 2 + 1, none⟩ = some (.int .i64 (g2 zs k))) (go_keep) (first | (go_at_call 19; refine (joins_exact _ _ _ _ _ z1 z2).mono ?_; rintro e w2 ⟨rfl, rfl⟩))
          go_wp2
          go_meet
          exact ⟨by rw [HF.out], grownBy_two_drew w7 _ _⟩
        · have hd1 : decide ((0 : Int) < (k : Int)) = true := by simp; omega
          have hd1' : decide (0 < k) = true := by simp; omega
          have hd2 : decide ((k : Int) < (n : Int)) = false := by simp; omega
          have hd2' : decide (k < n) = false := by simp; omega
          have HF : Hid (J = false) := by
            have := HJ.out
            rw [decide_eq_false hkn] at this
            exact this.trans (by simp)
          clear hkn
          go_quiet (fail)
          go_wp2
          go_meet
          exact ⟨by rw [HF.out], ⟨rfl, rfl, rfl, Nat.le_refl _, fun _ _ _ => rfl⟩⟩
      · have hk00 : k ≤ 0 := by omega
        have hd1 : decide ((0 : Int) < (k : Int)) = false := by simp; omega
        have hd1' : decide (0 < k) = false := by simp; omega
        have HF : Hid (J = false) := by
          have := HJ.out
          rw [decide_eq_false (by omega)] at this
          exact this.trans (by simp)
        clear hk0 hk00
        go_quiet (fail)
        go_wp2
        go_meet
        exact ⟨by rw [HF.out], ⟨rfl, rfl, rfl, Nat.le_refl _, fun _ _ _ => rfl⟩⟩
    case rest =>
      obtain ⟨rfl, hG⟩ := hcut
      obtain ⟨w8, rfl⟩ : ∃ x, x = wc := ⟨wc, rfl⟩
      have hB8 : Below w6.heap.size w6 w8 := hB7.grown hG hB7.size (by simp)
      have r1 : Rd w8 K1 O1 ns1 := Rd.mk CK.out.1 CK.out.2.1 hB8 BK.out.1 BK.out.2.1 (Nat.le_refl _)
      have r2 : Rd w8 K2 O2 ns2 := Rd.mk CK.out.2.2.1 CK.out.2.2.2.1 hB8 BK.out.2.2.1 BK.out.2.2.2.1 (Nat.le_refl _)
      have r3 : Rd w8 K3 O3 ns3 := Rd.mk CK.out.2.2.2.2.1 CK.out.2.2.2.2.2 hB8 BK.out.2.2.2.2.1 BK.out.2.2.2.2.2 (Nat.le_refl _)
      have hsp8 : SPN w8 b o zs := hsp6.below hB8 hb6
      have hb8 : b < w8.heap.size := by have := hB8.size; omega
      have gL1 := hL1.below (Nat.le_refl _) hB8
      have gL2 := hL2.below (Nat.le_refl _) hB8
      have gL3 := hL3.below (Nat.le_refl _) hB8
      have hBw : Below w.heap.size w w8 := hBt.trans (hB8.mono hBt.size)
      clear hL1 hL2 hL3 hBt hB7 hB8 hG CK BK hsp6 hb6
      have HS : Hid ((k < n → se1 = se3) ∧ (¬ k < n → se1 = se2)) := by
        obtain ⟨_, e2, _, e4, _, e6⟩ := HE.out
        have hnl := HN.out
        refine ⟨fun h => ?_, fun h => ?_⟩
        · rw [e2, e6]
          rcases Bool.eq_false_or_eq_true (joins (F zs k).2 (g1 zs k)) with hj | hj
          · obtain ⟨Q, s0, _, hS⟩ := cut_joins zs hz k n hnl h hj
            exact hS.1
          · rw [cut_plain zs k n hnl h hj]
        · obtain rfl : k = n := by omega
          rw [e2, e4]
      go_upto_if 102 with fail
      go_cut [16, 17] (fun kv ov wx => RM w8 wx kv ov ns1)
      case first =>
        clear gL1 gL2 gL3 r1 HS hBw
        obtain ⟨i5, hi5, hz0, hz1, hz2⟩ := info_parts Try.info5
        obtain ⟨i3, hi3, gz0, gz1, gz2⟩ := info_parts Try.info3
        have hm32 : m2 ≤ 32768 := by omega
        have hm33 : m2 + m3 ≤ 32768 := by omega
        rcases hJ : J with _ | _
        · as_aux_lemma =>
          have HP : Hid (ns1 = ns2 ++ ns3) := by
            obtain ⟨e1, _, e3, _, e5, _⟩ := HE.out
            have hnl := HN.out
            have hJo := HJ.out
            rw [hJ] at hJo
            show ns1 = ns2 ++ ns3
            by_cases hkn : k < n
            · have hj : joins (F zs k).2 (g1 zs k) = false := by
                rw [F_snd_le zs hz k (by omega)]
                by_cases hk0 : 0 < k
                · rw [if_pos hk0]
                  simp only [decide_eq_true hk0, decide_eq_true hkn, Bool.true_and] at hJo
                  exact hJo.symm
                · rw [if_neg hk0]; simp [joins]
              rw [e1, e3, e5, cut_plain zs k n hnl hkn hj]
            · obtain rfl : k = n := by omega
              rw [e1, e3, e5]
              simp [F]
          subst hJ
          clear HJ HE hsp8 hz hb hb8
          go_wp2_with fail
          go_loopw [16, 17, 19] (fun kv ov x wr => ∃ j : Nat, j ≤ m2 ∧ x = .int .i64 j ∧ RM w8 wr kv ov (ns2.take j)) (fun _ _ x _ => m2 - (intOf x).toNat)
          case atStart => exact ⟨0, by omega, rfl, World.ownsRow_nil _ _ _ _, World.ownsRow_nil _ _ _ _, Below.refl _ _⟩
          case round =>
            obtain ⟨j, hj, rfl, hR⟩ := hrel
            by_cases hlt : j < m2
            · obtain ⟨p, hp⟩ : ∃ p, ns2[j]? = some p := ⟨ns2[j]'(by have := HM.out.2; omega), List.getElem?_eq_getElem _⟩
              obtain ⟨kk, oo⟩ := p
              obtain ⟨c1, c2⟩ : wr.cell? ⟨K2, j, none⟩ = some (.int .u8 kk) ∧ wr.cell? ⟨O2, j, none⟩ = some (.int .i64 oo) := r2 wr hR.2.2 j _ hp
              obtain ⟨L, hL⟩ : ∃ L, L = ns2.take j := ⟨_, rfl⟩
              have HL : Hid (L ++ [(kk, oo)] = ns2.take (j + 1)) := by
                show _ = _
                obtain ⟨hil, hie⟩ := List.getElem?_eq_some_iff.1 hp
                rw [hL, List.take_succ_eq_append_getElem hil, hie]
              have hLl : L.length ≤ 65536 := by rw [hL]; have := HM.out.2; simp; omega
              rw [← hL] at hR
              clear hL
              have hml1 : L.length + 1 ≤ maxLen := by unfold maxLen; omega
              have hbs := hR.2.2.size
              have hRD : ∀ wz, Below w8.heap.size w8 wz → wz.cell? ⟨O2, j, none⟩ = some (.int .i64 oo) := fun wz hb2 => (r2 wz hb2 j _ hp).2
              clear hp
              go_wp2_with (first
                | (at_builtin; refine wpList_append_lies _ ?_ (.tmp 109) (.tmp 114) 22 ?_ w8.heap.size 5 i5 (.int .u8 0) 1 1 Try.underlying22 hi5 hz0 hz1 hz2 ?_ (Nat.le_refl 1) u16 L.length (L.map kindV) ?_ ?_ ⟨wr.heap.size, 0, none⟩ 1 1 [.int .u8 kk] ?_ ?_ ?_ ?_ (Nat.le_refl 1) hml1 ?_ ?_ _ rfl ?_; rfl; rfl; rfl; rfl; exact hR.1.alloc _; rfl; rfl; exact cell_one_new _ _ _; exact ints_oneCell .u8 [kk]; omega; (simp; omega); intro gk ck2 wa hown2 hgrow2 hat2 hlt2; obtain ⟨k2, hb2⟩ := hR.kinds hgrow2; have d1 := hRD wa hb2; have hbs2 := hb2.size)
                | (at_builtin; refine wpList_append_lies _ ?_ (.tmp 116) (.tmp 121) 32 ?_ w8.heap.size 3 i3 (.int .i64 0) 1 8 Try.underlying32 hi3 gz0 gz1 gz2 ?_ (Nat.le_refl 1) u17 L.length (L.map offV) ?_ ?_ ⟨wa.heap.size, 0, none⟩ 1 1 [.int .i64 oo] ?_ ?_ ?_ ?_ (Nat.le_refl 1) hml1 ?_ ?_ _ rfl ?_; rfl; rfl; rfl; rfl; exact k2.alloc _; rfl; rfl; exact cell_one_new _ _ _; exact ints_oneCell .i64 [oo]; omega; (simp; omega); intro go2 co2 wb hown4 hgrow4 hat4 hlt4; have hfin := hR.push (news := [(kk, oo)]) hgrow2 rfl hown2 hgrow4 hown4))
              go_roundw
              case rel =>
                go_light
                repeat apply Exists.intro
                refine ⟨?_, rfl⟩
                rw [HL.out] at hfin
                exact ⟨j + 1, by omega, by go_num, hfin⟩
              case measure =>
                go_light
                simp [intOf]; omega
            · obtain rfl : j = m2 := by omega
              have hR0 : RM w8 wr u16 u17 (ns2 ++ ns3.take 0) := by
                rw [List.take_of_length_le (by have := HM.out.2.1; omega)] at hR
                simpa using hR
              clear hR
              go_wp2_with fail
              go_loopw [16, 17, 20] (fun kv ov x wr => ∃ i : Nat, i ≤ m3 ∧ x = .int .i64 i ∧ RM w8 wr kv ov (ns2 ++ ns3.take i)) (fun _ _ x _ => m3 - (intOf x).toNat)
              case atStart => exact ⟨0, by omega, rfl, hR0⟩
              case round =>
                clear hR0
                obtain ⟨i, hi, rfl, hR⟩ := hrel
                by_cases hlt3 : i < m3
                · obtain ⟨p, hp⟩ : ∃ p, ns3[i]? = some p := ⟨ns3[i]'(by have := HM.out.2; omega), List.getElem?_eq_getElem _⟩
                  obtain ⟨kk, oo⟩ := p
                  obtain ⟨c1, c2⟩ : wr.cell? ⟨K3, i, none⟩ = some (.int .u8 kk) ∧ wr.cell? ⟨O3, i, none⟩ = some (.int .i64 oo) := r3 wr hR.2.2 i _ hp
                  obtain ⟨L, hL⟩ : ∃ L, L = ns2 ++ ns3.take i := ⟨_, rfl⟩
                  have HL : Hid (L ++ [(kk, oo)] = ns2 ++ ns3.take (i + 1)) := by
                    show _ = _
                    obtain ⟨hil, hie⟩ := List.getElem?_eq_some_iff.1 hp
                    rw [hL, List.take_succ_eq_append_getElem hil, hie, List.append_assoc]
                  have hLl : L.length ≤ 65536 := by rw [hL]; have := HM.out.2; simp; omega
                  rw [← hL] at hR
                  clear hL
                  have hml1 : L.length + 1 ≤ maxLen := by unfold maxLen; omega
                  have hbs := hR.2.2.size
                  have hRD : ∀ wz, Below w8.heap.size w8 wz → wz.cell? ⟨O3, i, none⟩ = some (.int .i64 oo) := fun wz hb2 => (r3 wz hb2 i _ hp).2
                  clear hp
                  go_wp2_with (first
                    | (at_builtin; refine wpList_append_lies _ ?_ (.tmp 129) (.tmp 134) 22 ?_ w8.heap.size 5 i5 (.int .u8 0) 1 1 Try.underlying22 hi5 hz0 hz1 hz2 ?_ (Nat.le_refl 1) u16 L.length (L.map kindV) ?_ ?_ ⟨wr.heap.size, 0, none⟩ 1 1 [.int .u8 kk] ?_ ?_ ?_ ?_ (Nat.le_refl 1) hml1 ?_ ?_ _ rfl ?_; rfl; rfl; rfl; rfl; exact hR.1.alloc _; rfl; rfl; exact cell_one_new _ _ _; exact ints_oneCell .u8 [kk]; omega; (simp; omega); intro gk ck2 wa hown2 hgrow2 hat2 hlt2; obtain ⟨k2, hb2⟩ := hR.kinds hgrow2; have d1 := hRD wa hb2; have hbs2 := hb2.size)
                    | (at_builtin; refine wpList_append_lies _ ?_ (.tmp 136) (.tmp 141) 32 ?_ w8.heap.size 3 i3 (.int .i64 0) 1 8 Try.underlying32 hi3 gz0 gz1 gz2 ?_ (Nat.le_refl 1) u17 L.length (L.map offV) ?_ ?_ ⟨wa.heap.size, 0, none⟩ 1 1 [.int .i64 oo] ?_ ?_ ?_ ?_ (Nat.le_refl 1) hml1 ?_ ?_ _ rfl ?_; rfl; rfl; rfl; rfl; exact k2.alloc _; rfl; rfl; exact cell_one_new _ _ _; exact ints_oneCell .i64 [oo]; omega; (simp; omega); intro go2 co2 wb hown4 hgrow4 hat4 hlt4; have hfin := hR.push (news := [(kk, oo)]) hgrow2 rfl hown2 hgrow4 hown4))
                  go_roundw
                  case rel =>
                    go_light
                    repeat apply Exists.intro
                    refine ⟨?_, rfl⟩
                    rw [HL.out] at hfin
                    exact ⟨i + 1, by omega, by go_num, hfin⟩
                  case measure =>
                    go_light
                    simp [intOf]; omega
                · obtain rfl : i = m3 := by omega
                  rw [List.take_of_length_le (by have := HM.out.2.2; omega), ← HP.out] at hR
                  go_wp2
                  go_meet
                  exact hR
        · have HP : Hid (∃ Q s0 R ge, (ns2 = Q ++ [(7, s0)] ∨ ∃ e0, ns2 = Q ++ [(8, s0), (8, e0)]) ∧ ((ns3 = [(7, g1 zs k)] ++ R ∧ ge = g2 zs k) ∨ ns3 = [(8, g1 zs k), (8, ge)] ++ R) ∧ ns1 = Q ++ [(8, s0), (8, ge)] ++ R) := by
            obtain ⟨e1, _, e3, _, e5, _⟩ := HE.out
            have hnl := HN.out
            have hJo := HJ.out
            rw [hJ] at hJo
            have hJ2 := hJo.symm
            simp only [Bool.and_eq_true, decide_eq_true_eq] at hJ2
            obtain ⟨⟨hk0, hkn⟩, hjj⟩ := hJ2
            have hj : joins (F zs k).2 (g1 zs k) = true := by
              rw [F_snd_le zs hz k (by omega), if_pos hk0]; exact hjj
            obtain ⟨Q, s0, hQ, _, R, ge, hG, hW⟩ := cut_joins zs hz k n hnl hkn hj
            exact ⟨Q, s0, R, ge, by rw [e3]; exact hQ, by rw [e5]; exact hG, by rw [e1]; exact hW⟩
          have hkn : k < n := by
            have hJo := HJ.out
            rw [hJ] at hJo
            have hJ2 := hJo.symm
            simp only [Bool.and_eq_true, decide_eq_true_eq] at hJ2
            exact hJ2.1.2
          have f0 : w8.cell? ⟨b, o + k * 2 + 1, none⟩ = some (.int .i64 (g2 zs k)) := (hsp8 k _ (g12 zs k (by have := HN.out; omega))).2
          subst hJ
          obtain ⟨Q, s0, R, ge, hQ, hG, hW⟩ := HP.out
          clear HP HJ HE hsp8 hz hb hb8
          obtain ⟨q, hq⟩ : ∃ q, q = Q.length := ⟨_, rfl⟩
          obtain ⟨t, ht⟩ : ∃ t, t = R.length := ⟨_, rfl⟩
          rcases hQ with hQ | ⟨e0, hQ⟩
          · rcases hG with ⟨hG, rfl⟩ | hG
            · as_aux_lemma =>
              have hm2 : m2 = q + 1 := by rw [HM.out.2.1, hQ]; simp [hq]
              have hm3 : m3 = t + 1 := by rw [HM.out.2.2, hG]; simp [ht]
              have a1 : m2 ≤ q + 1 := by omega
              have a2 : q + 1 ≤ m2 := by omega
              have a3 : m3 ≤ t + 1 := by omega
              have a4 : t + 1 ≤ m3 := by omega
              clear hm2 hm3
              have f1 : w8.cell? ⟨K2, m2 - 1, none⟩ = some (.int .u8 7) := (r2 w8 (Below.refl _ _) (m2 - 1) (7, s0) (by rw [hQ, show m2 - 1 = Q.length + 0 by omega]; simp)).1
              have f2 : w8.cell? ⟨K3, 0, none⟩ = some (.int .u8 7) := (r3 w8 (Below.refl _ _) 0 (7, g1 zs k) (by rw [hG]; rfl)).1
              have HO : Hid (∀ wz, Below w8.heap.size w8 wz → wz.cell? ⟨O2, m2 - 1, none⟩ = some (.int .i64 s0)) := fun wz hb2 => (r2 wz hb2 (m2 - 1) (7, s0) (by rw [hQ, show m2 - 1 = Q.length by omega]; simp)).2
              have HT : Hid (ns2.take q = Q) := by
                show _ = _
                rw [hQ, hq]; simp
              have HG3 : Hid (∀ i p, R[i]? = some p → ns3[i + 1]? = some p) := by
                intro i p hp
                rw [hG]
                rw [List.getElem?_append_right (by simp)]
                simpa using hp
              have HW : Hid (ns1 = Q ++ [(8, s0), (8, g2 zs k)] ++ R) := hW
              have HQ : Hid (q = Q.length) := hq
              have HTT : Hid (t = R.length) := ht
              clear hQ hG hW hq ht
              have b1 : ((m2 : Int) == 0) = false := by simp; omega
              have b2 : ((m3 : Int) == 0) = false := by simp; omega
              have b3 : decide ((m2 : Int) < 1) = false := by simp; omega
              have b4 : decide ((m3 : Int) < 1) = false := by simp; omega
              have b5 : (0 : Int) ≤ (m2 : Int) - 1 := by omega
              have b6 : (0 : Int) < (m3 : Int) := by omega
              go_wp2_with fail
              go_loopw [16, 17, 24] (fun kv ov x wr => ∃ j : Nat, j ≤ q ∧ x = .int .i64 j ∧ RM w8 wr kv ov (ns2.take j)) (fun _ _ x _ => q - (intOf x).toNat)
              case atStart => exact ⟨0, by omega, rfl, World.ownsRow_nil _ _ _ _, World.ownsRow_nil _ _ _ _, Below.refl _ _⟩
              case round =>
                obtain ⟨j, hj, rfl, hR⟩ := hrel
                by_cases hlt : j < q
                · obtain ⟨p, hp⟩ : ∃ p, ns2[j]? = some p := ⟨ns2[j]'(by have := HM.out.2; omega), List.getElem?_eq_getElem _⟩
                  obtain ⟨kk, oo⟩ := p
                  obtain ⟨c1, c2⟩ : wr.cell? ⟨K2, j, none⟩ = some (.int .u8 kk) ∧ wr.cell? ⟨O2, j, none⟩ = some (.int .i64 oo) := r2 wr hR.2.2 j _ hp
                  obtain ⟨L, hL⟩ : ∃ L, L = ns2.take j := ⟨_, rfl⟩
                  have HL : Hid (L ++ [(kk, oo)] = ns2.take (j + 1)) := by
                    show _ = _
                    obtain ⟨hil, hie⟩ := List.getElem?_eq_some_iff.1 hp
                    rw [hL, List.take_succ_eq_append_getElem hil, hie]
                  have hLl : L.length ≤ 65536 := by rw [hL]; have := HM.out.2; simp; omega
                  rw [← hL] at hR
                  clear hL
                  have hml1 : L.length + 1 ≤ maxLen := by unfold maxLen; omega
                  have hbs := hR.2.2.size
                  have hRD : ∀ wz, Below w8.heap.size w8 wz → wz.cell? ⟨O2, j, none⟩ = some (.int .i64 oo) := fun wz hb2 => (r2 wz hb2 j _ hp).2
                  clear hp
                  go_wp2_with (first
                    | (at_builtin; refine wpList_append_lies _ ?_ (.tmp 190) (.tmp 195) 22 ?_ w8.heap.size 5 i5 (.int .u8 0) 1 1 Try.underlying22 hi5 hz0 hz1 hz2 ?_ (Nat.le_refl 1) u16 L.length (L.map kindV) ?_ ?_ ⟨wr.heap.size, 0, none⟩ 1 1 [.int .u8 kk] ?_ ?_ ?_ ?_ (Nat.le_refl 1) hml1 ?_ ?_ _ rfl ?_; rfl; rfl; rfl; rfl; exact hR.1.alloc _; rfl; rfl; exact cell_one_new _ _ _; exact ints_oneCell .u8 [kk]; omega; (simp; omega); intro gk ck2 wa hown2 hgrow2 hat2 hlt2; obtain ⟨k2, hb2⟩ := hR.kinds hgrow2; have d1 := hRD wa hb2; have hbs2 := hb2.size)
                    | (at_builtin; refine wpList_append_lies _ ?_ (.tmp 197) (.tmp 202) 32 ?_ w8.heap.size 3 i3 (.int .i64 0) 1 8 Try.underlying32 hi3 gz0 gz1 gz2 ?_ (Nat.le_refl 1) u17 L.length (L.map offV) ?_ ?_ ⟨wa.heap.size, 0, none⟩ 1 1 [.int .i64 oo] ?_ ?_ ?_ ?_ (Nat.le_refl 1) hml1 ?_ ?_ _ rfl ?_; rfl; rfl; rfl; rfl; exact k2.alloc _; rfl; rfl; exact cell_one_new _ _ _; exact ints_oneCell .i64 [oo]; omega; (simp; omega); intro go2 co2 wb hown4 hgrow4 hat4 hlt4; have hfin := hR.push (news := [(kk, oo)]) hgrow2 rfl hown2 hgrow4 hown4))
                  go_roundw
                  case rel =>
                    go_light
                    repeat apply Exists.intro
                    refine ⟨?_, rfl⟩
                    rw [HL.out] at hfin
                    exact ⟨j + 1, by omega, by go_num, hfin⟩
                  case measure =>
                    go_light
                    simp [intOf]; omega
                · obtain rfl : j = q := by omega
                  rw [HT.out] at hR
                  obtain ⟨L, hL⟩ : ∃ L, L = Q := ⟨_, rfl⟩
                  rw [← hL] at hR
                  have HL0 : Hid (L = Q) := hL
                  have hLl : L.length ≤ 32768 := by rw [hL, ← HQ.out]; omega
                  clear hL
                  have hml2 : L.length + 2 ≤ maxLen := by unfold maxLen; omega
                  have hbs := hR.2.2.size
                  have b7 : (0 : Int) ≤ (m2 : Int) - 1 := by omega
                  have b8 : (m2 : Int) - 1 < (m2 : Int) := by omega
                  go_wp2_with (first
                    | (at_builtin; refine wpList_append_lies _ ?_ (.tmp 204) (.tmp 205) 22 ?_ w8.heap.size 5 i5 (.int .u8 0) 1 1 Try.underlying22 hi5 hz0 hz1 hz2 ?_ (Nat.le_refl 1) u16 L.length (L.map kindV) ?_ ?_ ⟨wr.heap.size, 0, none⟩ 2 2 [.int .u8 8, .int .u8 8] ?_ ?_ ?_ ?_ (by omega) hml2 ?_ ?_ _ rfl ?_; rfl; rfl; rfl; rfl; exact hR.1.alloc _; rfl; rfl; exact World.news_of_block (Go.heap_alloc_new _ _); exact ints_oneCell .u8 [8, 8]; omega; (simp; omega); intro gk ck2 wa hown2 hgrow2 hat2 hlt2; obtain ⟨k2, hb2⟩ := hR.kinds hgrow2; have d1 := HO.out wa hb2; have hbs2 := hb2.size)
                    | (at_builtin; refine wpList_append_lies _ ?_ (.tmp 207) (.tmp 216) 32 ?_ w8.heap.size 3 i3 (.int .i64 0) 1 8 Try.underlying32 hi3 gz0 gz1 gz2 ?_ (Nat.le_refl 1) u17 L.length (L.map offV) ?_ ?_ ⟨wa.heap.size, 0, none⟩ 2 2 [.int .i64 s0, .int .i64 (g2 zs k)] ?_ ?_ ?_ ?_ (by omega) hml2 ?_ ?_ _ rfl ?_; rfl; rfl; rfl; rfl; exact k2.alloc _; rfl; rfl; exact World.news_of_block (Go.heap_alloc_new _ _); exact ints_oneCell .i64 [s0, g2 zs k]; omega; (simp; omega); intro go2 co2 wb hown4 hgrow4 hat4 hlt4; have hfin := hR.push (news := [(8, s0), (8, g2 zs k)]) hgrow2 rfl hown2 hgrow4 hown4))
                  have hF0 : RM w8 wb (.slice (some ⟨gk, 0, none⟩) (L.length + 2) ck2) (.slice (some ⟨go2, 0, none⟩) (L.length + 2) co2) (L ++ [(8, s0), (8, g2 zs k)] ++ R.take 0) := by simpa using hfin
                  clear hfin hown2 hgrow2 hat2 hown4 hgrow4 hat4 hR k2 hb2
                  go_loopw [16, 17, 25] (fun kv ov x wr => ∃ i : Nat, i ≤ t ∧ x = .int .i64 ((i : Int) + 1) ∧ RM w8 wr kv ov (Q ++ [(8, s0), (8, g2 zs k)] ++ R.take i)) (fun _ _ x _ => t + 1 - (intOf x).toNat)
                  case atStart => exact ⟨0, by omega, by go_num, by rw [← HL0.out]; exact hF0⟩
                  case round =>
                    clear hF0
                    obtain ⟨i, hi, rfl, hR⟩ := hrel
                    by_cases hlt3 : i < t
                    · have hir : i < R.length := by have := HTT.out; omega
                      obtain ⟨p, hp⟩ : ∃ p, ns3[i + 1]? = some p := ⟨R[i]'hir, HG3.out i _ (List.getElem?_eq_getElem hir)⟩
                      obtain ⟨kk, oo⟩ := p
                      obtain ⟨c1, c2⟩ : wr.cell? ⟨K3, i + 1, none⟩ = some (.int .u8 kk) ∧ wr.cell? ⟨O3, i + 1, none⟩ = some (.int .i64 oo) := r3 wr hR.2.2 (i + 1) _ hp
                      obtain ⟨L, hL⟩ : ∃ L, L = Q ++ [(8, s0), (8, g2 zs k)] ++ R.take i := ⟨_, rfl⟩
                      have hie : R[i] = (kk, oo) := by
                        have h2 := HG3.out i _ (List.getElem?_eq_getElem hir)
                        rw [hp] at h2
                        exact (Option.some.inj h2).symm
                      have HL : Hid (L ++ [(kk, oo)] = Q ++ [(8, s0), (8, g2 zs k)] ++ R.take (i + 1)) := by
                        show _ = _
                        rw [hL, List.append_assoc _ _ [(kk, oo)]]
                        congr 1
                        rw [List.take_succ_eq_append_getElem hir, hie]
                      have hLl : L.length ≤ 65536 := by rw [hL]; have := HQ.out; have := HTT.out; simp; omega
                      rw [← hL] at hR
                      clear hL
                      have hml1 : L.length + 1 ≤ maxLen := by unfold maxLen; omega
                      have hbs := hR.2.2.size
                      have hRD : ∀ wz, Below w8.heap.size w8 wz → wz.cell? ⟨O3, i + 1, none⟩ = some (.int .i64 oo) := fun wz hb2 => (r3 wz hb2 (i + 1) _ hp).2
                      clear hp
                      go_wp2_with (first
                        | (at_builtin; refine wpList_append_lies _ ?_ (.tmp 225) (.tmp 230) 22 ?_ w8.heap.size 5 i5 (.int .u8 0) 1 1 Try.underlying22 hi5 hz0 hz1 hz2 ?_ (Nat.le_refl 1) u16 L.length (L.map kindV) ?_ ?_ ⟨wr.heap.size, 0, none⟩ 1 1 [.int .u8 kk] ?_ ?_ ?_ ?_ (Nat.le_refl 1) hml1 ?_ ?_ _ rfl ?_; rfl; rfl; rfl; rfl; exact hR.1.alloc _; rfl; rfl; exact cell_one_new _ _ _; exact ints_oneCell .u8 [kk]; omega; (simp; omega); intro gk ck2 wa hown2 hgrow2 hat2 hlt2; obtain ⟨k2, hb2⟩ := hR.kinds hgrow2; have d1 := hRD wa hb2; have hbs2 := hb2.size)
                        | (at_builtin; refine wpList_append_lies _ ?_ (.tmp 232) (.tmp 237) 32 ?_ w8.heap.size 3 i3 (.int .i64 0) 1 8 Try.underlying32 hi3 gz0 gz1 gz2 ?_ (Nat.le_refl 1) u17 L.length (L.map offV) ?_ ?_ ⟨wa.heap.size, 0, none⟩ 1 1 [.int .i64 oo] ?_ ?_ ?_ ?_ (Nat.le_refl 1) hml1 ?_ ?_ _ rfl ?_; rfl; rfl; rfl; rfl; exact k2.alloc _; rfl; rfl; exact cell_one_new _ _ _; exact ints_oneCell .i64 [oo]; omega; (simp; omega); intro go2 co2 wb hown4 hgrow4 hat4 hlt4; have hfin := hR.push (news := [(kk, oo)]) hgrow2 rfl hown2 hgrow4 hown4))
                      go_roundw
                      case rel =>
                        go_light
                        rw [HL.out] at hfin
                        exact ⟨i + 1, by omega, by go_num, hfin⟩
                      case measure =>
                        go_light
                        simp [intOf]; omega
                    · obtain rfl : i = t := by omega
                      rw [List.take_of_length_le (by have := HTT.out; omega), ← HW.out] at hR
                      go_wp2
                      go_meet
                      exact hR
            · as_aux_lemma =>
              have hm2 : m2 = q + 1 := by rw [HM.out.2.1, hQ]; simp [hq]
              have hm3 : m3 = t + 2 := by rw [HM.out.2.2, hG]; simp [ht]
              have a1 : m2 ≤ q + 1 := by omega
              have a2 : q + 1 ≤ m2 := by omega
              have a3 : m3 ≤ t + 2 := by omega
              have a4 : t + 2 ≤ m3 := by omega
              clear hm2 hm3
              have f1 : w8.cell? ⟨K2, m2 - 1, none⟩ = some (.int .u8 7) := (r2 w8 (Below.refl _ _) (m2 - 1) (7, s0) (by rw [hQ, show m2 - 1 = Q.length + 0 by omega]; simp)).1
              have f2 : w8.cell? ⟨K3, 0, none⟩ = some (.int .u8 8) := (r3 w8 (Below.refl _ _) 0 (8, g1 zs k) (by rw [hG]; rfl)).1
              have f3 : w8.cell? ⟨O3, 1, none⟩ = some (.int .i64 ge) := (r3 w8 (Below.refl _ _) 1 (8, ge) (by rw [hG]; rfl)).2
              have HO : Hid (∀ wz, Below w8.heap.size w8 wz → wz.cell? ⟨O2, m2 - 1, none⟩ = some (.int .i64 s0)) := fun wz hb2 => (r2 wz hb2 (m2 - 1) (7, s0) (by rw [hQ, show m2 - 1 = Q.length by omega]; simp)).2
              have HT : Hid (ns2.take q = Q) := by
                show _ = _
                rw [hQ, hq]; simp
              have HG3 : Hid (∀ i p, R[i]? = some p → ns3[i + 2]? = some p) := by
                intro i p hp
                rw [hG]
                rw [List.getElem?_append_right (by simp)]
                simpa using hp
              have HW : Hid (ns1 = Q ++ [(8, s0), (8, ge)] ++ R) := hW
              have HQ : Hid (q = Q.length) := hq
              have HTT : Hid (t = R.length) := ht
              clear hQ hG hW hq ht
              have b1 : ((m2 : Int) == 0) = false := by simp; omega
              have b2 : ((m3 : Int) == 0) = false := by simp; omega
              have b3 : decide ((m2 : Int) < 1) = false := by simp; omega
              have b4 : decide ((m3 : Int) < 2) = false := by simp; omega
              have b5 : (0 : Int) ≤ (m2 : Int) - 1 := by omega
              have b6 : (0 : Int) < (m3 : Int) := by omega
              go_wp2_with fail
              go_loopw [16, 17, 24] (fun kv ov x wr => ∃ j : Nat, j ≤ q ∧ x = .int .i64 j ∧ RM w8 wr kv ov (ns2.take j)) (fun _ _ x _ => q - (intOf x).toNat)
              case atStart => exact ⟨0, by omega, rfl, World.ownsRow_nil _ _ _ _, World.ownsRow_nil _ _ _ _, Below.refl _ _⟩
              case round =>
                obtain ⟨j, hj, rfl, hR⟩ := hrel
                by_cases hlt : j < q
                · obtain ⟨p, hp⟩ : ∃ p, ns2[j]? = some p := ⟨ns2[j]'(by have := HM.out.2; omega), List.getElem?_eq_getElem _⟩
                  obtain ⟨kk, oo⟩ := p
                  obtain ⟨c1, c2⟩ : wr.cell? ⟨K2, j, none⟩ = some (.int .u8 kk) ∧ wr.cell? ⟨O2, j, none⟩ = some (.int .i64 oo) := r2 wr hR.2.2 j _ hp
                  obtain ⟨L, hL⟩ : ∃ L, L = ns2.take j := ⟨_, rfl⟩
                  have HL : Hid (L ++ [(kk, oo)] = ns2.take (j + 1)) := by
                    show _ = _
                    obtain ⟨hil, hie⟩ := List.getElem?_eq_some_iff.1 hp
                    rw [hL, List.take_succ_eq_append_getElem hil, hie]
                  have hLl : L.length ≤ 65536 := by rw [hL]; have := HM.out.2; simp; omega
                  rw [← hL] at hR
                  clear hL
                  have hml1 : L.length + 1 ≤ maxLen := by unfold maxLen; omega
                  have hbs := hR.2.2.size
                  have hRD : ∀ wz, Below w8.heap.size w8 wz → wz.cell? ⟨O2, j, none⟩ = some (.int .i64 oo) := fun wz hb2 => (r2 wz hb2 j _ hp).2
                  clear hp
                  go_wp2_with (first
                    | (at_builtin; refine wpList_append_lies _ ?_ (.tmp 190) (.tmp 195) 22 ?_ w8.heap.size 5 i5 (.int .u8 0) 1 1 Try.underlying22 hi5 hz0 hz1 hz2 ?_ (Nat.le_refl 1) u16 L.length (L.map kindV) ?_ ?_ ⟨wr.heap.size, 0, none⟩ 1 1 [.int .u8 kk] ?_ ?_ ?_ ?_ (Nat.le_refl 1) hml1 ?_ ?_ _ rfl ?_; rfl; rfl; rfl; rfl; exact hR.1.alloc _; rfl; rfl; exact cell_one_new _ _ _; exact ints_oneCell .u8 [kk]; omega; (simp; omega); intro gk ck2 wa hown2 hgrow2 hat2 hlt2; obtain ⟨k2, hb2⟩ := hR.kinds hgrow2; have d1 := hRD wa hb2; have hbs2 := hb2.size)
                    | (at_builtin; refine wpList_append_lies _ ?_ (.tmp 197) (.tmp 202) 32 ?_ w8.heap.size 3 i3 (.int .i64 0) 1 8 Try.underlying32 hi3 gz0 gz1 gz2 ?_ (Nat.le_refl 1) u17 L.length (L.map offV) ?_ ?_ ⟨wa.heap.size, 0, none⟩ 1 1 [.int .i64 oo] ?_ ?_ ?_ ?_ (Nat.le_refl 1) hml1 ?_ ?_ _ rfl ?_; rfl; rfl; rfl; rfl; exact k2.alloc _; rfl; rfl; exact cell_one_new _ _ _; exact ints_oneCell .i64 [oo]; omega; (simp; omega); intro go2 co2 wb hown4 hgrow4 hat4 hlt4; have hfin := hR.push (news := [(kk, oo)]) hgrow2 rfl hown2 hgrow4 hown4))
                  go_roundw
                  case rel =>
                    go_light
                    repeat apply Exists.intro
                    refine ⟨?_, rfl⟩
                    rw [HL.out] at hfin
                    exact ⟨j + 1, by omega, by go_num, hfin⟩
                  case measure =>
                    go_light
                    simp [intOf]; omega
                · obtain rfl : j = q := by omega
                  rw [HT.out] at hR
                  obtain ⟨L, hL⟩ : ∃ L, L = Q := ⟨_, rfl⟩
                  rw [← hL] at hR
                  have HL0 : Hid (L = Q) := hL
                  have hLl : L.length ≤ 32768 := by rw [hL, ← HQ.out]; omega
                  clear hL
                  have hml2 : L.length + 2 ≤ maxLen := by unfold maxLen; omega
                  have hbs := hR.2.2.size
                  have b7 : (0 : Int) ≤ (m2 : Int) - 1 := by omega
                  have b8 : (m2 : Int) - 1 < (m2 : Int) := by omega
                  go_wp2_with (first
                    | (at_builtin; refine wpList_append_lies _ ?_ (.tmp 204) (.tmp 205) 22 ?_ w8.heap.size 5 i5 (.int .u8 0) 1 1 Try.underlying22 hi5 hz0 hz1 hz2 ?_ (Nat.le_refl 1) u16 L.length (L.map kindV) ?_ ?_ ⟨wr.heap.size, 0, none⟩ 2 2 [.int .u8 8, .int .u8 8] ?_ ?_ ?_ ?_ (by omega) hml2 ?_ ?_ _ rfl ?_; rfl; rfl; rfl; rfl; exact hR.1.alloc _; rfl; rfl; exact World.news_of_block (Go.heap_alloc_new _ _); exact ints_oneCell .u8 [8, 8]; omega; (simp; omega); intro gk ck2 wa hown2 hgrow2 hat2 hlt2; obtain ⟨k2, hb2⟩ := hR.kinds hgrow2; have d1 := HO.out wa hb2; have hbs2 := hb2.size)
                    | (at_builtin; refine wpList_append_lies _ ?_ (.tmp 207) (.tmp 216) 32 ?_ w8.heap.size 3 i3 (.int .i64 0) 1 8 Try.underlying32 hi3 gz0 gz1 gz2 ?_ (Nat.le_refl 1) u17 L.length (L.map offV) ?_ ?_ ⟨wa.heap.size, 0, none⟩ 2 2 [.int .i64 s0, .int .i64 ge] ?_ ?_ ?_ ?_ (by omega) hml2 ?_ ?_ _ rfl ?_; rfl; rfl; rfl; rfl; exact k2.alloc _; rfl; rfl; exact World.news_of_block (Go.heap_alloc_new _ _); exact ints_oneCell .i64 [s0, ge]; omega; (simp; omega); intro go2 co2 wb hown4 hgrow4 hat4 hlt4; have hfin := hR.push (news := [(8, s0), (8, ge)]) hgrow2 rfl hown2 hgrow4 hown4))
                  have hF0 : RM w8 wb (.slice (some ⟨gk, 0, none⟩) (L.length + 2) ck2) (.slice (some ⟨go2, 0, none⟩) (L.length + 2) co2) (L ++ [(8, s0), (8, ge)] ++ R.take 0) := by simpa using hfin
                  clear hfin hown2 hgrow2 hat2 hown4 hgrow4 hat4 hR k2 hb2
                  go_loopw [16, 17, 25] (fun kv ov x wr => ∃ i : Nat, i ≤ t ∧ x = .int .i64 ((i : Int) + 2) ∧ RM w8 wr kv ov (Q ++ [(8, s0), (8, ge)] ++ R.take i)) (fun _ _ x _ => t + 2 - (intOf x).toNat)
                  case atStart => exact ⟨0, by omega, by go_num, by rw [← HL0.out]; exact hF0⟩
                  case round =>
                    clear hF0
                    obtain ⟨i, hi, rfl, hR⟩ := hrel
                    by_cases hlt3 : i < t
                    · have hir : i < R.length := by have := HTT.out; omega
                      obtain ⟨p, hp⟩ : ∃ p, ns3[i + 2]? = some p := ⟨R[i]'hir, HG3.out i _ (List.getElem?_eq_getElem hir)⟩
                      obtain ⟨kk, oo⟩ := p
                      obtain ⟨c1, c2⟩ : wr.cell? ⟨K3, i + 2, none⟩ = some (.int .u8 kk) ∧ wr.cell? ⟨O3, i + 2, none⟩ = some (.int .i64 oo) := r3 wr hR.2.2 (i + 2) _ hp
                      obtain ⟨L, hL⟩ : ∃ L, L = Q ++ [(8, s0), (8, ge)] ++ R.take i := ⟨_, rfl⟩
                      have hie : R[i] = (kk, oo) := by
                        have h2 := HG3.out i _ (List.getElem?_eq_getElem hir)
                        rw [hp] at h2
                        exact (Option.some.inj h2).symm
                      have HL : Hid (L ++ [(kk, oo)] = Q ++ [(8, s0), (8, ge)] ++ R.take (i + 1)) := by
                        show _ = _
                        rw [hL, List.append_assoc _ _ [(kk, oo)]]
                        congr 1
                        rw [List.take_succ_eq_append_getElem hir, hie]
                      have hLl : L.length ≤ 65536 := by rw [hL]; have := HQ.out; have := HTT.out; simp; omega
                      rw [← hL] at hR
                      clear hL
                      have hml1 : L.length + 1 ≤ maxLen := by unfold maxLen; omega
                      have hbs := hR.2.2.size
                      have hRD : ∀ wz, Below w8.heap.size w8 wz → wz.cell? ⟨O3, i + 2, none⟩ = some (.int .i64 oo) := fun wz hb2 => (r3 wz hb2 (i + 2) _ hp).2
                      clear hp
                      go_wp2_with (first
                        | (at_builtin; refine wpList_append_lies _ ?_ (.tmp 225) (.tmp 230) 22 ?_ w8.heap.size 5 i5 (.int .u8 0) 1 1 Try.underlying22 hi5 hz0 hz1 hz2 ?_ (Nat.le_refl 1) u16 L.length (L.map kindV) ?_ ?_ ⟨wr.heap.size, 0, none⟩ 1 1 [.int .u8 kk] ?_ ?_ ?_ ?_ (Nat.le_refl 1) hml1 ?_ ?_ _ rfl ?_; rfl; rfl; rfl; rfl; exact hR.1.alloc _; rfl; rfl; exact cell_one_new _ _ _; exact ints_oneCell .u8 [kk]; omega; (simp; omega); intro gk ck2 wa hown2 hgrow2 hat2 hlt2; obtain ⟨k2, hb2⟩ := hR.kinds hgrow2; have d1 := hRD wa hb2; have hbs2 := hb2.size)
                        | (at_builtin; refine wpList_append_lies _ ?_ (.tmp 232) (.tmp 237) 32 ?_ w8.heap.size 3 i3 (.int .i64 0) 1 8 Try.underlying32 hi3 gz0 gz1 gz2 ?_ (Nat.le_refl 1) u17 L.length (L.map offV) ?_ ?_ ⟨wa.heap.size, 0, none⟩ 1 1 [.int .i64 oo] ?_ ?_ ?_ ?_ (Nat.le_refl 1) hml1 ?_ ?_ _ rfl ?_; rfl; rfl; rfl; rfl; exact k2.alloc _; rfl; rfl; exact cell_one_new _ _ _; exact ints_oneCell .i64 [oo]; omega; (simp; omega); intro go2 co2 wb hown4 hgrow4 hat4 hlt4; have hfin := hR.push (news := [(kk, oo)]) hgrow2 rfl hown2 hgrow4 hown4))
                      go_roundw
                      case rel =>
                        go_light
                        rw [HL.out] at hfin
                        exact ⟨i + 1, by omega, by go_num, hfin⟩
                      case measure =>
                        go_light
                        simp [intOf]; omega
                    · obtain rfl : i = t := by omega
                      rw [List.take_of_length_le (by have := HTT.out; omega), ← HW.out] at hR
                      go_wp2
                      go_meet
                      exact hR
          · rcases hG with ⟨hG, rfl⟩ | hG
            · as_aux_lemma =>
              have hm2 : m2 = q + 2 := by rw [HM.out.2.1, hQ]; simp [hq]
              have hm3 : m3 = t + 1 := by rw [HM.out.2.2, hG]; simp [ht]
              have a1 : m2 ≤ q + 2 := by omega
              have a2 : q + 2 ≤ m2 := by omega
              have a3 : m3 ≤ t + 1 := by omega
              have a4 : t + 1 ≤ m3 := by omega
              clear hm2 hm3
              have f1 : w8.cell? ⟨K2, m2 - 1, none⟩ = some (.int .u8 8) := (r2 w8 (Below.refl _ _) (m2 - 1) (8, e0) (by rw [hQ, show m2 - 1 = Q.length + 1 by omega]; simp)).1
              have f2 : w8.cell? ⟨K3, 0, none⟩ = some (.int .u8 7) := (r3 w8 (Below.refl _ _) 0 (7, g1 zs k) (by rw [hG]; rfl)).1
              have HO : Hid (∀ wz, Below w8.heap.size w8 wz → wz.cell? ⟨O2, m2 - 2, none⟩ = some (.int .i64 s0)) := fun wz hb2 => (r2 wz hb2 (m2 - 2) (8, s0) (by rw [hQ, show m2 - 2 = Q.length by omega]; simp)).2
              have HT : Hid (ns2.take q = Q) := by
                show _ = _
                rw [hQ, hq]; simp
              have HG3 : Hid (∀ i p, R[i]? = some p → ns3[i + 1]? = some p) := by
                intro i p hp
                rw [hG]
                rw [List.getElem?_append_right (by simp)]
                simpa using hp
              have HW : Hid (ns1 = Q ++ [(8, s0), (8, g2 zs k)] ++ R) := hW
              have HQ : Hid (q = Q.length) := hq
              have HTT : Hid (t = R.length) := ht
              clear hQ hG hW hq ht
              have b1 : ((m2 : Int) == 0) = false := by simp; omega
              have b2 : ((m3 : Int) == 0) = false := by simp; omega
              have b3 : decide ((m2 : Int) < 2) = false := by simp; omega
              have b4 : decide ((m3 : Int) < 1) = false := by simp; omega
              have b5 : (0 : Int) ≤ (m2 : Int) - 1 := by omega
              have b6 : (0 : Int) < (m3 : Int) := by omega
              go_wp2_with fail
              go_loopw [16, 17, 24] (fun kv ov x wr => ∃ j : Nat, j ≤ q ∧ x = .int .i64 j ∧ RM w8 wr kv ov (ns2.take j)) (fun _ _ x _ => q - (intOf x).toNat)
              case atStart => exact ⟨0, by omega, rfl, World.ownsRow_nil _ _ _ _, World.ownsRow_nil _ _ _ _, Below.refl _ _⟩
              case round =>
                obtain ⟨j, hj, rfl, hR⟩ := hrel
                by_cases hlt : j < q
                · obtain ⟨p, hp⟩ : ∃ p, ns2[j]? = some p := ⟨ns2[j]'(by have := HM.out.2; omega), List.getElem?_eq_getElem _⟩
                  obtain ⟨kk, oo⟩ := p
                  obtain ⟨c1, c2⟩ : wr.cell? ⟨K2, j, none⟩ = some (.int .u8 kk) ∧ wr.cell? ⟨O2, j, none⟩ = some (.int .i64 oo) := r2 wr hR.2.2 j _ hp
                  obtain ⟨L, hL⟩ : ∃ L, L = ns2.take j := ⟨_, rfl⟩
                  have HL : Hid (L ++ [(kk, oo)] = ns2.take (j + 1)) := by
                    show _ = _
                    obtain ⟨hil, hie⟩ := List.getElem?_eq_some_iff.1 hp
                    rw [hL, List.take_succ_eq_append_getElem hil, hie]
                  have hLl : L.length ≤ 65536 := by rw [hL]; have := HM.out.2; simp; omega
                  rw [← hL] at hR
                  clear hL
                  have hml1 : L.length + 1 ≤ maxLen := by unfold maxLen; omega
                  have hbs := hR.2.2.size
                  have hRD : ∀ wz, Below w8.heap.size w8 wz → wz.cell? ⟨O2, j, none⟩ = some (.int .i64 oo) := fun wz hb2 => (r2 wz hb2 j _ hp).2
                  clear hp
                  go_wp2_with (first
                    | (at_builtin; refine wpList_append_lies _ ?_ (.tmp 190) (.tmp 195) 22 ?_ w8.heap.size 5 i5 (.int .u8 0) 1 1 Try.underlying22 hi5 hz0 hz1 hz2 ?_ (Nat.le_refl 1) u16 L.length (L.map kindV) ?_ ?_ ⟨wr.heap.size, 0, none⟩ 1 1 [.int .u8 kk] ?_ ?_ ?_ ?_ (Nat.le_refl 1) hml1 ?_ ?_ _ rfl ?_; rfl; rfl; rfl; rfl; exact hR.1.alloc _; rfl; rfl; exact cell_one_new _ _ _; exact ints_oneCell .u8 [kk]; omega; (simp; omega); intro gk ck2 wa hown2 hgrow2 hat2 hlt2; obtain ⟨k2, hb2⟩ := hR.kinds hgrow2; have d1 := hRD wa hb2; have hbs2 := hb2.size)
                    | (at_builtin; refine wpList_append_lies _ ?_ (.tmp 197) (.tmp 202) 32 ?_ w8.heap.size 3 i3 (.int .i64 0) 1 8 Try.underlying32 hi3 gz0 gz1 gz2 ?_ (Nat.le_refl 1) u17 L.length (L.map offV) ?_ ?_ ⟨wa.heap.size, 0, none⟩ 1 1 [.int .i64 oo] ?_ ?_ ?_ ?_ (Nat.le_refl 1) hml1 ?_ ?_ _ rfl ?_; rfl; rfl; rfl; rfl; exact k2.alloc _; rfl; rfl; exact cell_one_new _ _ _; exact ints_oneCell .i64 [oo]; omega; (simp; omega); intro go2 co2 wb hown4 hgrow4 hat4 hlt4; have hfin := hR.push (news := [(kk, oo)]) hgrow2 rfl hown2 hgrow4 hown4))
                  go_roundw
                  case rel =>
                    go_light
                    repeat apply Exists.intro
                    refine ⟨?_, rfl⟩
                    rw [HL.out] at hfin
                    exact ⟨j + 1, by omega, by go_num, hfin⟩
                  case measure =>
                    go_light
                    simp [intOf]; omega
                · obtain rfl : j = q := by omega
                  rw [HT.out] at hR
                  obtain ⟨L, hL⟩ : ∃ L, L = Q := ⟨_, rfl⟩
                  rw [← hL] at hR
                  have HL0 : Hid (L = Q) := hL
                  have hLl : L.length ≤ 32768 := by rw [hL, ← HQ.out]; omega
                  clear hL
                  have hml2 : L.length + 2 ≤ maxLen := by unfold maxLen; omega
                  have hbs := hR.2.2.size
                  have b7 : (0 : Int) ≤ (m2 : Int) - 2 := by omega
                  have b8 : (m2 : Int) - 2 < (m2 : Int) := by omega
                  go_wp2_with (first
                    | (at_builtin; refine wpList_append_lies _ ?_ (.tmp 204) (.tmp 205) 22 ?_ w8.heap.size 5 i5 (.int .u8 0) 1 1 Try.underlying22 hi5 hz0 hz1 hz2 ?_ (Nat.le_refl 1) u16 L.length (L.map kindV) ?_ ?_ ⟨wr.heap.size, 0, none⟩ 2 2 [.int .u8 8, .int .u8 8] ?_ ?_ ?_ ?_ (by omega) hml2 ?_ ?_ _ rfl ?_; rfl; rfl; rfl; rfl; exact hR.1.alloc _; rfl; rfl; exact World.news_of_block (Go.heap_alloc_new _ _); exact ints_oneCell .u8 [8, 8]; omega; (simp; omega); intro gk ck2 wa hown2 hgrow2 hat2 hlt2; obtain ⟨k2, hb2⟩ := hR.kinds hgrow2; have d1 := HO.out wa hb2; have hbs2 := hb2.size)
                    | (at_builtin; refine wpList_append_lies _ ?_ (.tmp 207) (.tmp 216) 32 ?_ w8.heap.size 3 i3 (.int .i64 0) 1 8 Try.underlying32 hi3 gz0 gz1 gz2 ?_ (Nat.le_refl 1) u17 L.length (L.map offV) ?_ ?_ ⟨wa.heap.size, 0, none⟩ 2 2 [.int .i64 s0, .int .i64 (g2 zs k)] ?_ ?_ ?_ ?_ (by omega) hml2 ?_ ?_ _ rfl ?_; rfl; rfl; rfl; rfl; exact k2.alloc _; rfl; rfl; exact World.news_of_block (Go.heap_alloc_new _ _); exact ints_oneCell .i64 [s0, g2 zs k]; omega; (simp; omega); intro go2 co2 wb hown4 hgrow4 hat4 hlt4; have hfin := hR.push (news := [(8, s0), (8, g2 zs k)]) hgrow2 rfl hown2 hgrow4 hown4))
                  have hF0 : RM w8 wb (.slice (some ⟨gk, 0, none⟩) (L.length + 2) ck2) (.slice (some ⟨go2, 0, none⟩) (L.length + 2) co2) (L ++ [(8, s0), (8, g2 zs k)] ++ R.take 0) := by simpa using hfin
                  clear hfin hown2 hgrow2 hat2 hown4 hgrow4 hat4 hR k2 hb2
                  go_loopw [16, 17, 25] (fun kv ov x wr => ∃ i : Nat, i ≤ t ∧ x = .int .i64 ((i : Int) + 1) ∧ RM w8 wr kv ov (Q ++ [(8, s0), (8, g2 zs k)] ++ R.take i)) (fun _ _ x _ => t + 1 - (intOf x).toNat)
                  case atStart => exact ⟨0, by omega, by go_num, by rw [← HL0.out]; exact hF0⟩
                  case round =>
                    clear hF0
                    obtain ⟨i, hi, rfl, hR⟩ := hrel
                    by_cases hlt3 : i < t
                    · have hir : i < R.length := by have := HTT.out; omega
                      obtain ⟨p, hp⟩ : ∃ p, ns3[i + 1]? = some p := ⟨R[i]'hir, HG3.out i _ (List.getElem?_eq_getElem hir)⟩
                      obtain ⟨kk, oo⟩ := p
                      obtain ⟨c1, c2⟩ : wr.cell? ⟨K3, i + 1, none⟩ = some (.int .u8 kk) ∧ wr.cell? ⟨O3, i + 1, none⟩ = some (.int .i64 oo) := r3 wr hR.2.2 (i + 1) _ hp
                      obtain ⟨L, hL⟩ : ∃ L, L = Q ++ [(8, s0), (8, g2 zs k)] ++ R.take i := ⟨_, rfl⟩
                      have hie : R[i] = (kk, oo) := by
                        have h2 := HG3.out i _ (List.getElem?_eq_getElem hir)
                        rw [hp] at h2
                        exact (Option.some.inj h2).symm
                      have HL : Hid (L ++ [(kk, oo)] = Q ++ [(8, s0), (8, g2 zs k)] ++ R.take (i + 1)) := by
                        show _ = _
                        rw [hL, List.append_assoc _ _ [(kk, oo)]]
                        congr 1
                        rw [List.take_succ_eq_append_getElem hir, hie]
                      have hLl : L.length ≤ 65536 := by rw [hL]; have := HQ.out; have := HTT.out; simp; omega
                      rw [← hL] at hR
                      clear hL
                      have hml1 : L.length + 1 ≤ maxLen := by unfold maxLen; omega
                      have hbs := hR.2.2.size
                      have hRD : ∀ wz, Below w8.heap.size w8 wz → wz.cell? ⟨O3, i + 1, none⟩ = some (.int .i64 oo) := fun wz hb2 => (r3 wz hb2 (i + 1) _ hp).2
                      clear hp
                      go_wp2_with (first
                        | (at_builtin; refine wpList_append_lies _ ?_ (.tmp 225) (.tmp 230) 22 ?_ w8.heap.size 5 i5 (.int .u8 0) 1 1 Try.underlying22 hi5 hz0 hz1 hz2 ?_ (Nat.le_refl 1) u16 L.length (L.map kindV) ?_ ?_ ⟨wr.heap.size, 0, none⟩ 1 1 [.int .u8 kk] ?_ ?_ ?_ ?_ (Nat.le_refl 1) hml1 ?_ ?_ _ rfl ?_; rfl; rfl; rfl; rfl; exact hR.1.alloc _; rfl; rfl; exact cell_one_new _ _ _; exact ints_oneCell .u8 [kk]; omega; (simp; omega); intro gk ck2 wa hown2 hgrow2 hat2 hlt2; obtain ⟨k2, hb2⟩ := hR.kinds hgrow2; have d1 := hRD wa hb2; have hbs2 := hb2.size)
                        | (at_builtin; refine wpList_append_lies _ ?_ (.tmp 232) (.tmp 237) 32 ?_ w8.heap.size 3 i3 (.int .i64 0) 1 8 Try.underlying32 hi3 gz0 gz1 gz2 ?_ (Nat.le_refl 1) u17 L.length (L.map offV) ?_ ?_ ⟨wa.heap.size, 0, none⟩ 1 1 [.int .i64 oo] ?_ ?_ ?_ ?_ (Nat.le_refl 1) hml1 ?_ ?_ _ rfl ?_; rfl; rfl; rfl; rfl; exact k2.alloc _; rfl; rfl; exact cell_one_new _ _ _; exact ints_oneCell .i64 [oo]; omega; (simp; omega); intro go2 co2 wb hown4 hgrow4 hat4 hlt4; have hfin := hR.push (news := [(kk, oo)]) hgrow2 rfl hown2 hgrow4 hown4))
                      go_roundw
                      case rel =>
                        go_light
                        rw [HL.out] at hfin
                        exact ⟨i + 1, by omega, by go_num, hfin⟩
                      case measure =>
                        go_light
                        simp [intOf]; omega
                    · obtain rfl : i = t := by omega
                      rw [List.take_of_length_le (by have := HTT.out; omega), ← HW.out] at hR
                      go_wp2
                      go_meet
                      exact hR
            · as_aux_lemma =>
              have hm2 : m2 = q + 2 := by rw [HM.out.2.1, hQ]; simp [hq]
              have hm3 : m3 = t + 2 := by rw [HM.out.2.2, hG]; simp [ht]
              have a1 : m2 ≤ q + 2 := by omega
              have a2 : q + 2 ≤ m2 := by omega
              have a3 : m3 ≤ t + 2 := by omega
              have a4 : t + 2 ≤ m3 := by omega
              clear hm2 hm3
              have f1 : w8.cell? ⟨K2, m2 - 1, none⟩ = some (.int .u8 8) := (r2 w8 (Below.refl _ _) (m2 - 1) (8, e0) (by rw [hQ, show m2 - 1 = Q.length + 1 by omega]; simp)).1
              have f2 : w8.cell? ⟨K3, 0, none⟩ = some (.int .u8 8) := (r3 w8 (Below.refl _ _) 0 (8, g1 zs k) (by rw [hG]; rfl)).1
              have f3 : w8.cell? ⟨O3, 1, none⟩ = some (.int .i64 ge) := (r3 w8 (Below.refl _ _) 1 (8, ge) (by rw [hG]; rfl)).2
              have HO : Hid (∀ wz, Below w8.heap.size w8 wz → wz.cell? ⟨O2, m2 - 2, none⟩ = some (.int .i64 s0)) := fun wz hb2 => (r2 wz hb2 (m2 - 2) (8, s0) (by rw [hQ, show m2 - 2 = Q.length by omega]; simp)).2
              have HT : Hid (ns2.take q = Q) := by
                show _ = _
                rw [hQ, hq]; simp
              have HG3 : Hid (∀ i p, R[i]? = some p → ns3[i + 2]? = some p) := by
                intro i p hp
                rw [hG]
                rw [List.getElem?_append_right (by simp)]
                simpa using hp
              have HW : Hid (ns1 = Q ++ [(8, s0), (8, ge)] ++ R) := hW
              have HQ : Hid (q = Q.length) := hq
              have HTT : Hid (t = R.length) := ht
              clear hQ hG hW hq ht
              have b1 : ((m2 : Int) == 0) = false := by simp; omega
              have b2 : ((m3 : Int) == 0) = false := by simp; omega
              have b3 : decide ((m2 : Int) < 2) = false := by simp; omega
              have b4 : decide ((m3 : Int) < 2) = false := by simp; omega
              have b5 : (0 : Int) ≤ (m2 : Int) - 1 := by omega
              have b6 : (0 : Int) < (m3 : Int) := by omega
              go_wp2_with fail
              go_loopw [16, 17, 24] (fun kv ov x wr => ∃ j : Nat, j ≤ q ∧ x = .int .i64 j ∧ RM w8 wr kv ov (ns2.take j)) (fun _ _ x _ => q - (intOf x).toNat)
              case atStart => exact ⟨0, by omega, rfl, World.ownsRow_nil _ _ _ _, World.ownsRow_nil _ _ _ _, Below.refl _ _⟩
              case round =>
                obtain ⟨j, hj, rfl, hR⟩ := hrel
                by_cases hlt : j < q
                · obtain ⟨p, hp⟩ : ∃ p, ns2[j]? = some p := ⟨ns2[j]'(by have := HM.out.2; omega), List.getElem?_eq_getElem _⟩
                  obtain ⟨kk, oo⟩ := p
                  obtain ⟨c1, c2⟩ : wr.cell? ⟨K2, j, none⟩ = some (.int .u8 kk) ∧ wr.cell? ⟨O2, j, none⟩ = some (.int .i64 oo) := r2 wr hR.2.2 j _ hp
                  obtain ⟨L, hL⟩ : ∃ L, L = ns2.take j := ⟨_, rfl⟩
                  have HL : Hid (L ++ [(kk, oo)] = ns2.take (j + 1)) := by
                    show _ = _
                    obtain ⟨hil, hie⟩ := List.getElem?_eq_some_iff.1 hp
                    rw [hL, List.take_succ_eq_append_getElem hil, hie]
                  have hLl : L.length ≤ 65536 := by rw [hL]; have := HM.out.2; simp; omega
                  rw [← hL] at hR
                  clear hL
                  have hml1 : L.length + 1 ≤ maxLen := by unfold maxLen; omega
                  have hbs := hR.2.2.size
                  have hRD : ∀ wz, Below w8.heap.size w8 wz → wz.cell? ⟨O2, j, none⟩ = some (.int .i64 oo) := fun wz hb2 => (r2 wz hb2 j _ hp).2
                  clear hp
                  go_wp2_with (first
                    | (at_builtin; refine wpList_append_lies _ ?_ (.tmp 190) (.tmp 195) 22 ?_ w8.heap.size 5 i5 (.int .u8 0) 1 1 Try.underlying22 hi5 hz0 hz1 hz2 ?_ (Nat.le_refl 1) u16 L.length (L.map kindV) ?_ ?_ ⟨wr.heap.size, 0, none⟩ 1 1 [.int .u8 kk] ?_ ?_ ?_ ?_ (Nat.le_refl 1) hml1 ?_ ?_ _ rfl ?_; rfl; rfl; rfl; rfl; exact hR.1.alloc _; rfl; rfl; exact cell_one_new _ _ _; exact ints_oneCell .u8 [kk]; omega; (simp; omega); intro gk ck2 wa hown2 hgrow2 hat2 hlt2; obtain ⟨k2, hb2⟩ := hR.kinds hgrow2; have d1 := hRD wa hb2; have hbs2 := hb2.size)
                    | (at_builtin; refine wpList_append_lies _ ?_ (.tmp 197) (.tmp 202) 32 ?_ w8.heap.size 3 i3 (.int .i64 0) 1 8 Try.underlying32 hi3 gz0 gz1 gz2 ?_ (Nat.le_refl 1) u17 L.length (L.map offV) ?_ ?_ ⟨wa.heap.size, 0, none⟩ 1 1 [.int .i64 oo] ?_ ?_ ?_ ?_ (Nat.le_refl 1) hml1 ?_ ?_ _ rfl ?_; rfl; rfl; rfl; rfl; exact k2.alloc _; rfl; rfl; exact cell_one_new _ _ _; exact ints_oneCell .i64 [oo]; omega; (simp; omega); intro go2 co2 wb hown4 hgrow4 hat4 hlt4; have hfin := hR.push (news := [(kk, oo)]) hgrow2 rfl hown2 hgrow4 hown4))
                  go_roundw
                  case rel =>
                    go_light
                    repeat apply Exists.intro
                    refine ⟨?_, rfl⟩
                    rw [HL.out] at hfin
                    exact ⟨j + 1, by omega, by go_num, hfin⟩
                  case measure =>
                    go_light
                    simp [intOf]; omega
                · obtain rfl : j = q := by omega
                  rw [HT.out] at hR
                  obtain ⟨L, hL⟩ : ∃ L, L = Q := ⟨_, rfl⟩
                  rw [← hL] at hR
                  have HL0 : Hid (L = Q) := hL
                  have hLl : L.length ≤ 32768 := by rw [hL, ← HQ.out]; omega
                  clear hL
                  have hml2 : L.length + 2 ≤ maxLen := by unfold maxLen; omega
                  have hbs := hR.2.2.size
                  have b7 : (0 : Int) ≤ (m2 : Int) - 2 := by omega
                  have b8 : (m2 : Int) - 2 < (m2 : Int) := by omega
                  go_wp2_with (first
                    | (at_builtin; refine wpList_append_lies _ ?_ (.tmp 204) (.tmp 205) 22 ?_ w8.heap.size 5 i5 (.int .u8 0) 1 1 Try.underlying22 hi5 hz0 hz1 hz2 ?_ (Nat.le_refl 1) u16 L.length (L.map kindV) ?_ ?_ ⟨wr.heap.size, 0, none⟩ 2 2 [.int .u8 8, .int .u8 8] ?_ ?_ ?_ ?_ (by omega) hml2 ?_ ?_ _ rfl ?_; rfl; rfl; rfl; rfl; exact hR.1.alloc _; rfl; rfl; exact World.news_of_block (Go.heap_alloc_new _ _); exact ints_oneCell .u8 [8, 8]; omega; (simp; omega); intro gk ck2 wa hown2 hgrow2 hat2 hlt2; obtain ⟨k2, hb2⟩ := hR.kinds hgrow2; have d1 := HO.out wa hb2; have hbs2 := hb2.size)
                    | (at_builtin; refine wpList_append_lies _ ?_ (.tmp 207) (.tmp 216) 32 ?_ w8.heap.size 3 i3 (.int .i64 0) 1 8 Try.underlying32 hi3 gz0 gz1 gz2 ?_ (Nat.le_refl 1) u17 L.length (L.map offV) ?_ ?_ ⟨wa.heap.size, 0, none⟩ 2 2 [.int .i64 s0, .int .i64 ge] ?_ ?_ ?_ ?_ (by omega) hml2 ?_ ?_ _ rfl ?_; rfl; rfl; rfl; rfl; exact k2.alloc _; rfl; rfl; exact World.news_of_block (Go.heap_alloc_new _ _); exact ints_oneCell .i64 [s0, ge]; omega; (simp; omega); intro go2 co2 wb hown4 hgrow4 hat4 hlt4; have hfin := hR.push (news := [(8, s0), (8, ge)]) hgrow2 rfl hown2 hgrow4 hown4))
                  have hF0 : RM w8 wb (.slice (some ⟨gk, 0, none⟩) (L.length + 2) ck2) (.slice (some ⟨go2, 0, none⟩) (L.length + 2) co2) (L ++ [(8, s0), (8, ge)] ++ R.take 0) := by simpa using hfin
                  clear hfin hown2 hgrow2 hat2 hown4 hgrow4 hat4 hR k2 hb2
                  go_loopw [16, 17, 25] (fun kv ov x wr => ∃ i : Nat, i ≤ t ∧ x = .int .i64 ((i : Int) + 2) ∧ RM w8 wr kv ov (Q ++ [(8, s0), (8, ge)] ++ R.take i)) (fun _ _ x _ => t + 2 - (intOf x).toNat)
                  case atStart => exact ⟨0, by omega, by go_num, by rw [← HL0.out]; exact hF0⟩
                  case round =>
                    clear hF0
                    obtain ⟨i, hi, rfl, hR⟩ := hrel
                    by_cases hlt3 : i < t
                    · have hir : i < R.length := by have := HTT.out; omega
                      obtain ⟨p, hp⟩ : ∃ p, ns3[i + 2]? = some p := ⟨R[i]'hir, HG3.out i _ (List.getElem?_eq_getElem hir)⟩
                      obtain ⟨kk, oo⟩ := p
                      obtain ⟨c1, c2⟩ : wr.cell? ⟨K3, i + 2, none⟩ = some (.int .u8 kk) ∧ wr.cell? ⟨O3, i + 2, none⟩ = some (.int .i64 oo) := r3 wr hR.2.2 (i + 2) _ hp
                      obtain ⟨L, hL⟩ : ∃ L, L = Q ++ [(8, s0), (8, ge)] ++ R.take i := ⟨_, rfl⟩
                      have hie : R[i] = (kk, oo) := by
                        have h2 := HG3.out i _ (List.getElem?_eq_getElem hir)
                        rw [hp] at h2
                        exact (Option.some.inj h2).symm
                      have HL : Hid (L ++ [(kk, oo)] = Q ++ [(8, s0), (8, ge)] ++ R.take (i + 1)) := by
                        show _ = _
                        rw [hL, List.append_assoc _ _ [(kk, oo)]]
                        congr 1
                        rw [List.take_succ_eq_append_getElem hir, hie]
                      have hLl : L.length ≤ 65536 := by rw [hL]; have := HQ.out; have := HTT.out; simp; omega
                      rw [← hL] at hR
                      clear hL
                      have hml1 : L.length + 1 ≤ maxLen := by unfold maxLen; omega
                      have hbs := hR.2.2.size
                      have hRD : ∀ wz, Below w8.heap.size w8 wz → wz.cell? ⟨O3, i + 2, none⟩ = some (.int .i64 oo) := fun wz hb2 => (r3 wz hb2 (i + 2) _ hp).2
                      clear hp
                      go_wp2_with (first
                        | (at_builtin; refine wpList_append_lies _ ?_ (.tmp 225) (.tmp 230) 22 ?_ w8.heap.size 5 i5 (.int .u8 0) 1 1 Try.underlying22 hi5 hz0 hz1 hz2 ?_ (Nat.le_refl 1) u16 L.length (L.map kindV) ?_ ?_ ⟨wr.heap.size, 0, none⟩ 1 1 [.int .u8 kk] ?_ ?_ ?_ ?_ (Nat.le_refl 1) hml1 ?_ ?_ _ rfl ?_; rfl; rfl; rfl; rfl; exact hR.1.alloc _; rfl; rfl; exact cell_one_new _ _ _; exact ints_oneCell .u8 [kk]; omega; (simp; omega); intro gk ck2 wa hown2 hgrow2 hat2 hlt2; obtain ⟨k2, hb2⟩ := hR.kinds hgrow2; have d1 := hRD wa hb2; have hbs2 := hb2.size)
                        | (at_builtin; refine wpList_append_lies _ ?_ (.tmp 232) (.tmp 237) 32 ?_ w8.heap.size 3 i3 (.int .i64 0) 1 8 Try.underlying32 hi3 gz0 gz1 gz2 ?_ (Nat.le_refl 1) u17 L.length (L.map offV) ?_ ?_ ⟨wa.heap.size, 0, none⟩ 1 1 [.int .i64 oo] ?_ ?_ ?_ ?_ (Nat.le_refl 1) hml1 ?_ ?_ _ rfl ?_; rfl; rfl; rfl; rfl; exact k2.alloc _; rfl; rfl; exact cell_one_new _ _ _; exact ints_oneCell .i64 [oo]; omega; (simp; omega); intro go2 co2 wb hown4 hgrow4 hat4 hlt4; have hfin := hR.push (news := [(kk, oo)]) hgrow2 rfl hown2 hgrow4 hown4))
                      go_roundw
                      case rel =>
                        go_light
                        rw [HL.out] at hfin
                        exact ⟨i + 1, by omega, by go_num, hfin⟩
                      case measure =>
                        go_light
                        simp [intOf]; omega
                    · obtain rfl : i = t := by omega
                      rw [List.take_of_length_le (by have := HTT.out; omega), ← HW.out] at hR
                      go_wp2
                      go_meet
                      exact hR
      case rest => as_aux_lemma =>
        clear r2 r3 hsp8
        obtain ⟨w9, rfl⟩ : ∃ x, x = wc := ⟨wc, rfl⟩
        have hmpos : 0 < m1 := by rw [HM.out.1, HE.out.1]; exact F_pos zs hz n (by have := HN.out; omega) hpos
        have hcut2 := hcut
        obtain ⟨ka, kg, kc, oa, og, oc, rfl, rfl, hcells⟩ := hcut.shape
        rw [← HM.out.1] at hcells ⊢
        obtain ⟨rfl, rfl, hcells2⟩ := hcells hmpos
        clear hcells
        have hB9 := hcut2.2.2
        have hL1 := (gL1.below (Nat.le_refl _) hB9).drewN
        have hL2 := (gL2.below (Nat.le_refl _) hB9).drewN
        have hL3 := (gL3.below (Nat.le_refl _) hB9).drewN
        have rr := r1 w9 hB9
        have hBf : Below w.heap.size w w9 := hBw.trans (hB9.mono hBw.size)
        have HC : Hid (∀ j p, ns1[j]? = some p → w9.cell? ⟨kg, j, none⟩ = some (kindV p) ∧ w9.cell? ⟨og, j, none⟩ = some (offV p)) := hcells2
        have HR : Hid (∀ j p, ns1[j]? = some p → w9.cell? ⟨K1, j, none⟩ = some (.int .u8 p.1) ∧ w9.cell? ⟨O1, j, none⟩ = some (.int .i64 p.2)) := rr
        clear hcells2 rr hcut hcut2 gL1 gL2 gL3 hB9 r1 hBw
        go_wp2_with fail
        go_loopw [26] (fun i wr => ∃ j nq : Nat, j ≤ m1 ∧ i = .int .i64 j ∧ wr = w9.drewN nq) (fun i _ => m1 - (intOf i).toNat)
        case atStart => exact ⟨0, 0, by omega, rfl, rfl⟩
        case round =>
          obtain ⟨j, nq, hj, rfl, rfl⟩ := hrel
          by_cases hlt : j < m1
          · obtain ⟨p, hp⟩ : ∃ p, ns1[j]? = some p := ⟨ns1[j]'(by have := HM.out.1; omega), List.getElem?_eq_getElem _⟩
            obtain ⟨kk, oo⟩ := p
            obtain ⟨c1, c2⟩ : w9.cell? ⟨K1, j, none⟩ = some (.int .u8 kk) ∧ w9.cell? ⟨O1, j, none⟩ = some (.int .i64 oo) := HR.out j _ hp
            obtain ⟨c3, c4⟩ : w9.cell? ⟨kg, j, none⟩ = some (.int .u8 kk) ∧ w9.cell? ⟨og, j, none⟩ = some (.int .i64 oo) := HC.out j _ hp
            have e1 : (kk != kk) = false := by simp
            have e2 : (oo != oo) = false := by simp
            have hj0 : (0 : Int) ≤ (j : Int) := by omega
            have hj1 : (j : Int) < (m1 : Int) := by omega
            clear hp hL1 hL2 hL3
            go_wp2_with fail
            go_quiet (fail)
            go_wp2
            go_roundw
            case rel => exact ⟨j + 1, _, by omega, by go_num, rfl⟩
            case measure => simp [intOf]; omega
          · have hfin : Below w.heap.size w (w9.drewN nq) := ⟨hBf.os, hBf.tape, hBf.output, hBf.size, hBf.block⟩
            have k1 := shortEnd_any _ w.heap.size w.heap.size ns1 se1 (hL1 nq)
            have k2 := shortEnd_any _ w1.heap.size w1.heap.size ns2 se2 (hL2 nq)
            have k3 := shortEnd_any _ w2.heap.size w2.heap.size ns3 se3 (hL3 nq)
            clear hL1 hL2 hL3
            by_cases hkn : k < n
            · have hse := HS.out.1 hkn
              go_wp2_with fail
              refine k2.mono ?_
              rintro e w' ⟨rfl, hw'⟩
              subst w'
              go_wp2_with fail
              refine k3.mono ?_
              rintro e w' ⟨rfl, hw'⟩
              subst w'
              go_wp2_with fail
              refine k1.mono ?_
              rintro e w' ⟨rfl, hw'⟩
              subst w'
              go_wp2
              go_ret
              exact ⟨by simp, hfin⟩
            · have hse := HS.out.2 hkn
              have hd : decide ((k : Int) < (n : Int)) = false := by simp; omega
              go_wp2_with fail
              refine k2.mono ?_
              rintro e w' ⟨rfl, hw'⟩
              subst w'
              go_wp2_with fail
              refine k1.mono ?_
              rintro e w' ⟨rfl, hw'⟩
              subst w'
              go_wp2
              go_ret
              exact ⟨by simp, hfin⟩
end Go.Proofs.Qxb6616010a
