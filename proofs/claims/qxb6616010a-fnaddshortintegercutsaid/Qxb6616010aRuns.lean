/- FnAddShortIntegerRuns: the walk. -/
import Derived.Test.Qxb6616010aModel
import Derived.Test.Qxb6616010aChecks
namespace Go.Proofs.Qxb6616010a
open Go.RowKit

theorem RM.shape {w wr : World} {kv ov : Value} {L : List (Int × Int)} (h : RM w wr kv ov L) : ∃ ka kg kc oa og oc, kv = .slice ka L.length kc ∧ ov = .slice oa L.length oc ∧ (0 < L.length → ka = some ⟨kg, 0, none⟩ ∧ oa = some ⟨og, 0, none⟩ ∧ ∀ j p, L[j]? = some p → wr.cell? ⟨kg, j, none⟩ = some (kindV p) ∧ wr.cell? ⟨og, j, none⟩ = some (offV p)) := by
  obtain ⟨h1, h2, _⟩ := h
  have e1 : ∃ ka kg kc, kv = .slice ka L.length kc ∧ (0 < L.length → ka = some ⟨kg, 0, none⟩ ∧ ∀ j p, L[j]? = some p → wr.cell? ⟨kg, j, none⟩ = some (kindV p)) := by
    rcases h1.2 with ⟨rfl, h0⟩ | ⟨g, cap, cur, rfl, _⟩
    · exact ⟨none, 0, 0, by rw [h0], fun h => absurd h (by omega)⟩
    · refine ⟨_, g, cap, rfl, fun _ => ⟨rfl, fun j p hp => ?_⟩⟩
      obtain ⟨hj, _⟩ := List.getElem?_eq_some_iff.1 hp
      rw [h1.cellAt j (by omega)]; simp [hp]
  have e2 : ∃ ka kg kc, ov = .slice ka L.length kc ∧ (0 < L.length → ka = some ⟨kg, 0, none⟩ ∧ ∀ j p, L[j]? = some p → wr.cell? ⟨kg, j, none⟩ = some (offV p)) := by
    rcases h2.2 with ⟨rfl, h0⟩ | ⟨g, cap, cur, rfl, _⟩
    · exact ⟨none, 0, 0, by rw [h0], fun h => absurd h (by omega)⟩
    · refine ⟨_, g, cap, rfl, fun _ => ⟨rfl, fun j p hp => ?_⟩⟩
      obtain ⟨hj, _⟩ := List.getElem?_eq_some_iff.1 hp
      rw [h2.cellAt j (by omega)]; simp [hp]
  obtain ⟨ka, kg, kc, rfl, hk⟩ := e1
  obtain ⟨oa, og, oc, rfl, ho⟩ := e2
  exact ⟨ka, kg, kc, oa, og, oc, rfl, rfl, fun h => ⟨(hk h).1, (ho h).1, fun j p hp => ⟨(hk h).2 j p hp, (ho h).2 j p hp⟩⟩⟩

theorem SPN.below {w w' : World} {b o B : Nat} {zs : List (Int × Int)} (h : SPN w b o zs) (hb : Below B w w') (hB : b < B) : SPN w' b o zs := fun j p hp => by
  obtain ⟨h1, h2⟩ := h j p hp
  exact ⟨(hb.cell (p := ⟨b, o + j * 2, none⟩) hB).trans h1, (hb.cell (p := ⟨b, o + j * 2 + 1, none⟩) hB).trans h2⟩

theorem F_pos (zs : List (Int × Int)) (hz : ∀ p ∈ zs, spOk p) (n : Nat) (h : n ≤ zs.length) (hp : 0 < n) : 0 < (F zs n).1.length := by
  obtain ⟨m, rfl⟩ : ∃ m, n = m + 1 := ⟨n - 1, by omega⟩
  rw [F_succ zs m _ (g12 zs m (by omega))]
  have hg := (F_good zs hz m).1
  show 0 < (stp ((F zs m).1, (F zs m).2) (g1 zs m, g2 zs m)).1.length
  rcases stp_cases (F zs m).1 (F zs m).2 (g1 zs m) (g2 zs m) hg with hj | ⟨hj, i, o, hi, hl | hl⟩
  · rw [stp_new _ _ _ _ hj]; simp
  · rw [stp_two _ _ _ _ o i hj hi hl]; simp
  · rw [stp_ext _ _ _ _ o i hj hi hl]; simp [hi]

theorem owns_cells {w w' : World} {B B' e g n c : Nat} {xs : List Value} (h : w.ownsRow B e 1 (.slice (some ⟨g, 0, none⟩) n c) n xs) (hb : Below B' w w') (hB : w.heap.size ≤ B') : ∀ j v, xs[j]? = some v → w'.cell? ⟨g, j, none⟩ = some v := by
  intro j v hv
  have hl := h.1
  obtain ⟨hj, _⟩ := List.getElem?_eq_some_iff.1 hv
  have hg := (h.lt g rfl).2
  rw [hb.cell (p := ⟨g, j, none⟩) (by show g < B'; omega), h.cellAt j (by omega), hv]

set_option maxHeartbeats 1000000 in
theorem runs_main (w : World) (zs : List (Int × Int)) (b o c n : Nat) (hb : b < w.heap.size) (hn : n = zs.length) (hsp : SPN w b o zs) (hz : ∀ p ∈ zs, spOk p) (hlen : n ≤ 32768) (hpos : 0 < n) (hall : zs.all spB = true) (hw : ∀ p ∈ zs, wide p) :
    Calls Try.prog 5 #[.slice (some ⟨b, o, none⟩) n c] w fun e w' => e = .returned (.bool true) ∧ Below w.heap.size w w' := by
  have k12 := bytes5 w (some ⟨b, o, none⟩) n c (by omega)
  rw [decide_eq_true (show n ≤ 1048576 by omega)] at k12
  have k13 := spansOK_any w zs (some ⟨b, o, none⟩) b o c n (fun _ => rfl) hn hsp hw (by omega)
  rw [hall] at k13
  have k14 := runScript_any w zs (some ⟨b, o, none⟩) b o c n (fun _ => ⟨rfl, hb⟩) hn hsp hz (by omega)
  obtain ⟨ns, hns⟩ : ∃ ns, ns = (F zs n).1 := ⟨_, rfl⟩
  obtain ⟨m, hm⟩ : ∃ m, m = ns.length := ⟨_, rfl⟩
  have hse := F_snd zs hz n hn
  rw [if_pos hpos] at hse
  have hm2 : m ≤ n := by rw [hm, hns]; exact (F_good zs hz n).2
  rw [← hns, hse] at k14
  have hlast := hsp (n - 1) _ (g12 zs (n - 1) (by omega))
  have HN : Hid (n = zs.length) := hn
  have HNS : Hid (ns = (F zs n).1) := hns
  have HM : Hid (m = ns.length) := hm
  have hmpos : 0 < m := by rw [hm, hns]; exact F_pos zs hz n (by omega) hpos
  have hd32 : decide ((32768 : Int) < (n : Int)) = false := by simp; omega
  clear hn hns hm hse hall
  go_enter Try.func5, Try.ntmps5
  go_wp2_with (first
    | (go_at_call 12; refine k12.mono ?_; rintro e w' ⟨rfl, hw'⟩; subst w')
    | (go_at_call 13; refine k13.mono ?_; rintro e w' ⟨rfl, hw'⟩; subst w')
    | (go_at_call 14; refine k14.mono ?_; rintro e w1 ⟨rfl, hL1, hB1⟩)
    | (go_at_call 15; refine (nodes_any w1 w.heap.size w.heap.size ns (g2 zs (n - 1)) m HM.out hL1 (by omega)).mono ?_; rintro e w2 ⟨K, O, rfl, hK, hO, hB2⟩; have hL2 := hL1.below (Nat.le_refl _) hB2; have hb2 : b < w2.heap.size := by have := hB1.size; have := hB2.size; omega)
    | (go_at_call 16; refine (runsModel_any w2 zs (some ⟨b, o, none⟩) b o c n (fun _ => ⟨rfl, hb2⟩) HN.out ((hsp.below hB1 hb).below hB2 (by have := hB1.size; omega)) hz (by omega)).mono ?_; rintro e w3 ⟨kv, ov, rfl, hRM⟩; rw [← HNS.out] at hRM; obtain ⟨ka, kg, kc, oa, og, oc, rfl, rfl, hcells⟩ := hRM.shape; rw [← HM.out] at hcells ⊢; obtain ⟨rfl, rfl, hcells2⟩ := hcells hmpos; clear hcells; have hB3 := hRM.2.2; have hKc := owns_cells hK hB3 (Nat.le_refl _); have hOc := owns_cells hO hB3 (Nat.le_refl _); have hL3 := hL2.below (Nat.le_refl _) hB3; have hBt : Below w.heap.size w w3 := (hB1.trans (hB2.mono hB1.size)).trans (hB3.mono (by have := hB1.size; have := hB2.size; omega))))
  clear k12 k13 k14 hRM hK hO hB3 hL1 hL2 hB1 hB2
  have hl2 : w3.cell? ⟨b, o + (n - 1) * 2 + 1, none⟩ = some (.int .i64 (g2 zs (n - 1))) := (hBt.cell (p := ⟨b, o + (n - 1) * 2 + 1, none⟩) hb).trans hlast.2
  have hLd := hL3.drewN
  clear hlast
  go_loopw [8] (fun i wr => ∃ j nq : Nat, j ≤ m ∧ i = .int .i64 j ∧ wr = w3.drewN nq) (fun i _ => m - (intOf i).toNat)
  case atStart => exact ⟨0, 0, by omega, rfl, rfl⟩
  case round =>
    obtain ⟨j, nq, hj, rfl, rfl⟩ := hrel
    by_cases hlt : j < m
    · obtain ⟨p, hp⟩ : ∃ p, ns[j]? = some p := ⟨ns[j]'(by have := HM.out; omega), List.getElem?_eq_getElem _⟩
      obtain ⟨k, oo⟩ := p
      have c1 : w3.cell? ⟨K, j, none⟩ = some (.int .u8 k) := hKc j _ (by simp [hp, kindV])
      have c2 : w3.cell? ⟨O, j, none⟩ = some (.int .i64 oo) := hOc j _ (by simp [hp, offV])
      obtain ⟨c3, c4⟩ : w3.cell? ⟨kg, j, none⟩ = some (.int .u8 k) ∧ w3.cell? ⟨og, j, none⟩ = some (.int .i64 oo) := hcells2 j _ hp
      have e1 : (k != k) = false := by simp
      have e2 : (oo != oo) = false := by simp
      have hj0 : (0 : Int) ≤ (j : Int) := by omega
      have hj1 : (j : Int) < (m : Int) := by omega
      clear hp hKc hOc hcells2
      go_wp2_with fail
      go_quiet (fail)
      go_wp2
      go_roundw
      case rel => exact ⟨j + 1, _, by omega, by go_num, rfl⟩
      case measure => simp [intOf]; omega
    · go_wp2_with (go_at_call 17; refine (shortEnd_any _ w.heap.size w.heap.size ns (g2 zs (n - 1)) (hLd _)).mono ?_; rintro e w' ⟨rfl, hw'⟩; subst w')
      go_ret
      exact ⟨by simp, ⟨hBt.os, hBt.tape, hBt.output, hBt.size, hBt.block⟩⟩
set_option maxHeartbeats 1000000 in
theorem runs_nil (w : World) (ao : Option Addr) (c : Nat) :
    Calls Try.prog 5 #[.slice ao 0 c] w fun e w' => e = .returned (.bool true) ∧ Below w.heap.size w w' := by
  have k12 := bytes5 w ao 0 c (by omega)
  rw [decide_eq_true (show 0 ≤ 1048576 by omega)] at k12
  have k13 := spansOK_nil w ao c
  have k14 := runScript_nil w ao c
  go_enter Try.func5, Try.ntmps5
  go_wp2_with (first
    | (go_at_call 12; refine k12.mono ?_; rintro e w' ⟨rfl, hw'⟩; subst w')
    | (go_at_call 13; refine k13.mono ?_; rintro e w' ⟨rfl, hw'⟩; subst w')
    | (go_at_call 14; refine k14.mono ?_; rintro e w1 ⟨rfl, hL1, hB1⟩)
    | (go_at_call 15; refine (nodes_any w1 w.heap.size w.heap.size [] 0 0 rfl hL1 (by omega)).mono ?_; rintro e w2 ⟨K, O, rfl, hK, hO, hB2⟩; have hL2 := hL1.below (Nat.le_refl _) hB2)
    | (go_at_call 16; refine (runsModel_nil w2 ao c).mono ?_; rintro e w3 ⟨kv, ov, rfl, hRM⟩; obtain ⟨ka, kg, kc, oa, og, oc, rfl, rfl, hcells⟩ := hRM.shape; have hB3 := hRM.2.2; have hL3 := hL2.below (Nat.le_refl _) hB3; have hBt : Below w.heap.size w w3 := (hB1.trans (hB2.mono hB1.size)).trans (hB3.mono (by have := hB1.size; have := hB2.size; omega)); clear hcells))
  clear k12 k13 k14 hRM hK hO hB3 hL1 hL2 hB1 hB2
  go_loopw [8] (fun i wr => i = .int .i64 0 ∧ wr = w3) (fun _ _ => 0)
  case atStart => exact ⟨rfl, rfl⟩
  case round =>
    obtain ⟨rfl, rfl⟩ := hrel
    go_wp2_with (go_at_call 17; refine (shortEnd_any _ w.heap.size w.heap.size [] 0 hL3).mono ?_; rintro e w' ⟨rfl, hw'⟩; subst w')
    go_ret
    exact ⟨by simp, hBt⟩

set_option maxHeartbeats 1000000 in
theorem runs_bad (w : World) (zs : List (Int × Int)) (ao : Option Addr) (b o c n : Nat) (hao : 0 < n → ao = some ⟨b, o, none⟩) (hn : n = zs.length) (hsp : SPN w b o zs) (hlen : n ≤ 32768) (hall : zs.all spB = false) (hw : ∀ p ∈ zs, wide p) :
    Calls Try.prog 5 #[.slice ao n c] w fun e w' => e = .returned (.bool true) ∧ Below w.heap.size w w' := by
  have k12 := bytes5 w ao n c (by omega)
  rw [decide_eq_true (show n ≤ 1048576 by omega)] at k12
  have k13 := spansOK_any w zs ao b o c n hao hn hsp hw (by omega)
  rw [hall] at k13
  have hd32 : decide ((32768 : Int) < (n : Int)) = false := by simp; omega
  clear hn hall
  go_enter Try.func5, Try.ntmps5
  go_wp2_with (first
    | (go_at_call 12; refine k12.mono ?_; rintro e w' ⟨rfl, hw'⟩; subst w')
    | (go_at_call 13; refine k13.mono ?_; rintro e w' ⟨rfl, hw'⟩; subst w'))
  go_ret
  exact ⟨rfl, Below.refl _ _⟩

set_option maxHeartbeats 1000000 in
theorem runs_long (w : World) (ao : Option Addr) (c n : Nat) (hlen : 32768 < n) (hmax : n ≤ 9223372036854775807) :
    Calls Try.prog 5 #[.slice ao n c] w fun e w' => e = .returned (.bool true) ∧ Below w.heap.size w w' := by
  have k12 := bytes5 w ao n c hmax
  have hd32 : decide ((32768 : Int) < (n : Int)) = true := by simp; omega
  by_cases h : n ≤ 1048576
  · rw [decide_eq_true h] at k12
    go_enter Try.func5, Try.ntmps5
    go_wp2_with (first
      | (go_at_call 12; refine k12.mono ?_; rintro e w' ⟨rfl, hw'⟩; subst w'))
    go_ret
    exact ⟨rfl, Below.refl _ _⟩
  · rw [decide_eq_false h] at k12
    go_enter Try.func5, Try.ntmps5
    go_wp2_with (first
      | (go_at_call 12; refine k12.mono ?_; rintro e w' ⟨rfl, hw'⟩; subst w'))
    go_ret
    exact ⟨rfl, Below.refl _ _⟩

theorem runs_law (w : World) (zs : List (Int × Int)) (ao : Option Addr) (b o c n : Nat) (hao : 0 < n → ao = some ⟨b, o, none⟩ ∧ b < w.heap.size) (hn : n = zs.length) (hsp : SPN w b o zs) (hw : ∀ p ∈ zs, wide p) (hmax : n ≤ 9223372036854775807) :
    Calls Try.prog 5 #[.slice ao n c] w fun e w' => e = .returned (.bool true) ∧ Below w.heap.size w w' := by
  by_cases h1 : 32768 < n
  · exact runs_long w ao c n h1 hmax
  · rcases Bool.eq_false_or_eq_true (zs.all spB) with h2 | h2
    · rcases Nat.eq_zero_or_pos n with h3 | h3
      · subst h3; exact runs_nil w ao c
      · obtain ⟨rfl, hb⟩ := hao h3
        exact runs_main w zs b o c n hb hn hsp (fun p hp => spB_ok p (List.all_eq_true.1 h2 p hp)) (by omega) h3 h2 hw
    · exact runs_bad w zs ao b o c n (fun h => (hao h).1) hn hsp (by omega) h2 hw

end Go.Proofs.Qxb6616010a
