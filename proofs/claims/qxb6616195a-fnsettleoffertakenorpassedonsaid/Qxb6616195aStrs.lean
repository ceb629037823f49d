/- []string: sameStrings, slices.Index, slices.Contains; cloneBusy of whatever. -/
import Derived.Test.Qxb6616195aClone2
namespace Go.Proofs.Qxb6616195a
open Go.RowKit

set_option maxHeartbeats 400000 in
theorem cloneBusy_nil (w : World) (n c : Nat) : Calls Try.prog 8 #[.slice none n c] w fun e w' => e = .returned (.slice none 0 0) ∧ w' = w := by
  have hnil := fun w' => Go.Lib.run_eql_slice_nil (P := Try.prog) w' 22 49 none n c 0 0 Try.underlying22
  go_enter Try.func8, Try.ntmps8
  go_wp2
  go_ret
  exact ⟨rfl, rfl⟩

theorem cloneBusy_any (w : World) {S : Nat → Prop} (A : List Bz) (v : Value) (h : BUSY w S v A) (hlen : A.length ≤ 4096) (hks : ∀ p ∈ A, p.1.length ≤ 1048576) :
    Calls Try.prog 8 #[v] w fun e w' => ∃ v, e = .returned v ∧ BUSY w' (ro w') v A ∧ Below w.heap.size w w' := by
  obtain ⟨a, c, b, o, rfl, ha, hc⟩ := h
  cases a with
  | none =>
    refine (cloneBusy_nil w _ c).mono ?_
    rintro e w' ⟨rfl, rfl⟩
    have hl : A = [] := by
      rcases Nat.eq_zero_or_pos A.length with h | h
      · exact List.eq_nil_of_length_eq_zero h
      · cases (ha h).1
    subst hl
    exact ⟨_, rfl, ⟨none, 0, 0, 0, rfl, fun h => absurd h (by simp), fun j x hx => by simp at hx⟩, Below.refl _ _⟩
  | some ad =>
    exact cloneBusy_walk w A ad c b o _ rfl (fun h => ⟨Option.some.inj (ha h).1, (ha h).2.2⟩) hc hlen hks

abbrev Ky := List UInt8
def SCELLS (w : World) (b o : Nat) (ks : List Ky) : Prop := ∀ j k, ks[j]? = some k → w.cell? ⟨b, o + j, none⟩ = some (.string ⟨k.toArray⟩)
/-- v is a []string that reads as ks, in a block of strings. -/
def SROW (w : World) (v : Value) (ks : List Ky) : Prop := ∃ a c b o, v = .slice a ks.length c ∧ (0 < ks.length → a = some ⟨b, o, none⟩ ∧ ty 9 w b) ∧ SCELLS w b o ks
theorem SROW.keep {w w' : World} {v : Value} {ks : List Ky} (h : SROW w v ks) (hk : ∀ b, ty 9 w b → w'.heap[b]? = w.heap[b]?) : SROW w' v ks := by
  obtain ⟨a, c, b, o, e, ha, hc⟩ := h
  refine ⟨a, c, b, o, e, fun hp => ⟨(ha hp).1, ?_⟩, fun j k hj => ?_⟩
  · have := hk b (ha hp).2
    obtain ⟨C, m, g⟩ := (ha hp).2
    exact ⟨C, m, this.trans g⟩
  · have hp : 0 < ks.length := by have := (List.getElem?_eq_some_iff.1 hj).1; omega
    exact (World.cell?_of_block (w := w) (hk b (ha hp).2)).trans (hc j k hj)
theorem SROW.rok {w w' : World} {v : Value} {ks : List Ky} (h : SROW w v ks) (k : RoK w w') : SROW w' v ks := h.keep fun b hb => k.2 b (by obtain ⟨C, m, g⟩ := hb; exact ⟨C, 9, m, g, .inr (.inl rfl)⟩)
theorem SROW.nil (w : World) (a : Option Addr) (c : Nat) : SROW w (.slice a 0 c) [] := ⟨a, c, 0, 0, rfl, fun h => absurd h (by simp), fun j k hj => by simp at hj⟩
def sv (k : Ky) : Value := .string ⟨k.toArray⟩
theorem owns_srow {w : World} {base n : Nat} {v : Value} {ks : List Ky} (hn : n = ks.length) (h : w.ownsRow base 9 1 v n (ks.map sv)) : SROW w v ks := by
  rcases h.2 with ⟨rfl, h0⟩ | ⟨g, cap, cur, rfl, hb, hg, hnc, hcm, hcs, htake⟩
  · obtain rfl : ks = [] := List.eq_nil_of_length_eq_zero (by omega)
    exact SROW.nil w _ _
  · subst hn
    refine ⟨_, _, g, 0, rfl, fun _ => ⟨rfl, cur, _, hg⟩, fun j k hj => ?_⟩
    have := (List.getElem?_eq_some_iff.1 hj).1
    rw [Nat.zero_add, h.cellAt j (by omega), List.getElem?_map, hj]; rfl

set_option maxHeartbeats 400000 in
theorem index_walk (w : World) (ks : List Ky) (m : Ky) (a : Option Addr) (c b o n : Nat) (hn : n = ks.length) (ha : 0 < n → a = some ⟨b, o, none⟩) (hc : SCELLS w b o ks) (hlen : n ≤ 1048576) :
    Calls Try.prog 45 #[.slice a n c, .string ⟨m.toArray⟩] w fun e w' => (∃ r : Int, e = .returned (.int .i64 r) ∧ (0 ≤ r ↔ m ∈ ks)) ∧ w' = w := by
  have HN : Hid (n = ks.length) := hn
  have HA : Hid (0 < n → a = some ⟨b, o, none⟩) := ha
  have HC : Hid (SCELLS w b o ks) := hc
  clear hn ha hc
  obtain ⟨ms, hms⟩ : ∃ ms : ByteArray, ms = ⟨m.toArray⟩ := ⟨_, rfl⟩
  rw [← hms]
  have HM : Hid (ms = ⟨m.toArray⟩) := hms
  clear hms
  go_enter Try.func45, Try.ntmps45
  go_wp2_with fail
  go_loop [8] (fun x => ∃ j : Nat, j ≤ n ∧ x = .int .i64 j ∧ m ∉ ks.take j) (fun x => n - (intOf x).toNat)
  case atStart => exact ⟨0, by omega, rfl, by simp⟩
  case round =>
    obtain ⟨j, hj, rfl, hall⟩ := hrel
    by_cases hlt : j < n
    · obtain rfl := HA.out (by omega)
      have hp : ks[j]? = some (ks[j]'(by have := HN.out; omega)) := List.getElem?_eq_getElem _
      obtain ⟨k, hke⟩ : ∃ k, k = ks[j]'(by have := HN.out; omega) := ⟨_, rfl⟩
      rw [← hke] at hp
      have d := HC.out j k hp
      obtain ⟨ks', hks⟩ : ∃ ks' : ByteArray, ks' = ⟨k.toArray⟩ := ⟨_, rfl⟩
      rw [← hks] at d
      have hq : (ms.toList == ks'.toList) = decide (m = k) := by rw [hks, HM.out]; exact beq_str m k
      by_cases hz : m = k
      · have HR : Hid (m ∈ ks) := by rw [hz]; exact List.mem_of_getElem? hp
        rw [decide_eq_true hz] at hq
        clear hp hall hks hz hke
        go_wp2
        go_ret
        exact ⟨⟨_, rfl, ⟨fun _ => HR.out, fun _ => by omega⟩⟩, rfl⟩
      · have HS : Hid (m ∉ ks.take (j + 1)) := by
          obtain ⟨hjl, hje⟩ := List.getElem?_eq_some_iff.1 hp
          rw [List.take_succ_eq_append_getElem hjl, List.mem_append, hje]
          intro h
          rcases h with h | h
          · exact hall h
          · simp at h; exact hz h
        rw [decide_eq_false hz] at hq
        clear hp hall hks hz hke
        go_wp2
        go_round
        case rel => exact ⟨j + 1, by omega, by go_num, HS.out⟩
        case measure => simp [intOf]; omega
    · rw [List.take_of_length_le (by have := HN.out; omega)] at hall
      have HR : Hid (m ∉ ks) := hall
      clear hall
      go_wp2
      go_ret
      exact ⟨⟨_, rfl, ⟨fun h => absurd h (by omega), fun h => absurd h HR.out⟩⟩, rfl⟩

set_option maxHeartbeats 400000 in
theorem contains_any (w : World) (ks : List Ky) (m : Ky) (v : Value) (h : SROW w v ks) (hlen : ks.length ≤ 1048576) :
    Calls Try.prog 38 #[v, .string ⟨m.toArray⟩] w fun e w' => e = .returned (.bool (decide (m ∈ ks))) ∧ w' = w := by
  obtain ⟨a, c, b, o, rfl, ha, hc⟩ := h
  have k := index_walk w ks m a c b o _ rfl (fun h => (ha h).1) hc hlen
  clear ha hc
  obtain ⟨ms, hms⟩ : ∃ ms : ByteArray, ms = ⟨m.toArray⟩ := ⟨_, rfl⟩
  rw [← hms] at k ⊢
  clear hms
  go_enter Try.func38, Try.ntmps38
  go_wp2_with (first
    | (go_at_call 45; refine k.mono ?_; rintro e w' ⟨⟨r, rfl, hr⟩, rfl⟩))
  go_ret
  exact ⟨ret_bool (by simp), rfl⟩

def SameR (l m : List Ky) (e : Ending) : Prop := e = .returned (.bool (decide (l = m)))
set_option maxHeartbeats 400000 in
theorem sameStrs_walk (w : World) (l m : List Ky) (a1 a2 : Option Addr) (c1 c2 b1 o1 b2 o2 p q : Nat) (hp : p = l.length) (hq : q = m.length) (ha1 : 0 < p → a1 = some ⟨b1, o1, none⟩) (ha2 : 0 < q → a2 = some ⟨b2, o2, none⟩)
    (hc1 : SCELLS w b1 o1 l) (hc2 : SCELLS w b2 o2 m) (hl : p ≤ 1048576) (hm : q ≤ 1048576) :
    Calls Try.prog 14 #[.slice a1 p c1, .slice a2 q c2] w fun e w' => SameR l m e ∧ ∃ n, w' = w.drewN n := by
  have HP : Hid (p = l.length) := hp
  have HQ : Hid (q = m.length) := hq
  have HA1 : Hid (0 < p → a1 = some ⟨b1, o1, none⟩) := ha1
  have HA2 : Hid (0 < q → a2 = some ⟨b2, o2, none⟩) := ha2
  have HC1 : Hid (SCELLS w b1 o1 l) := hc1
  have HC2 : Hid (SCELLS w b2 o2 m) := hc2
  clear hp hq ha1 ha2 hc1 hc2
  by_cases hpq : p = q
  · subst hpq
    go_enter Try.func14, Try.ntmps14
    go_wp2_with fail
    go_loopw [13] (fun x wr => ∃ i : Nat, i ≤ p ∧ x = .int .i64 i ∧ l.take i = m.take i ∧ ∃ n, wr = w.drewN n) (fun x _ => p - (intOf x).toNat)
    case atStart => exact ⟨0, by omega, rfl, rfl, 0, rfl⟩
    case round =>
      obtain ⟨i, hi, rfl, ht, nn, rfl⟩ := hrel
      by_cases hlt2 : i < p
      · obtain rfl := HA1.out (by omega)
        obtain rfl := HA2.out (by omega)
        have e1 : l[i]? = some (l[i]'(by have := HP.out; omega)) := List.getElem?_eq_getElem _
        have e2 : m[i]? = some (m[i]'(by have := HQ.out; omega)) := List.getElem?_eq_getElem _
        obtain ⟨x, hx⟩ : ∃ x, x = l[i]'(by have := HP.out; omega) := ⟨_, rfl⟩
        obtain ⟨y, hy⟩ : ∃ y, y = m[i]'(by have := HQ.out; omega) := ⟨_, rfl⟩
        rw [← hx] at e1
        rw [← hy] at e2
        have d1 := HC1.out i x e1
        have d2 := HC2.out i y e2
        obtain ⟨xs, hxs⟩ : ∃ xs : ByteArray, xs = ⟨x.toArray⟩ := ⟨_, rfl⟩
        obtain ⟨ys, hys⟩ : ∃ ys : ByteArray, ys = ⟨y.toArray⟩ := ⟨_, rfl⟩
        rw [← hxs] at d1
        rw [← hys] at d2
        have hb : (xs.toList == ys.toList) = decide (x = y) := by rw [hxs, hys]; exact beq_str x y
        by_cases hxy : x = y
        · have HT : Hid (l.take (i + 1) = m.take (i + 1)) := by
            obtain ⟨h1, g1⟩ := List.getElem?_eq_some_iff.1 e1
            obtain ⟨h2, g2⟩ := List.getElem?_eq_some_iff.1 e2
            show _ = _
            rw [List.take_succ_eq_append_getElem h1, List.take_succ_eq_append_getElem h2, ht, g1, g2, hxy]
          rw [decide_eq_true hxy] at hb
          clear e1 e2 hx hy hxs hys hxy ht
          go_wp2
          go_quiet (fail)
          go_wp2
          go_roundw
          case rel => exact ⟨i + 1, by omega, by go_num, HT.out, _, rfl⟩
          case measure => simp [intOf]; omega
        · have HN : Hid (l ≠ m) := by
            intro e
            subst e
            rw [e1] at e2
            exact hxy (Option.some.inj e2)
          rw [decide_eq_false hxy] at hb
          clear e1 e2 hx hy hxs hys hxy ht
          go_wp2
          go_quiet (fail)
          go_wp2
          go_ret
          exact ⟨ret_bool (by rw [decide_eq_false HN.out]), _, drew2 _ _ _⟩
      · rw [List.take_of_length_le (by have := HP.out; omega), List.take_of_length_le (by have := HQ.out; omega)] at ht
        have HE : Hid (l = m) := ht
        clear ht
        go_wp2
        go_ret
        exact ⟨ret_bool (by rw [decide_eq_true HE.out]), _, rfl⟩
  · have HN : Hid (l ≠ m) := by
      intro e
      subst e
      exact hpq (HP.out.trans HQ.out.symm)
    go_enter Try.func14, Try.ntmps14
    go_wp2
    go_ret
    exact ⟨ret_bool (by rw [decide_eq_false HN.out]), 0, rfl⟩

theorem sameStrs_any (w : World) (l m : List Ky) (v1 v2 : Value) (h1 : SROW w v1 l) (h2 : SROW w v2 m) (hl : l.length ≤ 1048576) (hm : m.length ≤ 1048576) :
    Calls Try.prog 14 #[v1, v2] w fun e w' => e = .returned (.bool (decide (l = m))) ∧ ∃ n, w' = w.drewN n := by
  obtain ⟨a1, c1, b1, o1, rfl, ha1, hc1⟩ := h1
  obtain ⟨a2, c2, b2, o2, rfl, ha2, hc2⟩ := h2
  exact sameStrs_walk w l m a1 a2 c1 c2 b1 o1 b2 o2 _ _ rfl rfl (fun h => (ha1 h).1) (fun h => (ha2 h).1) hc1 hc2 hl hm
end Go.Proofs.Qxb6616195a
