/- busyBytes, distinctKeys. -/
import Derived.Test.Qxb6616195aReads
namespace Go.Proofs.Qxb6616195a
open Go.RowKit

def fits (A : List Bz) : Prop := A.length ≤ 4096 ∧ ∀ p ∈ A, p.1.length ≤ 1048576
def BytesR (A : List Bz) (e : Ending) : Prop := ∃ r : Int, e = .returned (.int .i64 r) ∧ 0 ≤ r ∧ r ≤ 3000000 ∧ (r ≤ 1048576 → fits A)

set_option maxHeartbeats 400000 in
theorem bytes_walk (w : World) {S : Nat → Prop} (A : List Bz) (t : Int) (a : Option Addr) (c b o n : Nat) (hn : n = A.length) (ha : 0 < n → a = some ⟨b, o, none⟩ ∧ b < w.heap.size) (hc : BCELLS w S b o A) (ht0 : 0 ≤ t) (ht1 : t ≤ 1048576) :
    Calls Try.prog 6 #[.int .i64 t, .slice a n c] w fun e w' => BytesR A e ∧ Below w.heap.size w w' := by
  have HN : Hid (n = A.length) := hn
  have HA : Hid (0 < n → a = some ⟨b, o, none⟩ ∧ b < w.heap.size) := ha
  have HC : Hid (BCELLS w S b o A) := hc
  clear hn ha hc
  by_cases hbig : 4096 < n
  · go_enter Try.func6, Try.ntmps6
    go_wp2
    go_ret
    exact ⟨⟨1048577, rfl, by omega, by omega, by omega⟩, Below.refl _ _⟩
  · go_enter Try.func6, Try.ntmps6
    go_wp2_with fail
    go_loopw [0, 12] (fun y x wr => ∃ (j : Nat) (z : Int), j ≤ n ∧ x = .int .i64 j ∧ y = .int .i64 z ∧ 0 ≤ z ∧ z ≤ 1048576 ∧ (∀ p ∈ A.take j, p.1.length ≤ 1048576) ∧ Below w.heap.size w wr) (fun _ x _ => n - (intOf x).toNat)
    case atStart => exact ⟨0, t, by omega, rfl, rfl, ht0, ht1, by simp, Below.refl _ _⟩
    case round =>
      obtain ⟨j, z, hj, rfl, rfl, hz0, hz1, hall, hB⟩ := hrel
      have HB : Hid (Below w.heap.size w wr) := hB
      clear hB
      by_cases hlt : j < n
      · obtain ⟨rfl, hb⟩ := HA.out (by omega)
        obtain ⟨k, zz, ka, kc, kb, ko, kl, hp, hkl, -, -, d1, d2⟩ := HC.out.at HN.out hlt hb HB.out
        by_cases hk : 1048576 < kl
        · clear hp hkl hall
          go_wp2
          go_ret
          exact ⟨⟨1048577, rfl, by omega, by omega, by omega⟩, HB.out.alloc HB.out.size _⟩
        · have HS : Hid (∀ p ∈ A.take (j + 1), p.1.length ≤ 1048576) := by
            obtain ⟨hjl, hje⟩ := List.getElem?_eq_some_iff.1 hp
            intro p hm
            rw [List.take_succ_eq_append_getElem hjl, List.mem_append] at hm
            rcases hm with hm | hm
            · exact hall p hm
            · simp at hm; rw [hm, hje]; simp only; omega
          clear hp hkl hall
          by_cases hb2 : 1048576 < z + (32 + (kl : Int))
          · go_wp2
            go_ret
            exact ⟨⟨_, rfl, by omega, by omega, by omega⟩, HB.out.alloc HB.out.size _⟩
          · go_wp2
            go_roundw
            case rel => exact ⟨j + 1, z + (32 + (kl : Int)), by omega, by go_num, by go_num, by omega, by omega, HS.out, HB.out.alloc HB.out.size _⟩
            case measure => simp [intOf]; omega
      · rw [List.take_of_length_le (by have := HN.out; omega)] at hall
        have HR : Hid (∀ p ∈ A, p.1.length ≤ 1048576) := hall
        clear hall
        go_wp2
        go_ret
        exact ⟨⟨_, rfl, hz0, by omega, fun _ => ⟨by have := HN.out; omega, HR.out⟩⟩, HB.out⟩

theorem bytes_any (w : World) {S : Nat → Prop} (A : List Bz) (t : Int) (v : Value) (h : BUSY w S v A) (ht0 : 0 ≤ t) (ht1 : t ≤ 1048576) :
    Calls Try.prog 6 #[.int .i64 t, v] w fun e w' => BytesR A e ∧ Below w.heap.size w w' := by
  obtain ⟨a, c, b, o, rfl, ha, hc⟩ := h
  exact bytes_walk w A t a c b o _ rfl (fun h => ⟨(ha h).1, (ha h).2.2⟩) hc ht0 ht1

/-- the keys at places below i are all different -/
def dis (A : List Bz) (i : Nat) : Prop := ∀ s t, s < t → t < i → ∀ p q, A[s]? = some p → A[t]? = some q → p.1 ≠ q.1
theorem dis_nodup {A : List Bz} (h : dis A A.length) : (A.map (·.1)).Nodup := by
  rw [List.nodup_iff_pairwise_ne, List.pairwise_iff_getElem]
  intro s t hs ht hst
  simp at hs ht ⊢
  exact h s t hst ht _ _ (List.getElem?_eq_getElem hs) (List.getElem?_eq_getElem ht)

set_option maxHeartbeats 400000 in
theorem distinct_walk (w : World) {S : Nat → Prop} (A : List Bz) (a : Option Addr) (c b o n : Nat) (hn : n = A.length) (ha : 0 < n → a = some ⟨b, o, none⟩ ∧ b < w.heap.size) (hc : BCELLS w S b o A) (hf : fits A) :
    Calls Try.prog 7 #[.slice a n c] w fun e w' => (∃ r, e = .returned (.bool r) ∧ (r = true → (A.map (·.1)).Nodup)) ∧ ∃ n, w' = w.drewN n := by
  have HN : Hid (n = A.length) := hn
  have HA : Hid (0 < n → a = some ⟨b, o, none⟩ ∧ b < w.heap.size) := ha
  have HC : Hid (BCELLS w S b o A) := hc
  have HF : Hid (fits A) := hf
  have hle : n ≤ 4096 := by rw [hn]; exact hf.1
  clear hn ha hc hf
  go_enter Try.func7, Try.ntmps7
  go_wp2_with fail
  go_loopw [7] (fun x wr => ∃ j : Nat, j ≤ n ∧ x = .int .i64 j ∧ dis A j ∧ ∃ n, wr = w.drewN n) (fun x _ => n - (intOf x).toNat)
  case atStart => exact ⟨0, by omega, rfl, fun s t _ ht => absurd ht (by omega), 0, rfl⟩
  case round =>
    obtain ⟨j, hj, rfl, hd, nn, rfl⟩ := hrel
    have HD : Hid (dis A j) := hd
    clear hd
    by_cases hlt : j < n
    · obtain ⟨rfl, hb⟩ := HA.out (by omega)
      go_wp2_with fail
      go_loopw [4] (fun x wr => ∃ i : Nat, i ≤ j ∧ x = .int .i64 i ∧ (∀ s p q, s < i → A[s]? = some p → A[j]? = some q → p.1 ≠ q.1) ∧ ∃ n, wr = w.drewN n) (fun x _ => j - (intOf x).toNat)
      case atStart => exact ⟨0, by omega, rfl, fun s _ _ hs => absurd hs (by omega), nn, rfl⟩
      case round =>
        obtain ⟨i, hi, rfl, hdi, n2, rfl⟩ := hrel
        have HI : Hid (∀ s p q, s < i → A[s]? = some p → A[j]? = some q → p.1 ≠ q.1) := hdi
        clear hdi
        by_cases hij : i < j
        · have hp1 : ∃ p, A[i]? = some p := ⟨_, List.getElem?_eq_getElem (by have := HN.out; omega)⟩
          have hp2 : ∃ p, A[j]? = some p := ⟨_, List.getElem?_eq_getElem (by have := HN.out; omega)⟩
          obtain ⟨p1, e1⟩ := hp1
          obtain ⟨p2, e2⟩ := hp2
          obtain ⟨v1, c1, k1, -⟩ := HC.out i p1 e1
          obtain ⟨v2, c2, k2, -⟩ := HC.out j p2 e2
          have hs : ∀ n', Calls Try.prog 25 #[v2, v1] (w.drewN (n2 + n')) fun e w' => e = .returned (.bool (decide (p2.1 = p1.1))) ∧ ∃ n, w' = w.drewN (n2 + n) := fun n' =>
            (same_any (w.drewN (n2 + n')) p2.1 p1.1 v2 v1 (k2.below ⟨rfl, rfl, rfl, Nat.le_refl _, fun _ _ => rfl⟩) (k1.below ⟨rfl, rfl, rfl, Nat.le_refl _, fun _ _ => rfl⟩) (HF.out.2 p2 (List.mem_of_getElem? e2)) (HF.out.2 p1 (List.mem_of_getElem? e1))).mono fun _ _ ⟨he, m, hm⟩ => ⟨he, n' + m, by rw [hm, drew2, Nat.add_assoc]⟩
          obtain ⟨r, hr⟩ : ∃ r, r = decide (p2.1 = p1.1) := ⟨_, rfl⟩
          rw [← hr] at hs
          have HR : Hid (r = decide (p2.1 = p1.1)) := hr
          have HS : Hid (A[i]? = some p1 ∧ A[j]? = some p2) := ⟨e1, e2⟩
          clear hr e1 e2 k1 k2
          have hin : i < n := by omega
          rcases r with _ | _
          · have HS2 : Hid (∀ s p q, s < i + 1 → A[s]? = some p → A[j]? = some q → p.1 ≠ q.1) := by
              intro s p q hs' hp hq
              by_cases e : s = i
              · subst e
                rw [HS.out.1] at hp; rw [HS.out.2] at hq
                cases hp; cases hq
                have := HR.out
                intro h
                rw [decide_eq_true h.symm] at this
                cases this
              · exact HI.out s p q (by omega) hp hq
            go_wp2_with fail
            go_quiet (first | (go_at_call 25; exact hs _))
            go_wp2
            go_roundw
            case rel => exact ⟨i + 1, by omega, by go_num, HS2.out, _, rfl⟩
            case measure => simp [intOf]; omega
          · go_wp2_with fail
            go_quiet (first | (go_at_call 25; exact hs _))
            go_wp2
            go_ret
            exact ⟨⟨false, rfl, fun h => by cases h⟩, _, drew2 _ _ _⟩
        · have HD2 : Hid (dis A (j + 1)) := by
            intro s t hst ht p q hp hq
            by_cases e : t = j
            · subst e; exact HI.out s p q (by omega) hp hq
            · exact HD.out s t hst (by omega) p q hp hq
          go_wp2
          go_roundw
          case rel => exact ⟨j + 1, by omega, by go_num, HD2.out, _, rfl⟩
          case measure => simp [intOf]; omega
    · have HR : Hid ((A.map (·.1)).Nodup) := by
        have e : j = A.length := by have := HN.out; omega
        have hd := HD.out
        rw [e] at hd
        exact dis_nodup hd
      go_wp2
      go_ret
      exact ⟨⟨true, rfl, fun _ => HR.out⟩, _, rfl⟩

theorem distinct_any (w : World) {S : Nat → Prop} (A : List Bz) (v : Value) (h : BUSY w S v A) (hf : fits A) :
    Calls Try.prog 7 #[v] w fun e w' => (∃ r, e = .returned (.bool r) ∧ (r = true → (A.map (·.1)).Nodup)) ∧ ∃ n, w' = w.drewN n := by
  obtain ⟨a, c, b, o, rfl, ha, hc⟩ := h
  exact distinct_walk w A a c b o _ rfl (fun h => ⟨(ha h).1, (ha h).2.2⟩) hc hf
end Go.Proofs.Qxb6616195a
