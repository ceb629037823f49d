/- zzSpansOK, zzBytes. -/
import Derived.Test.Qxb6616010aScript
namespace Go.Proofs.Qxb6616010a
open Go.RowKit

def okB (x : Int) : Bool := decide (0 ≤ x) && decide (x < 576460752303423488)
def spB (p : Int × Int) : Bool := okB p.1 && okB p.2
def wide (p : Int × Int) : Prop := (-9223372036854775808 ≤ p.1 ∧ p.1 ≤ 9223372036854775807) ∧ (-9223372036854775808 ≤ p.2 ∧ p.2 ≤ 9223372036854775807)
theorem spB_ok (p : Int × Int) (h : spB p = true) : spOk p := by
  simp [spB, okB] at h
  exact ⟨h.1.1, h.1.2, h.2.1, h.2.2⟩

set_option maxHeartbeats 400000 in
theorem spansOK_pos (w : World) (zs : List (Int × Int)) (b o c n : Nat) (hn : n = zs.length) (hsp : SPN w b o zs) (hz : ∀ p ∈ zs, wide p) (hlen : n ≤ 10000000) :
    Calls Try.prog 13 #[.slice (some ⟨b, o, none⟩) n c] w fun e w' => e = .returned (.bool (zs.all spB)) ∧ w' = w := by
  have HN : Hid (n = zs.length) := hn
  clear hn
  go_enter Try.func13, Try.ntmps13
  go_wp2_with fail
  go_loop [3] (fun i => ∃ j : Nat, j ≤ n ∧ i = .int .i64 j ∧ (zs.take j).all spB = true) (fun i => n - (intOf i).toNat)
  case atStart => exact ⟨0, by omega, rfl, by simp⟩
  case round =>
    obtain ⟨j, hj, rfl, hall⟩ := hrel
    by_cases hlt : j < n
    · obtain ⟨p, hp⟩ : ∃ p, zs[j]? = some p := ⟨zs[j]'(by have := HN.out; omega), List.getElem?_eq_getElem _⟩
      obtain ⟨s, t⟩ := p
      obtain ⟨c1, c2⟩ := hsp j (s, t) hp
      obtain ⟨⟨w1, w2⟩, w3, w4⟩ := hz (s, t) (List.mem_of_getElem? hp)
      simp only at c1 c2 w1 w2 w3 w4
      have hnext : (zs.take (j + 1)).all spB = spB (s, t) := by
        obtain ⟨hjl, hje⟩ := List.getElem?_eq_some_iff.1 hp
        rw [List.take_succ_eq_append_getElem hjl, List.all_append, hall, hje]; simp
      have hno : spB (s, t) = false → zs.all spB = false := fun h => by
        rw [List.all_eq_false]
        exact ⟨(s, t), List.mem_of_getElem? hp, by simp [h]⟩
      have k1 := offsetOK_any s w w1 w2
      have k2 := offsetOK_any t w w3 w4
      have HX : Hid ((zs.take (j + 1)).all spB = spB (s, t)) := hnext
      clear hp hnext hall
      rcases h1 : okB s with _ | _
      · have h1' : (decide (0 ≤ s) && decide (s < 576460752303423488)) = false := h1
        have hno' := hno (by simp [spB, h1])
        rw [h1'] at k1
        clear hno HX h1 h1'
        go_wp2_with (first | (go_at_call 21; refine k1.mono ?_; rintro e w' ⟨rfl, rfl⟩))
        go_ret
        exact ⟨by rw [hno']; rfl, rfl⟩
      · rcases h2 : okB t with _ | _
        · have h1' : (decide (0 ≤ s) && decide (s < 576460752303423488)) = true := h1
          have h2' : (decide (0 ≤ t) && decide (t < 576460752303423488)) = false := h2
          have hno' := hno (by simp [spB, h2])
          rw [h1'] at k1
          rw [h2'] at k2
          clear hno HX h1 h1' h2 h2'
          go_wp2_with fail
          refine k1.mono ?_
          rintro e w' ⟨rfl, rfl⟩
          go_wp2_with fail
          refine k2.mono ?_
          rintro e w' ⟨rfl, rfl⟩
          go_wp2
          go_ret
          exact ⟨by rw [hno']; rfl, rfl⟩
        · have h1' : (decide (0 ≤ s) && decide (s < 576460752303423488)) = true := h1
          have h2' : (decide (0 ≤ t) && decide (t < 576460752303423488)) = true := h2
          have hx : (zs.take (j + 1)).all spB = true := by rw [HX.out]; simp [spB, h1, h2]
          have HY : Hid ((zs.take (j + 1)).all spB = true) := hx
          rw [h1'] at k1
          rw [h2'] at k2
          clear hno HX h1 h1' h2 h2' hx
          go_wp2_with fail
          refine k1.mono ?_
          rintro e w' ⟨rfl, rfl⟩
          go_wp2_with fail
          refine k2.mono ?_
          rintro e w' ⟨rfl, rfl⟩
          go_wp2
          go_round
          case rel => exact ⟨j + 1, by omega, by go_num, HY.out⟩
          case measure => simp [intOf]; omega
    · obtain rfl : j = n := by omega
      rw [List.take_of_length_le (by have := HN.out; omega)] at hall
      have HA : Hid (zs.all spB = true) := hall
      clear hall
      go_wp2
      go_ret
      exact ⟨by rw [HA.out]; rfl, rfl⟩

set_option maxHeartbeats 400000 in
theorem spansOK_nil (w : World) (ao : Option Addr) (c : Nat) :
    Calls Try.prog 13 #[.slice ao 0 c] w fun e w' => e = .returned (.bool true) ∧ w' = w := by
  go_enter Try.func13, Try.ntmps13
  go_wp2_with fail
  go_loop [3] (fun i => i = .int .i64 0) (fun _ => 0)
  case atStart => rfl
  case round =>
    subst hrel
    go_wp2
    go_ret
    exact ⟨rfl, rfl⟩

theorem spansOK_any (w : World) (zs : List (Int × Int)) (ao : Option Addr) (b o c n : Nat) (hao : 0 < n → ao = some ⟨b, o, none⟩) (hn : n = zs.length) (hsp : SPN w b o zs) (hz : ∀ p ∈ zs, wide p) (hlen : n ≤ 10000000) :
    Calls Try.prog 13 #[.slice ao n c] w fun e w' => e = .returned (.bool (zs.all spB)) ∧ w' = w := by
  rcases Nat.eq_zero_or_pos n with h | h
  · subst h
    obtain rfl : zs = [] := List.eq_nil_of_length_eq_zero hn.symm
    exact spansOK_nil w ao c
  · obtain rfl := hao h
    exact spansOK_pos w zs b o c n hn hsp hz hlen

set_option maxHeartbeats 400000 in
theorem bytes5 (w : World) (ao : Option Addr) (n c : Nat) (hn : n ≤ 9223372036854775807) : Calls Try.prog 12 #[.slice ao n c] w fun e w' => e = .returned (.bool (decide (n ≤ 1048576))) ∧ w' = w := by
  by_cases h : n ≤ 1048576
  · rw [decide_eq_true h]
    go_enter Try.func12, Try.ntmps12
    go_wp2
    go_ret
    exact ⟨rfl, rfl⟩
  · rw [decide_eq_false h]
    go_enter Try.func12, Try.ntmps12
    go_wp2
    go_ret
    exact ⟨rfl, rfl⟩

set_option maxHeartbeats 400000 in
theorem bytes6 (w : World) (ao : Option Addr) (n c : Nat) (k : Int) (hn : n ≤ 9223372036854775807) : Calls Try.prog 18 #[.slice ao n c, .int .i64 k] w fun e w' => e = .returned (.bool (decide (n ≤ 1048576))) ∧ w' = w := by
  by_cases h : n ≤ 1048576
  · rw [decide_eq_true h]
    go_enter Try.func18, Try.ntmps18
    go_wp2
    go_ret
    exact ⟨rfl, rfl⟩
  · rw [decide_eq_false h]
    go_enter Try.func18, Try.ntmps18
    go_wp2
    go_ret
    exact ⟨rfl, rfl⟩

end Go.Proofs.Qxb6616010a
