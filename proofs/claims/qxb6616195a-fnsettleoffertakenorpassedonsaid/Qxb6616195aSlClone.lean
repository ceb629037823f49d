/- slices.Clone of a []string. -/
import Derived.Test.Qxb6616195aDel
import Derived.Deep.AppendLies
namespace Go.Proofs.Qxb6616195a
open Go.RowKit

set_option maxHeartbeats 400000 in
theorem slClone_nil (w : World) (n c : Nat) : Calls Try.prog 44 #[.slice none n c] w fun e w' => e = .returned (.slice none 0 0) ∧ w' = w := by
  have hnil := fun w' => Go.Lib.run_eql_slice_nil (P := Try.prog) w' 36 9 none n c 0 0 Try.underlying36
  go_enter Try.func44, Try.ntmps44
  go_wp2
  go_ret
  exact ⟨rfl, rfl⟩

set_option maxHeartbeats 400000 in
theorem slClone_zero (w : World) (a : Addr) (c : Nat) : Calls Try.prog 44 #[.slice (some a) 0 c] w fun e w' => (∃ v, e = .returned v ∧ SROW w' v []) ∧ Below w.heap.size w w' := by
  have hnil := fun w' => Go.Lib.run_eql_slice_nil (P := Try.prog) w' 36 9 (some a) 0 c 0 0 Try.underlying36
  go_enter Try.func44, Try.ntmps44
  go_wp2
  go_ret
  exact ⟨⟨_, rfl, SROW.nil _ _ _⟩, (Below.refl _ _).alloc (Nat.le_refl _) _⟩

set_option maxHeartbeats 400000 in
theorem slClone_pos (w : World) (ks : List Ky) (g o c n : Nat) (hn : n = ks.length) (hpos : 0 < n) (hlen : n ≤ 1048576) (hg : g < w.heap.size) (hc : SCELLS w g o ks) :
    Calls Try.prog 44 #[.slice (some ⟨g, o, none⟩) n c] w fun e w' => (∃ v, e = .returned v ∧ SROW w' v ks) ∧ Below w.heap.size w w' := by
  have hnil := fun w' => Go.Lib.run_eql_slice_nil (P := Try.prog) w' 36 9 (some ⟨g, o, none⟩) n c 0 0 Try.underlying36
  obtain ⟨i9, hi, hz0, hz1, hz2⟩ := info_parts Try.info9
  have hown : (w.alloc (.cells #[] 9)).ownsRow w.heap.size 9 1 (.slice (some ⟨w.heap.size, 0, none⟩) 0 0) 0 [] := ⟨rfl, .inr ⟨w.heap.size, 0, #[], rfl, Nat.le_refl _, heap_alloc_new w _, Nat.le_refl _, by unfold maxLen; omega, rfl, rfl⟩⟩
  have hnews : ∀ j u, (ks.map sv)[j]? = some u → (w.alloc (.cells #[] 9)).cell? ((⟨g, o, none⟩ : Addr).add j) = some u := by
    intro j u hj
    rw [List.getElem?_map] at hj
    obtain ⟨k, hk, rfl⟩ := Option.map_eq_some_iff.1 hj
    rw [Addr.add_lit, ((Below.refl w.heap.size w).alloc (Nat.le_refl _) (.cells #[] 9)).cell (p := ⟨g, o + j, none⟩) hg]
    exact hc j k hk
  have h1 : ∀ u ∈ ks.map sv, u.oneCell' = true := by
    intro u hu
    obtain ⟨k, _, rfl⟩ := List.mem_map.1 hu
    rfl
  have hll : (ks.map sv).length = n * 1 := by simp [hn]
  have hml : 0 + n ≤ maxLen := by unfold maxLen; omega
  have hby : (0 + n) * 16 ≤ 140737488355328 := by omega
  have HN : Hid (n = ks.length) := hn
  clear hn hc
  go_enter Try.func44, Try.ntmps44
  go_wp2_with (first
    | (at_builtin; refine wpList_append_lies _ rfl (.tmp 5) (.tmp 6) 36 rfl w.heap.size 9 i9 _ 1 16 Try.underlying36 hi hz0 hz1 hz2 rfl (Nat.le_refl 1) _ 0 [] rfl hown ⟨g, o, none⟩ n c (ks.map sv) rfl hll hnews h1 hpos hml hby (by simp) _ rfl ?_; intro g2 cap2 w2 hown2 hgrow2 hat2 hlt2))
  have hgr : (w.alloc (.cells #[] 9)).grownBy w2 (some w.heap.size) := hgrow2
  have hB : Below w.heap.size w w2 := ((Below.refl w.heap.size w).alloc (Nat.le_refl _) (.cells #[] 9)).grown hgr (by simp) (by intro k hk; cases hk; exact Nat.le_refl _)
  have hS : SROW w2 (.slice (some ⟨g2, 0, none⟩) (0 + n) cap2) ks := owns_srow (by rw [Nat.zero_add]; exact HN.out) hown2
  go_ret
  rw [Nat.zero_add] at hS
  exact ⟨⟨_, rfl, hS⟩, hB⟩

theorem slClone_any (w : World) (ks : List Ky) (v : Value) (h : SROW w v ks) (hlen : ks.length ≤ 1048576) :
    Calls Try.prog 44 #[v] w fun e w' => (∃ v, e = .returned v ∧ SROW w' v ks) ∧ Below w.heap.size w w' := by
  obtain ⟨a, c, b, o, rfl, ha, hc⟩ := h
  rcases Nat.eq_zero_or_pos ks.length with h0 | h0
  · obtain rfl : ks = [] := List.eq_nil_of_length_eq_zero h0
    cases a with
    | none =>
      refine (slClone_nil w _ c).mono ?_
      rintro e w' ⟨rfl, rfl⟩
      exact ⟨⟨_, rfl, SROW.nil _ _ _⟩, Below.refl _ _⟩
    | some a => exact slClone_zero w a c
  · obtain ⟨rfl, hb⟩ := ha h0
    exact slClone_pos w ks b o c _ rfl h0 hlen hb.lt hc
end Go.Proofs.Qxb6616195a
