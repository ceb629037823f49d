/- Two waiters compared; the closure in queue. -/
import Derived.Test.Qxb6616195aTidy
import Derived.LaidEql
namespace Go.Proofs.Qxb6616195a
open Go.RowKit

def isW (w : World) (g : Nat) : Prop := ∃ C, w.heap[g]? = some (.cells C 66 (0, 0))
theorem eqIn (w : World) (d a b : Nat) (ha : isW w a) (hb : isW w b) : (Op.equalIn (d + 1) 29 (.pointer (some ⟨a, 0, none⟩)) (.pointer (some ⟨b, 0, none⟩))).run Try.prog w = .ok (decide (a = b)) w := by
  have hs : (sameAddr ⟨a, 0, none⟩ ⟨b, 0, none⟩).run Try.prog w = .ok (decide (a = b)) w := by
    by_cases h : a = b
    · subst h
      rw [decide_eq_true rfl]
      exact run_sameAddr_same _ _
    · obtain ⟨C, ha⟩ := ha
      obtain ⟨C', hb⟩ := hb
      rw [decide_eq_false h]
      exact run_sameAddr_other _ (fun e => h (Addr.mk.inj e).1) ha hb
  simp [Op.equalIn, run_underlying Try.underlying29, hs]
theorem eqP (w : World) (a b : Nat) (ha : isW w a) (hb : isW w b) : (binOp .eql 29 (.pointer (some ⟨a, 0, none⟩)) (.pointer (some ⟨b, 0, none⟩))).run Try.prog w = .ok (.bool (decide (a = b))) w := by
  simp only [binOp]
  simp [Op.equal, Op.maxDepth, eqIn w 9999 a b ha hb]
theorem neP (w : World) (a b : Nat) (ha : isW w a) (hb : isW w b) : (binOp .neq 29 (.pointer (some ⟨a, 0, none⟩)) (.pointer (some ⟨b, 0, none⟩))).run Try.prog w = .ok (.bool (!decide (a = b))) w := by
  simp only [binOp]
  simp [Op.equal, Op.maxDepth, eqIn w 9999 a b ha hb]

set_option maxHeartbeats 400000 in
theorem closure_any (w : World) (g W B : Nat) (hc : w.cell? ⟨B, 0, none⟩ = some (ptr W)) (hg : isW w g) (hW : isW w W) :
    Calls Try.prog 42 #[ptr g, .pointer (some ⟨B, 0, none⟩)] w fun e w' => e = .returned (.bool (decide (g = W))) ∧ w' = w := by
  have he := eqP w g W hg hW
  clear hg hW
  unfold ptr at hc ⊢
  obtain ⟨r, hr⟩ : ∃ r, r = decide (g = W) := ⟨_, rfl⟩
  rw [← hr] at he ⊢
  clear hr
  go_enter Try.func42, Try.ntmps42
  go_wp2
  go_ret
  exact ⟨rfl, rfl⟩

def clo (B : Nat) : Value := .func (.func 42) #[] #[.pointer (some ⟨B, 0, none⟩)]
set_option maxHeartbeats 400000 in
theorem indexFunc_first (w : World) (g n c W B : Nat) (hc : w.cell? ⟨B, 0, none⟩ = some (ptr W)) (hW : isW w W) (h0 : w.cell? ⟨g, 0, none⟩ = some (ptr W)) (hn : 0 < n) :
    Calls Try.prog 54 #[.slice (some ⟨g, 0, none⟩) n c, clo B] w fun e w' => e = .returned (.int .i64 0) ∧ w' = w := by
  have k := closure_any w W W B hc hW hW
  rw [decide_eq_true rfl] at k
  clear hW hc
  unfold ptr at h0 k
  unfold clo
  go_enter Try.func54, Try.ntmps54
  go_wp2_with fail
  go_loop [8] (fun x => x = .int .i64 0) (fun _ => 0)
  case atStart => rfl
  case round =>
    subst hrel
    go_wp2_with (first
      | (go_at_call 42; refine k.mono ?_; rintro e w' ⟨rfl, rfl⟩))
    go_ret
    exact ⟨rfl, rfl⟩

theorem clear_one (w : World) (g o c ty : Nat) (x : Value) (hc : w.cell? ⟨g, o, none⟩ = some x) (hf : w.frozen? ⟨g, o, none⟩ = false) :
    (Builtin.clear_ #[43] ty #[.slice (some ⟨g, o, none⟩) 1 c]).run Try.prog w = .ok (.tuple #[]) (w.setCell ⟨g, o, none⟩ (.pointer none)) := by
  have h1 : ∀ j, j < 1 → (w.cell? ⟨g, o + j, none⟩).isSome = true := by
    intro j hj
    obtain rfl : j = 0 := by omega
    simp [hc]
  have h2 : ∀ j, j < 1 → w.frozen? ⟨g, o + j, none⟩ = false := by
    intro j hj
    obtain rfl : j = 0 := by omega
    exact hf
  have := Go.Lib.run_clear_slice (P := Try.prog) w 43 29 ty (.pointer none) Try.underlying43 Try.zeroValue29 rfl rfl g o 1 c (by omega) h1 h2
  rw [this]
  rfl
set_option maxHeartbeats 400000 in
set_option maxRecDepth 20000 in
theorem del1 (w : World) (g c W B : Nat) (hcB : w.cell? ⟨B, 0, none⟩ = some (ptr W)) (hW : isW w W) (h0 : w.cell? ⟨g, 0, none⟩ = some (ptr W)) (hf : w.frozen? ⟨g, 0, none⟩ = false) (hcap : 1 ≤ c) :
    Calls Try.prog 41 #[.slice (some ⟨g, 0, none⟩) 1 c, clo B] w fun e w' => e = .returned (.slice (some ⟨g, 0, none⟩) 0 c) ∧ w' = w.setCell ⟨g, 0, none⟩ (.pointer none) := by
  have k := indexFunc_first w g 1 c W B hcB hW h0 (by omega)
  have hcl := fun c' ty => clear_one w g 0 c' ty _ h0 hf
  clear hW hcB
  unfold ptr at h0
  unfold clo at k ⊢
  go_enter Try.func41, Try.ntmps41
  go_wp2_with (first
    | (go_at_call 54; refine k.mono ?_; rintro e w' ⟨rfl, rfl⟩))
  go_loop [5, 6] (fun y x => y = .int .i64 0 ∧ x = .int .i64 1) (fun _ _ => 0)
  case atStart => exact ⟨rfl, rfl⟩
  case round =>
    obtain ⟨rfl, rfl⟩ := hrel
    go_wp2
    go_ret
    exact ⟨rfl, rfl⟩

set_option maxHeartbeats 400000 in
set_option maxRecDepth 20000 in
theorem del2 (w : World) (g c W o B : Nat) (hcB : w.cell? ⟨B, 0, none⟩ = some (ptr W)) (hW : isW w W) (ho : isW w o) (hoW : o ≠ W) (h0 : w.cell? ⟨g, 0, none⟩ = some (ptr W)) (h1 : w.cell? ⟨g, 1, none⟩ = some (ptr o))
    (hf : w.frozen? ⟨g, 0, none⟩ = false) (hf1 : w.frozen? ⟨g, 1, none⟩ = false) (hcap : 2 ≤ c) :
    Calls Try.prog 41 #[.slice (some ⟨g, 0, none⟩) 2 c, clo B] w fun e w' => e = .returned (.slice (some ⟨g, 0, none⟩) 1 c) ∧ w' = (w.setCell ⟨g, 0, none⟩ (ptr o)).setCell ⟨g, 1, none⟩ (.pointer none) := by
  have k := indexFunc_first w g 2 c W B hcB hW h0 (by omega)
  have kc := closure_any w o W B hcB ho hW
  rw [decide_eq_false hoW] at kc
  have d1 : (w.setCell ⟨g, 0, none⟩ (ptr o)).cell? ⟨g, 1, none⟩ = some (ptr o) := (World.cell?_setCell_other w ⟨g, 0, none⟩ ⟨g, 1, none⟩ _ (by simp)).trans h1
  have hcl := fun c' ty => clear_one (w.setCell ⟨g, 0, none⟩ (ptr o)) g 1 c' ty _ d1 (by simpa using hf1)
  clear hW hcB ho hoW
  unfold ptr at h0 h1 hcl kc d1 ⊢
  unfold clo at k ⊢
  go_enter Try.func41, Try.ntmps41
  go_wp2_with (first
    | (go_at_call 54; refine k.mono ?_; rintro e w' ⟨rfl, hw'⟩; subst w'))
  go_loopw [5, 6] (fun y x wr => (y = .int .i64 0 ∧ x = .int .i64 1 ∧ wr = w) ∨ (y = .int .i64 1 ∧ x = .int .i64 2 ∧ wr = w.setCell ⟨g, 0, none⟩ (.pointer (some ⟨o, 0, none⟩)))) (fun _ x _ => 2 - (intOf x).toNat)
  case atStart => exact .inl ⟨rfl, rfl, rfl⟩
  case round =>
    rcases hrel with ⟨rfl, rfl, hw⟩ | ⟨rfl, rfl, hw⟩
    · subst wr
      go_wp2_with (first
        | (go_at_call 42; refine kc.mono ?_; rintro e w' ⟨rfl, hw'⟩; subst w'))
      go_roundw
      case rel => exact .inr (by simp)
      case measure => simp [intOf]
    · subst wr
      go_wp2
      go_ret
      exact ⟨rfl, rfl⟩
end Go.Proofs.Qxb6616195a
