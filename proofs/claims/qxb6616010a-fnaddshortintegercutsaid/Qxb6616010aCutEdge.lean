/- FnAddShortIntegerCut: the other ways. -/
import Derived.Test.Qxb6616010aRuns
import Derived.Test.Qxb6616010aCutPlain
namespace Go.Proofs.Qxb6616010a
open Go.RowKit

set_option maxRecDepth 100000 in
set_option maxHeartbeats 2000000 in
theorem cut_long (w : World) (ao : Option Addr) (c n : Nat) (k : Int) (hlen : 32768 < n) (hmax : n ≤ 9223372036854775807) :
    Calls Try.prog 6 #[.slice ao n c, .int .i64 k] w fun e w' => e = .returned (.bool true) ∧ Below w.heap.size w w' := by
  have k12 := bytes6 w ao n c k hmax
  have hd32 : decide ((32768 : Int) < (n : Int)) = true := by simp; omega
  by_cases h : n ≤ 1048576
  · rw [decide_eq_true h] at k12
    go_enter Try.func6, Try.ntmps6
    go_wp2_with (first
      | (go_at_call 18; refine k12.mono ?_; rintro e w' ⟨rfl, hw'⟩; subst w'))
    go_ret
    exact ⟨rfl, Below.refl _ _⟩
  · rw [decide_eq_false h] at k12
    go_enter Try.func6, Try.ntmps6
    go_wp2_with (first
      | (go_at_call 18; refine k12.mono ?_; rintro e w' ⟨rfl, hw'⟩; subst w'))
    go_ret
    exact ⟨rfl, Below.refl _ _⟩

set_option maxRecDepth 100000 in
set_option maxHeartbeats 2000000 in
theorem cut_bad (w : World) (zs : List (Int × Int)) (ao : Option Addr) (b o c n : Nat) (k : Int) (hao : 0 < n → ao = some ⟨b, o, none⟩) (hn : n = zs.length) (hsp : SPN w b o zs) (hlen : n ≤ 32768) (hall : zs.all spB = false) (hw : ∀ p ∈ zs, wide p) :
    Calls Try.prog 6 #[.slice ao n c, .int .i64 k] w fun e w' => e = .returned (.bool true) ∧ Below w.heap.size w w' := by
  have k12 := bytes6 w ao n c k (by omega)
  rw [decide_eq_true (show n ≤ 1048576 by omega)] at k12
  have k13 := spansOK_any w zs ao b o c n hao hn hsp hw (by omega)
  rw [hall] at k13
  have hd32 : decide ((32768 : Int) < (n : Int)) = false := by simp; omega
  clear hn hall
  go_enter Try.func6, Try.ntmps6
  go_wp2_with (first
    | (go_at_call 18; refine k12.mono ?_; rintro e w' ⟨rfl, hw'⟩; subst w')
    | (go_at_call 13; refine k13.mono ?_; rintro e w' ⟨rfl, hw'⟩; subst w'))
  go_ret
  exact ⟨rfl, Below.refl _ _⟩

set_option maxRecDepth 100000 in
set_option maxHeartbeats 2000000 in
theorem cut_out (w : World) (zs : List (Int × Int)) (ao : Option Addr) (b o c n : Nat) (k : Int) (hao : 0 < n → ao = some ⟨b, o, none⟩) (hn : n = zs.length) (hsp : SPN w b o zs) (hlen : n ≤ 32768) (hall : zs.all spB = true) (hw : ∀ p ∈ zs, wide p) (hk : k < 0 ∨ (n : Int) < k) :
    Calls Try.prog 6 #[.slice ao n c, .int .i64 k] w fun e w' => e = .returned (.bool true) ∧ Below w.heap.size w w' := by
  have k12 := bytes6 w ao n c k (by omega)
  rw [decide_eq_true (show n ≤ 1048576 by omega)] at k12
  have k13 := spansOK_any w zs ao b o c n hao hn hsp hw (by omega)
  rw [hall] at k13
  have hd32 : decide ((32768 : Int) < (n : Int)) = false := by simp; omega
  clear hn hall
  by_cases h1 : k < 0
  · have hd1 : decide (k < 0) = true := by simp; omega
    go_enter Try.func6, Try.ntmps6
    go_wp2_with (first
      | (go_at_call 18; refine k12.mono ?_; rintro e w' ⟨rfl, hw'⟩; subst w')
      | (go_at_call 13; refine k13.mono ?_; rintro e w' ⟨rfl, hw'⟩; subst w'))
    go_ret
    exact ⟨rfl, Below.refl _ _⟩
  · have h2 : (n : Int) < k := by omega
    have hd1 : decide (k < 0) = false := by simp; omega
    have hd2 : decide ((n : Int) < k) = true := by simp; omega
    go_enter Try.func6, Try.ntmps6
    go_wp2_with (first
      | (go_at_call 18; refine k12.mono ?_; rintro e w' ⟨rfl, hw'⟩; subst w')
      | (go_at_call 13; refine k13.mono ?_; rintro e w' ⟨rfl, hw'⟩; subst w'))
    go_ret
    exact ⟨rfl, Below.refl _ _⟩

set_option maxRecDepth 100000 in
set_option maxHeartbeats 4000000 in
theorem cut_nil (w : World) (ao : Option Addr) (c : Nat) :
    Calls Try.prog 6 #[.slice ao 0 c, .int .i64 0] w fun e w' => e = .returned (.bool true) ∧ Below w.heap.size w w' := by
  have k12 := bytes6 w ao 0 c 0 (by omega)
  rw [decide_eq_true (show 0 ≤ 1048576 by omega)] at k12
  have k13 := spansOK_nil w ao c
  have k14 := runScript_nil w ao c
  go_enter Try.func6, Try.ntmps6
  go_wp2_with (first
    | (go_at_call 18; refine k12.mono ?_; rintro e w' ⟨rfl, hw'⟩; subst w')
    | (go_at_call 13; refine k13.mono ?_; rintro e w' ⟨rfl, hw'⟩; subst w'))
  refine k14.mono ?_
  rintro e w1 ⟨rfl, hL1, hB1⟩
  clear k12 k13 k14
  go_wp2_with fail
  refine (runScript_nil w1 _ _).mono ?_
  rintro e w2 ⟨rfl, hL2, hB2⟩
  go_wp2_with fail
  refine (runScript_nil w2 _ _).mono ?_
  rintro e w3 ⟨rfl, hL3, hB3⟩
  have gL1 := (hL1.below (Nat.le_refl _) hB2).below (Nat.le_refl _) hB3
  have gL2 := hL2.below (Nat.le_refl _) hB3
  clear hL1 hL2
  go_wp2_with fail
  refine (nodes_any w3 w.heap.size w.heap.size [] 0 0 rfl gL1 (by omega)).mono ?_
  rintro e w4 ⟨K1, O1, rfl, -, -, hB4⟩
  have gL1' := gL1.below (Nat.le_refl _) hB4
  have gL2' := gL2.below (Nat.le_refl _) hB4
  have gL3' := hL3.below (Nat.le_refl _) hB4
  clear gL1 gL2 hL3
  go_wp2_with fail
  refine (nodes_any w4 w1.heap.size w1.heap.size [] 0 0 rfl gL2' (by omega)).mono ?_
  rintro e w5 ⟨K2, O2, rfl, -, -, hB5⟩
  have gL1 := gL1'.below (Nat.le_refl _) hB5
  have gL2 := gL2'.below (Nat.le_refl _) hB5
  have gL3 := gL3'.below (Nat.le_refl _) hB5
  clear gL1' gL2' gL3'
  go_wp2_with fail
  refine (nodes_any w5 w2.heap.size w2.heap.size [] 0 0 rfl gL3 (by omega)).mono ?_
  rintro e w6 ⟨K3, O3, rfl, -, -, hB6⟩
  have hL1 := gL1.below (Nat.le_refl _) hB6
  have hL2 := gL2.below (Nat.le_refl _) hB6
  clear gL1 gL2 gL3
  have hB16 : Below w3.heap.size w3 w6 := (hB4.trans (hB5.mono hB4.size)).trans (hB6.mono (by have := hB4.size; have := hB5.size; omega))
  have hBt : Below w.heap.size w w6 := ((hB1.trans (hB2.mono hB1.size)).trans (hB3.mono (by have := hB1.size; have := hB2.size; omega))).trans (hB16.mono (by have := hB1.size; have := hB2.size; have := hB3.size; omega))
  clear hB1 hB2 hB3 hB4 hB5 hB6 hB16
  go_wp2_with fail
  refine (runsModel_nil w6 ao c).mono ?_
  rintro e w7 ⟨kv, ov, rfl, hRM⟩
  obtain ⟨ka, kg, kc, oa, og, oc, rfl, rfl, -⟩ := hRM.shape
  have hB7 := hRM.2.2
  have gL1 := (hL1.below (Nat.le_refl _) hB7).drewN
  have gL2 := (hL2.below (Nat.le_refl _) hB7).drewN
  have hBf : Below w.heap.size w w7 := hBt.trans (hB7.mono hBt.size)
  clear hRM hB7 hBt hL1 hL2
  go_wp2_with fail
  go_quiet (fail)
  go_wp2_with fail
  have hfin : Below w.heap.size w (w7.drewN nq) := ⟨hBf.os, hBf.tape, hBf.output, hBf.size, hBf.block⟩
  have k1 := shortEnd_any _ w.heap.size w.heap.size [] 0 (gL1 nq)
  have k2 := shortEnd_any _ w1.heap.size w1.heap.size [] 0 (gL2 nq)
  clear gL1 gL2
  go_loopw [16, 17, 19] (fun kv ov x wr => kv = .slice none 0 0 ∧ ov = .slice none 0 0 ∧ x = .int .i64 0 ∧ wr = w7.drewN nq) (fun _ _ _ _ => 0)
  case atStart => exact ⟨rfl, rfl, rfl, rfl⟩
  case round =>
    obtain ⟨rfl, rfl, rfl, rfl⟩ := hrel
    go_wp2_with fail
    go_loopw [16, 17, 20] (fun kv ov x wr => kv = .slice none 0 0 ∧ ov = .slice none 0 0 ∧ x = .int .i64 0 ∧ wr = w7.drewN nq) (fun _ _ _ _ => 0)
    case atStart => exact ⟨rfl, rfl, rfl, rfl⟩
    case round =>
      obtain ⟨rfl, rfl, rfl, rfl⟩ := hrel
      go_wp2_with fail
      go_loopw [26] (fun x wr => x = .int .i64 0 ∧ wr = w7.drewN nq) (fun _ _ => 0)
      case atStart => exact ⟨rfl, rfl⟩
      case round =>
        obtain ⟨rfl, rfl⟩ := hrel
        go_wp2_with fail
        refine k2.mono ?_
        rintro e w' ⟨rfl, hw'⟩
        subst w'
        go_wp2_with fail
        refine k1.mono ?_
        rintro e w' ⟨rfl, hw'⟩
        subst w'
        go_wp2
        go_ret
        exact ⟨by simp, hfin⟩
end Go.Proofs.Qxb6616010a
