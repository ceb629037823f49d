/- The leaf functions' contracts: newNode, kind, off, zzOffsetOK, len, at, zzJoins and the thin shims. -/
import Derived.Test.Qxb6616010aRows
import Derived.WalkKit
import Derived.WalkSpells
import Derived.WalkLawsBesides
import Derived.Deep.QuietTactic
import Derived.BigQuiet
import Derived.Laws.BitsAllLaws
namespace Go.Proofs.Qxb6616010a
open Go.RowKit

def nd (k off : Int) : Int := off * 16 + k

theorem ret_int {k : IntKind} {a b : Int} (h : a = b) : Ending.returned (.int k a) = .returned (.int k b) := by rw [h]

theorem or_nd (k off : Int) (hk0 : 0 ≤ k) (hk : k < 16) (h0 : 0 ≤ off) (h1 : off < 576460752303423488) : bits BinOp.or IntKind.u64 (off * 16) k = nd k off := by
  rw [u64_or _ _ (by omega) (by omega) (by omega) (by omega), nat_join 4 _ _ (by omega) (by omega)]
  unfold nd
  omega

theorem and_15 (n : Int) (h0 : 0 ≤ n) (h1 : n < 18446744073709551616) : bits BinOp.and IntKind.u64 n 15 % 256 = n % 16 := by
  rw [u64_and _ _ (by omega) (by omega) (by omega) (by omega)]
  have := nat_mask4 n.toNat
  simp only [Int.reduceToNat]
  rw [this]
  omega

set_option maxHeartbeats 400000 in
theorem newNode_any (k off : Int) (w : World) (hk0 : 0 ≤ k) (hk : k < 16) (h0 : 0 ≤ off) (h1 : off < 576460752303423488) :
    Calls Try.prog 35 #[.int .u8 k, .int .i64 off] w fun e w' => e = .returned (.int .u64 (nd k off)) ∧ w' = w := by
  go_enter Try.func35, Try.ntmps35
  go_wp2
  go_ret
  exact ⟨ret_int (or_nd k off hk0 hk h0 h1), rfl⟩

set_option maxHeartbeats 400000 in
theorem kind_any (n : Int) (w : World) (h0 : 0 ≤ n) (h1 : n < 18446744073709551616) :
    Calls Try.prog 32 #[.int .u64 n] w fun e w' => e = .returned (.int .u8 (n % 16)) ∧ w' = w := by
  go_enter Try.func32, Try.ntmps32
  go_wp2
  go_ret
  exact ⟨ret_int (and_15 n h0 h1), rfl⟩

set_option maxHeartbeats 400000 in
theorem off_any (n : Int) (w : World) (h0 : 0 ≤ n) (h1 : n < 18446744073709551616) :
    Calls Try.prog 33 #[.int .u64 n] w fun e w' => e = .returned (.int .i64 (n / 16)) ∧ w' = w := by
  go_enter Try.func33, Try.ntmps33
  go_wp2
  go_ret
  exact ⟨rfl, rfl⟩

set_option maxHeartbeats 400000 in
theorem len_any (P : Nat) (a : Option Addr) (m c : Nat) (b : Int) (w : World) (hT : w.cell? ⟨P, 8, none⟩ = some (.slice a m c)) (hB : w.cell? ⟨P, 9, none⟩ = some (.int .i64 b)) (hb0 : 0 ≤ b) (hb : b + m ≤ 1000000000) :
    Calls Try.prog 30 #[.pointer (some ⟨P, 7, none⟩)] w fun e w' => e = .returned (.int .i64 (b + m)) ∧ ∃ n, w' = w.drewN n := by
  go_enter Try.func30, Try.ntmps30
  go_wp2
  go_quiet (fail)
  go_wp2
  go_ret
  exact ⟨rfl, ⟨_, rfl⟩⟩

theorem i64_and_nat (a b : Nat) (ha : a < 9223372036854775808) (hb : b < 9223372036854775808) : bits .and .i64 (a : Int) (b : Int) = ((a &&& b : Nat) : Int) := by
  have hx : a &&& b ≤ a := Nat.and_le_left
  have h1 := ofInt_u64 a (by omega)
  have h2 := ofInt_u64 b (by omega)
  show IntKind.i64.wrap ((BitVec.ofInt 64 (a : Int) &&& BitVec.ofInt 64 (b : Int)).toNat : Int) = _
  rw [BitVec.toNat_and, h1, h2, IntKind.wrap_i64]
  omega

theorem and_16383 (i : Nat) (h : i < 1000000000) : bits BinOp.and IntKind.i64 (i : Int) 16383 = ((i % 16384 : Nat) : Int) := by
  have := i64_and_nat i 16383 (by omega) (by omega)
  rw [nat_mask14] at this
  exact this

set_option maxHeartbeats 400000 in
theorem offsetOK_any (x : Int) (w : World) (hx0 : -9223372036854775808 ≤ x) (hx1 : x ≤ 9223372036854775807) :
    Calls Try.prog 21 #[.int .i64 x] w fun e w' => e = .returned (.bool (decide (0 ≤ x) && decide (x < 576460752303423488))) ∧ w' = w := by
  by_cases h : 0 ≤ x
  · go_enter Try.func21, Try.ntmps21
    go_wp2
    go_ret
    exact ⟨by simp [h], rfl⟩
  · go_enter Try.func21, Try.ntmps21
    go_wp2
    go_ret
    exact ⟨by simp; omega, rfl⟩

def joins (b c : Int) : Bool := b != 0 && c == b + 1

set_option maxHeartbeats 400000 in
theorem joins_any (a b c d : Int) (w : World) (h0 : 0 ≤ b) (h1 : b < 576460752303423488) :
    Calls Try.prog 19 #[.agg #[.int .i64 a, .int .i64 b], .agg #[.int .i64 c, .int .i64 d]] w fun e w' => e = .returned (.bool (joins b c)) ∧ Grown w w' := by
  by_cases h : b = 0
  · subst h
    go_enter Try.func19, Try.ntmps19
    go_wp2
    go_ret
    exact ⟨by simp [joins], by repeat (first | exact Grown.refl _ | apply Grown.drew | apply Grown.alloc)⟩
  · go_enter Try.func19, Try.ntmps19
    go_wp2
    go_ret
    exact ⟨by simp [joins], by repeat (first | exact Grown.refl _ | apply Grown.drew | apply Grown.alloc)⟩

set_option maxHeartbeats 400000 in
theorem at_any (P C k cc g l c : Nat) (i : Nat) (x : Int) (w : World) (hx : x = (i : Int)) (hC : w.cell? ⟨P, 7, none⟩ = some (.slice (some ⟨C, 0, none⟩) k cc)) (hB : w.cell? ⟨C, i / 16384, none⟩ = some (.slice (some ⟨g, 0, none⟩) l c)) (hi : i / 16384 < k) (hl : i % 16384 < l) (hi1 : i < 1000000000) :
    Calls Try.prog 31 #[.pointer (some ⟨P, 7, none⟩), .int .i64 x] w fun e w' => e = .returned (.pointer (some ⟨g, i % 16384, none⟩)) ∧ w' = w := by
  subst hx
  have hand := and_16383 i hi1
  go_enter Try.func31, Try.ntmps31
  go_wp2
  go_ret
  exact ⟨rfl, rfl⟩

end Go.Proofs.Qxb6616010a
