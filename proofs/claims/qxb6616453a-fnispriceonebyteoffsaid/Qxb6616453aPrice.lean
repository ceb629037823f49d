/- The price laws: callees and FnIsPricePaddedTerm, the walk. -/
import Derived.Test.Qxb6616453aRows
import Derived.WalkKit
import Derived.WalkSpells
import Derived.WalkLawsBesides
import Derived.Lib.SlBytesConst
namespace Go.Proofs.Qxb6616453a
open Go.RowKit

def rc : List UInt8 := [114, 101, 99, 111, 114, 100, 45, 99, 108, 111, 115, 101]
def rp : List UInt8 := [114, 105, 103, 104, 116, 115, 45, 112, 114, 105, 99, 101]
def price (s : List UInt8) : Bool := s == rc || s == rp

theorem ret_bool {a b : Bool} (h : a = b) : Ending.returned (.bool a) = .returned (.bool b) := by rw [h]

set_option maxHeartbeats 400000 in
theorem isPrice_any (s : ByteArray) (w : World) : Calls Try.prog 7 #[.string s] w fun e w' => e = .returned (.bool (price s.toList)) ∧ w' = w := by
  go_enter Try.func7, Try.ntmps7
  go_wp2
  · next h =>
    go_ret
    exact ⟨ret_bool (by simp [price, rc, h]), rfl⟩
  · go_ret
    exact ⟨rfl, rfl⟩

def term (r : Bool) : ByteArray := if r then ⟨#[114, 105, 103, 104, 116, 115, 45, 112, 114, 105, 99, 101]⟩ else ⟨#[114, 101, 99, 111, 114, 100, 45, 99, 108, 111, 115, 101]⟩

set_option maxHeartbeats 400000 in
theorem term_any (r : Bool) (w : World) : Calls Try.prog 6 #[.bool r] w fun e w' => e = .returned (.string (term r)) ∧ w' = w := by
  cases r
  · go_enter Try.func6, Try.ntmps6
    go_wp2
    go_ret
    exact ⟨rfl, rfl⟩
  · go_enter Try.func6, Try.ntmps6
    go_wp2
    go_ret
    exact ⟨rfl, rfl⟩

set_option maxHeartbeats 400000 in
theorem bytes_any (p q : ByteArray) (r : Bool) (w : World) (hp : p.size ≤ maxLen) (hq : q.size ≤ maxLen) : Calls Try.prog 5 #[.string p, .string q, .bool r] w fun e w' => e = .returned (.bool (decide (p.size + q.size ≤ 1048576))) ∧ w' = w := by
  unfold maxLen at hp hq
  by_cases h : p.size ≤ 1048576
  · by_cases h2 : q.size ≤ 1048576
    · by_cases h3 : p.size + q.size ≤ 1048576
      · rw [decide_eq_true h3]
        go_enter Try.func5, Try.ntmps5
        go_wp2
        go_ret
        exact ⟨rfl, rfl⟩
      · rw [decide_eq_false h3]
        go_enter Try.func5, Try.ntmps5
        go_wp2
        go_ret
        exact ⟨rfl, rfl⟩
    · rw [decide_eq_false (show ¬ p.size + q.size ≤ 1048576 by omega)]
      go_enter Try.func5, Try.ntmps5
      go_wp2
      go_ret
      exact ⟨rfl, rfl⟩
  · rw [decide_eq_false (show ¬ p.size + q.size ≤ 1048576 by omega)]
    go_enter Try.func5, Try.ntmps5
    go_wp2
    go_ret
    exact ⟨rfl, rfl⟩

theorem price_len (s : ByteArray) (h : s.size ≠ 12) : price s.toList = false := by
  rw [ByteArray.toList_eq]
  have hl : s.data.toList.length ≠ 12 := by simpa using h
  unfold price
  rw [Bool.or_eq_false_iff, beq_eq_false_iff_ne, beq_eq_false_iff_ne]
  exact ⟨fun e => hl (by rw [e]; rfl), fun e => hl (by rw [e]; rfl)⟩
theorem price_term (r : Bool) : price (term r).toList = true := by
  rw [ByteArray.toList_eq]; cases r <;> decide
theorem price_suffix (r : Bool) (q : ByteArray) : (price (term r ++ q).toList == ((q.size : Int) == 0)) = true := by
  have hsz : (term r).size = 12 := by cases r <;> rfl
  by_cases h : q.size = 0
  · have e : q = ByteArray.empty := ByteArray.size_eq_zero_iff.1 h
    subst e
    rw [show term r ++ ByteArray.empty = term r by simp, price_term]
    simp
  · rw [price_len _ (by rw [ByteArray.size_append]; omega), beq_eq_false_iff_ne.2 (show ((q.size : Int)) ≠ 0 by omega)]
    rfl
theorem price_prefix (r : Bool) (p q : ByteArray) (h : ¬ p = ByteArray.empty) : price (p ++ term r ++ q).toList = false := by
  have hsz : (term r).size = 12 := by cases r <;> rfl
  have hp : p.size ≠ 0 := fun e => h (ByteArray.size_eq_zero_iff.1 e)
  exact price_len _ (by rw [ByteArray.size_append, ByteArray.size_append]; omega)

set_option maxHeartbeats 400000 in
theorem padded (p q : ByteArray) (r : Bool) (w : World) (hp : p.size ≤ maxLen) (hq : q.size ≤ maxLen) (hs : p.size + q.size ≤ 1048576) :
    Calls Try.prog 3 #[.string p, .string q, .bool r] w fun e w' => e = .returned (.bool true) ∧ w' = w := by
  have k5 := bytes_any p q r w hp hq
  rw [decide_eq_true hs] at k5
  have k6 := term_any r w
  have hpr := price_term r
  have hsz : (term r).size = 12 := by cases r <;> rfl
  have h1 : p.size ≤ 1048576 := by omega
  have h2 : q.size ≤ 1048576 := by omega
  have h3 : (p.size : Int) + q.size ≤ 1048576 := by omega
  go_enter Try.func3, Try.ntmps3
  go_wp2_with (first
    | (go_at_call 5; refine k5.mono ?_; rintro e w' ⟨rfl, hw'⟩; subst w')
    | (go_at_call 6; refine k6.mono ?_; rintro e w' ⟨rfl, hw'⟩; subst w')
    | (go_at_call 7; refine (isPrice_any _ w).mono ?_; rintro e w' ⟨rfl, hw'⟩; subst w'))
  · go_ret
    exact ⟨ret_bool (price_suffix r q), rfl⟩
  · go_ret
    exact ⟨ret_bool (by rw [price_prefix r p q (by assumption)]; rfl), rfl⟩

set_option maxHeartbeats 400000 in
theorem padded_big (p q : ByteArray) (r : Bool) (w : World) (hp : p.size ≤ maxLen) (hq : q.size ≤ maxLen) (hs : ¬ p.size + q.size ≤ 1048576) :
    Calls Try.prog 3 #[.string p, .string q, .bool r] w fun e w' => e = .returned (.bool true) ∧ w' = w := by
  have k5 := bytes_any p q r w hp hq
  rw [decide_eq_false hs] at k5
  go_enter Try.func3, Try.ntmps3
  go_wp2_with (first
    | (go_at_call 5; refine k5.mono ?_; rintro e w' ⟨rfl, hw'⟩; subst w'))
  go_ret
  exact ⟨rfl, rfl⟩
end Go.Proofs.Qxb6616453a
