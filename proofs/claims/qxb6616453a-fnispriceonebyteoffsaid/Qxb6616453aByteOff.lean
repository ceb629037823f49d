/- FnIsPriceOneByteOff: the walk. -/
import Derived.Test.Qxb6616453aPrice
import Derived.Laws.IdiomStrings
namespace Go.Proofs.Qxb6616453a
open Go.RowKit
def tl (r : Bool) : List UInt8 := if r then rp else rc
theorem term_tl (r : Bool) : (term r).data.toList = tl r := by cases r <;> rfl
theorem tl_len (r : Bool) : (tl r).length = 12 := by cases r <;> rfl
theorem term_size (r : Bool) : (term r).size = 12 := by cases r <;> rfl
theorem term_get (r : Bool) (i : Nat) (h : i < 12) (h' : i < (term r).size) : (term r)[i]'h' = (tl r)[i]'(by rw [tl_len]; exact h) := by
  have e := term_tl r
  have h2 : (term r).data.toList[i]? = (tl r)[i]? := by rw [e]
  have hs : (term r).data.size = 12 := term_size r
  rw [List.getElem?_eq_getElem (by simp [hs, h]), List.getElem?_eq_getElem (by rw [tl_len]; exact h)] at h2
  exact Option.some.inj h2
theorem set_self (l : List UInt8) (i : Nat) (b : UInt8) (h : i < l.length) : (l.set i b == l) = (b == l[i]) := by
  rw [Bool.eq_iff_iff, beq_iff_eq, beq_iff_eq]
  constructor
  · intro e
    have := congrArg (fun m => m[i]?) e
    simp [h] at this
    exact this
  · rintro rfl; simp
theorem set_other (l m : List UInt8) (i : Nat) (b : UInt8) (h1 : l[1]? ≠ m[1]?) (h2 : l[2]? ≠ m[2]?) : (l.set i b == m) = false := by
  rw [beq_eq_false_iff_ne]
  intro e
  by_cases hi : i = 1
  · subst hi
    have := congrArg (fun m => m[2]?) e
    simp at this
    exact h2 this
  · have := congrArg (fun m => m[1]?) e
    simp [hi] at this
    exact h1 this
theorem price_set (r : Bool) (i : Nat) (b : UInt8) (h : i < (tl r).length) : price ((tl r).set i b) = (b == (tl r)[i]) := by
  unfold price
  cases r
  · show (rc.set i b == rc || rc.set i b == rp) = _
    rw [set_self rc i b h, set_other rc rp i b (by decide) (by decide), Bool.or_false]; rfl
  · show (rp.set i b == rc || rp.set i b == rp) = _
    rw [set_self rp i b h, set_other rp rc i b (by decide) (by decide), Bool.false_or]; rfl
theorem byte_eq (x : Int) (c : UInt8) (h0 : 0 ≤ x) (h1 : x < 256) : (x == (c.toNat : Int)) = (UInt8.ofNat x.toNat == c) := by
  rw [Bool.eq_iff_iff, beq_iff_eq, beq_iff_eq]
  constructor
  · intro e
    apply UInt8.toNat_inj.1
    simp
    omega
  · rintro rfl
    simp
    omega

set_option maxHeartbeats 400000 in
theorem off_in (r : Bool) (i : Nat) (x : Int) (w : World) (hx0 : 0 ≤ x) (hx1 : x < 256) (hi : i < 12) :
    Calls Try.prog 4 #[.bool r, .int .i64 (i : Int), .int .u8 x] w fun e w' => e = .returned (.bool true) ∧ Below w.heap.size w w' := by
  have k6 := term_any r w
  have hpt := price_term r
  have hsz : (term r).size = 12 := by cases r <;> rfl
  obtain ⟨cap, hcap⟩ : ∃ cap, cap = grownCap w (term r).size 0 5 := ⟨_, rfl⟩
  obtain ⟨C, hC⟩ : ∃ C, C = bytesRow (term r) cap := ⟨_, rfl⟩
  have kc := run_bytes_of_string (P := Try.prog) w 9 26 5 (term r) Try.underlying9 Try.underlying26 Try.underlying5
  rw [← hcap, ← hC, hsz] at kc
  have hC12 : 12 ≤ C.size := by
    rw [hC]; simp [bytesRow]
    have : (term r).data.size = 12 := hsz
    omega
  have hcell : ∀ j, j < 12 → C[j]? = some (.int .u8 (((term r).data.toList.getD j 0).toNat : Int)) := by
    intro j hj
    have hd : (term r).data.size = 12 := hsz
    rw [hC]; unfold bytesRow
    rw [Array.getElem?_append_left (by simp; omega)]
    simp [List.getD, hd, hj]
  have HC : Hid (C = bytesRow (term r) cap) := hC
  have HCap : Hid (cap = grownCap w (term r).size 0 5) := hcap
  clear hC hcap
  have HW : Hid ((w.alloc (.cells C 5 (C.size, C.size + 1))).heap[w.heap.size]? = some (.cells C 5 (C.size, C.size + 1))) := Go.heap_alloc_new w _
  have f1 : (w.alloc (.cells C 5 (C.size, C.size + 1))).cell? ⟨w.heap.size, i, none⟩ = some (.int .u8 (((term r).data.toList.getD i 0).toNat : Int)) := by
    rw [cell_of_row _ _ i C 5 _ HW.out]; exact hcell i hi
  have f2 : (w.alloc (.cells C 5 (C.size, C.size + 1))).frozen? ⟨w.heap.size, i, none⟩ = false := by
    have h := HW.out
    unfold World.frozen?
    simp only [h]
    simp; omega
  have hdi : decide ((i : Int) < 0) = false := by simp
  have hdj : decide ((65536 : Int) < (i : Int)) = false := by simp; omega
  have hlen : ((tl r).set i (UInt8.ofNat x.toNat)).length = 12 := by simp [tl_len]
  have kb := run_convert_bytes_back (P := Try.prog) ((w.alloc (.cells C 5 (C.size, C.size + 1))).setCell ⟨w.heap.size, i, none⟩ (.int .u8 x)).drew 26 9 5 ⟨w.heap.size, 0, none⟩ cap ((tl r).set i (UInt8.ofNat x.toNat)) Try.underlying26 Try.underlying5 Try.underlying9 (by
    intro j hj
    rw [hlen] at hj
    rw [Addr.add_lit, Nat.zero_add]
    show ((w.alloc (.cells C 5 (C.size, C.size + 1))).setCell ⟨w.heap.size, i, none⟩ (.int .u8 x)).cell? ⟨w.heap.size, j, none⟩ = _
    by_cases e : i = j
    · subst e
      rw [World.cell?_setCell_same' _ _ _ (by rw [f1]; rfl)]
      simp
      omega
    · rw [World.cell?_setCell_other (h := fun h => e (Addr.mk.inj h).2.1), cell_of_row _ _ j C 5 _ HW.out, hcell j hj, term_tl]
      simp [e, List.getD, tl_len, hj])
  rw [hlen] at kb
  have HCell : Hid (∀ j, j < 12 → C[j]? = some (.int .u8 (((term r).data.toList.getD j 0).toNat : Int))) := hcell
  clear hcell
  go_enter Try.func4, Try.ntmps4
  go_wp2_with (first
    | (go_at_call 6; refine k6.mono ?_; rintro e w' ⟨rfl, hw'⟩; subst w')
    | (go_at_call 7; refine (isPrice_any _ _).mono ?_; rintro e w' ⟨rfl, hw'⟩; subst w'))
  go_ret
  refine ⟨ret_bool ?_, (((Below.refl _ _).alloc (Nat.le_refl _) _).setCell (p := ⟨w.heap.size, i, none⟩) (Nat.le_refl _) _).drew⟩
  rw [price_set r i _ (by rw [tl_len]; exact hi), byte_eq x _ hx0 hx1, term_get r i hi]
  simp

set_option maxHeartbeats 400000 in
theorem off_out (r : Bool) (i x : Int) (w : World) (h : i < 0 ∨ 12 ≤ i) :
    Calls Try.prog 4 #[.bool r, .int .i64 i, .int .u8 x] w fun e w' => e = .returned (.bool true) ∧ Below w.heap.size w w' := by
  have k6 := term_any r w
  have hsz : (term r).size = 12 := by cases r <;> rfl
  by_cases h0 : i < 0
  · have hd : decide (i < 0) = true := by simp; omega
    go_enter Try.func4, Try.ntmps4
    go_wp2_with (first
      | (go_at_call 6; refine k6.mono ?_; rintro e w' ⟨rfl, hw'⟩; subst w'))
    go_ret
    exact ⟨rfl, Below.refl _ _⟩
  · have hd : decide (i < 0) = false := by simp; omega
    have h12 : 12 ≤ i := by omega
    by_cases h1 : 65536 < i
    · have hd2 : decide (65536 < i) = true := by simp; omega
      go_enter Try.func4, Try.ntmps4
      go_wp2_with (first
        | (go_at_call 6; refine k6.mono ?_; rintro e w' ⟨rfl, hw'⟩; subst w'))
      go_ret
      exact ⟨rfl, Below.refl _ _⟩
    · have hd2 : decide (65536 < i) = false := by simp; omega
      have hd3 : decide (12 ≤ i) = true := by simp; omega
      go_enter Try.func4, Try.ntmps4
      go_wp2_with (first
        | (go_at_call 6; refine k6.mono ?_; rintro e w' ⟨rfl, hw'⟩; subst w'))
      go_ret
      exact ⟨rfl, Below.refl _ _⟩
end Go.Proofs.Qxb6616453a
