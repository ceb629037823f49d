/- FnCutHostPathFirstColonOutsideBrackets: the walks. -/
import Derived.Test.Qxb6617638aRows
import Derived.WalkKit
import Derived.WalkSpells
import Derived.WalkLawsBesides
import Derived.Deep.QuietTactic
import Derived.BigQuiet
import Derived.Laws.IdiomStrings
namespace Go.Proofs.Qxb6617638a
open Go.RowKit

def bst (b : Bool) (c : UInt8) : Bool := if c = 91 then true else if c = 93 then false else b
def inB (l : List UInt8) : Bool := l.foldl bst false
theorem inB_snoc (l : List UInt8) (c : UInt8) : inB (l ++ [c]) = bst (inB l) c := by simp [inB, List.foldl_append]
def hcTo (l : List UInt8) (n : Nat) : Bool := (List.range n).any fun i => l[i]? == some 58 && !inB (l.take i)
theorem hcTo_succ (l : List UInt8) (n : Nat) : hcTo l (n + 1) = (hcTo l n || (l[n]? == some 58 && !inB (l.take n))) := by simp [hcTo, List.range_succ, List.any_append]
theorem hcTo_take (l : List UInt8) (i : Nat) : hcTo (l.take i) i = hcTo l i := by
  unfold hcTo
  rw [Bool.eq_iff_iff, List.any_eq_true, List.any_eq_true]
  constructor
  · rintro ⟨j, hj, h⟩
    have := List.mem_range.1 hj
    refine ⟨j, hj, ?_⟩
    simpa [List.getElem?_take, this, List.take_take, Nat.min_eq_left (Nat.le_of_lt this)] using h
  · rintro ⟨j, hj, h⟩
    have := List.mem_range.1 hj
    refine ⟨j, hj, ?_⟩
    simpa [List.getElem?_take, this, List.take_take, Nat.min_eq_left (Nat.le_of_lt this)] using h
theorem hcTo_yes (l : List UInt8) (n i : Nat) (hi : i < n) (h1 : l[i]? = some 58) (h2 : inB (l.take i) = false) : hcTo l n = true := by
  unfold hcTo
  rw [List.any_eq_true]
  exact ⟨i, List.mem_range.2 hi, by simp [h1, h2]⟩

theorem ret_bool {a b : Bool} (h : a = b) : Ending.returned (.bool a) = .returned (.bool b) := by rw [h]
theorem take_snoc (s : ByteArray) (k : Nat) (h : k < s.size) : s.data.toList.take (k + 1) = s.data.toList.take k ++ [s[k]] := by
  rw [List.take_succ_eq_append_getElem (by simpa using h)]; rfl
theorem byte_is (c : UInt8) (n : Nat) (hn : n < 256) : ((c.toNat : Int) == (n : Int)) = (c == UInt8.ofNat n) := by
  rw [Bool.eq_iff_iff, beq_iff_eq, beq_iff_eq]
  constructor
  · intro e
    apply UInt8.toNat_inj.1
    simp; omega
  · rintro rfl
    simp; omega

theorem b_yes {c : UInt8} {n : Nat} (hn : n < 256) (h : ((c.toNat : Int) == (n : Int)) = true) : c = UInt8.ofNat n := by
  rw [byte_is c n hn, beq_iff_eq] at h; exact h
theorem b_no {c : UInt8} {n : Nat} (hn : n < 256) (h : ((c.toNat : Int) == (n : Int)) = false) : c ≠ UInt8.ofNat n := by
  rw [byte_is c n hn, beq_eq_false_iff_ne] at h; exact h
theorem bst91 (b : Bool) (c : UInt8) (h : ((c.toNat : Int) == 91) = true) : bst b c = true := by
  have := b_yes (n := 91) (by omega) h
  unfold bst; rw [if_pos (by exact this)]
theorem bst93 (b : Bool) (c : UInt8) (h1 : ((c.toNat : Int) == 91) = false) (h2 : ((c.toNat : Int) == 93) = true) : bst b c = false := by
  have e1 := b_no (n := 91) (by omega) h1
  have e2 := b_yes (n := 93) (by omega) h2
  unfold bst; rw [if_neg (by exact e1), if_pos (by exact e2)]
theorem bstno (b : Bool) (c : UInt8) (h1 : ((c.toNat : Int) == 91) = false) (h2 : ((c.toNat : Int) == 93) = false) : bst b c = b := by
  have e1 := b_no (n := 91) (by omega) h1
  have e2 := b_no (n := 93) (by omega) h2
  unfold bst; rw [if_neg (by exact e1), if_neg (by exact e2)]

set_option maxHeartbeats 400000 in
theorem bytes_any (s : ByteArray) (w : World) (hs : s.size ≤ maxLen) : Calls Try.prog 4 #[.string s] w fun e w' => e = .returned (.bool (decide (s.size ≤ 1048576))) ∧ w' = w := by
  unfold maxLen at hs
  by_cases h : s.size ≤ 1048576
  · rw [decide_eq_true h]
    go_enter Try.func4, Try.ntmps4
    go_wp2
    go_ret
    exact ⟨rfl, rfl⟩
  · rw [decide_eq_false h]
    go_enter Try.func4, Try.ntmps4
    go_wp2
    go_ret
    exact ⟨rfl, rfl⟩

set_option maxHeartbeats 400000 in
theorem outside_any (s : ByteArray) (i : Nat) (w : World) (hs : s.size ≤ 100000000) (hi : i ≤ s.size) :
    Calls Try.prog 7 #[.string s, .int .i64 (i : Int)] w fun e w' => e = .returned (.bool (!inB (s.data.toList.take i))) ∧ w' = w := by
  go_enter Try.func7, Try.ntmps7
  go_wp2_with fail
  go_loop [5] (fun x => ∃ t : Nat, t ≤ i ∧ x = .int .i64 ((t : Int) - 1) ∧ inB (s.data.toList.take t) = inB (s.data.toList.take i)) (fun x => (intOf x + 1).toNat)
  case atStart => exact ⟨i, Nat.le_refl _, rfl, rfl⟩
  case round =>
    obtain ⟨t, ht, rfl, hinv⟩ := hrel
    rcases Nat.eq_zero_or_pos t with h0 | h0
    · subst h0
      have HI : Hid (inB (s.data.toList.take 0) = inB (s.data.toList.take i)) := hinv
      clear hinv
      go_wp2
      go_ret
      exact ⟨ret_bool (by rw [← HI.out]; rfl), rfl⟩
    · obtain ⟨q, rfl⟩ : ∃ q, t = q + 1 := ⟨t - 1, by omega⟩
      have hq : q < s.size := by omega
      have hsn : inB (s.data.toList.take (q + 1)) = bst (inB (s.data.toList.take q)) s[q] := by rw [take_snoc s q hq, inB_snoc]
      obtain ⟨c, hc⟩ : ∃ c, c = s[q] := ⟨_, rfl⟩
      rw [← hc] at hsn
      have HI : Hid (bst (inB (s.data.toList.take q)) c = inB (s.data.toList.take i)) := hsn.symm.trans hinv
      have HC : Hid (c = s[q]) := hc
      clear hsn hinv hc
      go_wp2
      · have h1 : ((s[q].toNat : Int) == 91) = true := by assumption
        go_ret
        exact ⟨ret_bool (by rw [← HI.out, HC.out, bst91 _ _ h1]; rfl), rfl⟩
      · have h1 : ((s[q].toNat : Int) == 91) = false := by assumption
        have h2 : ((s[q].toNat : Int) == 93) = true := by assumption
        go_ret
        exact ⟨ret_bool (by rw [← HI.out, HC.out, bst93 _ _ h1 h2]; rfl), rfl⟩
      · have h1 : ((s[q].toNat : Int) == 91) = false := by assumption
        have h2 : ((s[q].toNat : Int) == 93) = false := by assumption
        go_round
        case rel => exact ⟨q, by omega, rfl, by rw [← HI.out, HC.out, bstno _ _ h1 h2]⟩
        case measure => simp [intOf]

theorem get_byte (s : ByteArray) (k : Nat) (h : k < s.size) : s.data.toList[k]? = some s[k] := by
  rw [List.getElem?_eq_getElem (by simpa using h)]; rfl

set_option maxHeartbeats 400000 in
theorem has_any (s : ByteArray) (w : World) (hs : s.size ≤ 100000000) :
    Calls Try.prog 6 #[.string s] w fun e w' => e = .returned (.bool (hcTo s.data.toList s.size)) ∧ w' = w := by
  go_enter Try.func6, Try.ntmps6
  go_wp2_with fail
  go_loop [3] (fun x => ∃ k : Nat, k ≤ s.size ∧ x = .int .i64 k ∧ hcTo s.data.toList k = false) (fun x => s.size - (intOf x).toNat)
  case atStart => exact ⟨0, by omega, rfl, rfl⟩
  case round =>
    obtain ⟨k, hk, rfl, hinv⟩ := hrel
    by_cases hlt : k < s.size
    · have ko := outside_any s k w hs hk
      have hget := get_byte s k hlt
      have hsucc := hcTo_succ s.data.toList k
      rw [hinv, hget, Bool.false_or] at hsucc
      rcases h1 : ((s[k].toNat : Int) == 58) with _ | _
      · have hn : hcTo s.data.toList (k + 1) = false := by
          rw [hsucc]
          have := b_no (n := 58) (by omega) h1
          have e : (some s[k] == some (58 : UInt8)) = false := by rw [beq_eq_false_iff_ne]; intro e; exact this (Option.some.inj e)
          rw [e]; rfl
        have HN : Hid (hcTo s.data.toList (k + 1) = false) := hn
        clear hn hsucc hget hinv
        go_wp2_with fail
        go_round
        case rel => exact ⟨k + 1, by omega, by go_num, HN.out⟩
        case measure => simp [intOf]; omega
      · rcases h2 : inB (s.data.toList.take k) with _ | _
        · have hy : hcTo s.data.toList s.size = true := hcTo_yes _ _ k hlt (by rw [hget]; exact congrArg some (b_yes (n := 58) (by omega) h1)) h2
          have HY : Hid (hcTo s.data.toList s.size = true) := hy
          rw [h2] at ko
          clear hy hsucc hget hinv h2
          go_wp2_with (go_at_call 7; refine ko.mono ?_; rintro e w' ⟨rfl, hw'⟩; subst w')
          go_ret
          exact ⟨ret_bool (by rw [HY.out]), rfl⟩
        · have hn : hcTo s.data.toList (k + 1) = false := by rw [hsucc, h2]; simp
          have HN : Hid (hcTo s.data.toList (k + 1) = false) := hn
          rw [h2] at ko
          clear hn hsucc hget hinv h2
          go_wp2_with (go_at_call 7; refine ko.mono ?_; rintro e w' ⟨rfl, hw'⟩; subst w')
          go_round
          case rel => exact ⟨k + 1, by omega, by go_num, HN.out⟩
          case measure => simp [intOf]; omega
    · obtain rfl : k = s.size := by omega
      have HI : Hid (hcTo s.data.toList s.size = false) := hinv
      clear hinv
      go_wp2_with fail
      go_ret
      exact ⟨ret_bool (by rw [HI.out]), rfl⟩

set_option maxHeartbeats 400000 in
theorem cut_any (s : ByteArray) (w : World) (hs : s.size ≤ 100000000) :
    Calls Try.prog 8 #[.string s] w fun e w' => ((∃ i, ∃ h : i < s.size, s[i] = 58 ∧ inB (s.data.toList.take i) = false ∧ hcTo s.data.toList i = false ∧ e = .returned (.tuple #[.string (s.extract 0 i), .string (s.extract (i + 1) s.size), .bool true])) ∨
      (hcTo s.data.toList s.size = false ∧ e = .returned (.tuple #[.string s, .string ByteArray.empty, .bool false]))) ∧ Below w.heap.size w w' := by
  obtain ⟨cap, hcap⟩ : ∃ cap, cap = grownCap w s.size 0 5 := ⟨_, rfl⟩
  obtain ⟨C, hC⟩ : ∃ C, C = bytesRow s cap := ⟨_, rfl⟩
  have kc := run_bytes_of_string (P := Try.prog) w 9 26 5 s Try.underlying9 Try.underlying26 Try.underlying5
  rw [← hcap, ← hC] at kc
  have hcell : ∀ j (h : j < s.size), C[j]? = some (.int .u8 (s[j].toNat : Int)) := by
    intro j hj
    rw [hC]; unfold bytesRow
    have hd : j < s.data.size := hj
    rw [Array.getElem?_append_left (by simpa using hd)]
    simp
    exact ⟨s[j], Array.getElem?_eq_getElem hd, rfl⟩
  have HC : Hid (C = bytesRow s cap) := hC
  have HCap : Hid (cap = grownCap w s.size 0 5) := hcap
  clear hC hcap
  have HW : Hid ((w.alloc (.cells C 5 (C.size, C.size + 1))).heap[w.heap.size]? = some (.cells C 5 (C.size, C.size + 1))) := Go.heap_alloc_new w _
  have HCell : Hid (∀ j (h : j < s.size), (w.alloc (.cells C 5 (C.size, C.size + 1))).cell? ⟨w.heap.size, j, none⟩ = some (.int .u8 (s[j].toNat : Int))) := by
    intro j hj
    rw [cell_of_row _ _ j C 5 _ HW.out]; exact hcell j hj
  have hB : Below w.heap.size w (w.alloc (.cells C 5 (C.size, C.size + 1))) := (Below.refl _ _).alloc (Nat.le_refl _) _
  clear hcell
  go_enter Try.func8, Try.ntmps8
  go_wp2_with fail
  go_loop [5, 11] (fun b x => ∃ k : Nat, k ≤ s.size ∧ x = .int .i64 k ∧ b = .bool (inB (s.data.toList.take k)) ∧ hcTo s.data.toList k = false) (fun _ x => s.size - (intOf x).toNat)
  case atStart => exact ⟨0, by omega, rfl, rfl, rfl⟩
  case round =>
    obtain ⟨k, hk, rfl, rfl, hinv⟩ := hrel
    by_cases hlt : k < s.size
    · have c1 := HCell.out k hlt
      have hget := get_byte s k hlt
      have hsucc := hcTo_succ s.data.toList k
      rw [hinv, hget, Bool.false_or] at hsucc
      have hsn : inB (s.data.toList.take (k + 1)) = bst (inB (s.data.toList.take k)) s[k] := by rw [take_snoc s k hlt, inB_snoc]
      have H58 : ((s[k].toNat : Int) == 58) = false → hcTo s.data.toList (k + 1) = false := fun h1 => by
        rw [hsucc]
        have := b_no (n := 58) (by omega) h1
        have e : (some s[k] == some (58 : UInt8)) = false := by rw [beq_eq_false_iff_ne]; intro e; exact this (Option.some.inj e)
        rw [e]; rfl
      have HSN : Hid (inB (s.data.toList.take (k + 1)) = bst (inB (s.data.toList.take k)) s[k]) := hsn
      have HSU : Hid (hcTo s.data.toList (k + 1) = (some s[k] == some 58 && !inB (s.data.toList.take k))) := hsucc
      have HI : Hid (hcTo s.data.toList k = false) := hinv
      have HX : Hid (((s[k].toNat : Int) == 58) = false → hcTo s.data.toList (k + 1) = false) := H58
      clear hsucc hget hinv hsn H58
      obtain ⟨b, hb⟩ : ∃ b, b = inB (s.data.toList.take k) := ⟨_, rfl⟩
      have HB : Hid (b = inB (s.data.toList.take k)) := hb
      rw [← hb]
      clear hb
      rcases h91 : ((s[k].toNat : Int) == 91) with _ | _
      · rcases h93 : ((s[k].toNat : Int) == 93) with _ | _
        · rcases h58 : ((s[k].toNat : Int) == 58) with _ | _
          · have hn := HX.out h58
            have HN : Hid (hcTo s.data.toList (k + 1) = false ∧ b = inB (s.data.toList.take (k + 1))) := ⟨hn, by rw [HSN.out, bstno _ _ h91 h93]; exact HB.out⟩
            clear hn
            go_wp2_with fail
            go_round
            case rel => exact ⟨k + 1, by omega, by go_num, by rw [← HN.out.2], HN.out.1⟩
            case measure => simp [intOf]; omega
          · cases b
            · have HE : Hid (s[k] = 58) := b_yes (n := 58) (by omega) h58
              go_wp2_with fail
              go_region
              all_goals
                go_wp2
                go_ret3
                exact ⟨.inl ⟨k, hlt, HE.out, HB.out.symm, HI.out, rfl⟩, hB.drew.drew⟩
            · have HN : Hid (hcTo s.data.toList (k + 1) = false ∧ true = inB (s.data.toList.take (k + 1))) := ⟨by rw [HSU.out, ← HB.out]; simp, by rw [HSN.out, bstno _ _ h91 h93]; exact HB.out⟩
              go_wp2_with fail
              go_round
              case rel => exact ⟨k + 1, by omega, by go_num, by rw [← HN.out.2], HN.out.1⟩
              case measure => simp [intOf]; omega
        · have h58 : ((s[k].toNat : Int) == 58) = false := by
            have := b_yes (n := 93) (by omega) h93
            rw [this]; decide
          have HN : Hid (hcTo s.data.toList (k + 1) = false ∧ false = inB (s.data.toList.take (k + 1))) := ⟨HX.out h58, by rw [HSN.out, bst93 _ _ h91 h93]⟩
          clear h58
          go_wp2_with fail
          go_round
          case rel => exact ⟨k + 1, by omega, by go_num, by rw [← HN.out.2], HN.out.1⟩
          case measure => simp [intOf]; omega
      · have h58 : ((s[k].toNat : Int) == 58) = false := by
          have := b_yes (n := 91) (by omega) h91
          rw [this]; decide
        have HN : Hid (hcTo s.data.toList (k + 1) = false ∧ true = inB (s.data.toList.take (k + 1))) := ⟨HX.out h58, by rw [HSN.out, bst91 _ _ h91]⟩
        clear h58
        go_wp2_with fail
        go_round
        case rel => exact ⟨k + 1, by omega, by go_num, by rw [← HN.out.2], HN.out.1⟩
        case measure => simp [intOf]; omega
    · obtain rfl : k = s.size := by omega
      have HI : Hid (hcTo s.data.toList s.size = false) := hinv
      clear hinv
      go_wp2
      go_ret3
      exact ⟨.inr ⟨HI.out, rfl⟩, hB.drew⟩

def CutPost (s : ByteArray) (w : World) (e : Ending) (w' : World) : Prop := ((∃ i, ∃ h : i < s.size, s[i] = 58 ∧ inB (s.data.toList.take i) = false ∧ hcTo s.data.toList i = false ∧ e = .returned (.tuple #[.string (s.extract 0 i), .string (s.extract (i + 1) s.size), .bool true])) ∨
      (hcTo s.data.toList s.size = false ∧ e = .returned (.tuple #[.string s, .string ByteArray.empty, .bool false]))) ∧ Below w.heap.size w w'

set_option maxHeartbeats 400000 in
theorem zcut_any (s : ByteArray) (w : World) (hs : s.size ≤ 100000000) : Calls Try.prog 5 #[.string s] w fun e w' => CutPost s w e w' := by
  go_enter Try.func5, Try.ntmps5
  go_wp2_with fail
  refine (cut_any s w hs).mono ?_
  rintro e w1 ⟨h, hB1⟩
  rcases h with ⟨i, hi, h58, hin, hh, rfl⟩ | ⟨hno, rfl⟩
  · have HP : Hid (s[i] = 58 ∧ inB (s.data.toList.take i) = false ∧ hcTo s.data.toList i = false) := ⟨h58, hin, hh⟩
    clear h58 hin hh
    go_wp2
    go_ret3
    exact ⟨.inl ⟨i, hi, HP.out.1, HP.out.2.1, HP.out.2.2, rfl⟩, hB1⟩
  · have HP : Hid (hcTo s.data.toList s.size = false) := hno
    clear hno
    go_wp2
    go_ret3
    exact ⟨.inr ⟨HP.out, rfl⟩, hB1⟩

theorem ext_size (s : ByteArray) (i : Nat) (hi : i < s.size) : (s.extract 0 i).size = i := by simp; omega
theorem ext_data (s : ByteArray) (i : Nat) : (s.extract 0 i).data.toList = s.data.toList.take i := by
  rw [ByteArray.data_extract]; simp

set_option maxHeartbeats 1000000 in
theorem law_main (s : ByteArray) (w : World) (hs : s.size ≤ 4096) :
    Calls Try.prog 3 #[.string s] w fun e w' => e = .returned (.bool true) ∧ Below w.heap.size w w' := by
  have k4 := bytes_any s w (by unfold maxLen; omega)
  rw [decide_eq_true (show s.size ≤ 1048576 by omega)] at k4
  have k5 := zcut_any s w (by omega)
  have hd : decide ((4096 : Int) < (s.size : Int)) = false := by simp; omega
  go_enter Try.func3, Try.ntmps3
  go_wp2_with (go_at_call 4; refine k4.mono ?_; rintro e w' ⟨rfl, hw'⟩; subst w')
  refine k5.mono ?_
  rintro e w1 ⟨h, hB1⟩
  rcases h with ⟨i, hi, h58, hin, hh, rfl⟩ | ⟨hno, rfl⟩
  · have ku : hcTo (s.extract 0 i).data.toList (s.extract 0 i).size = false := by rw [ext_size s i hi, ext_data, hcTo_take]; exact hh
    have k6 := has_any (s.extract 0 i) w1 (by rw [ext_size s i hi]; omega)
    rw [ku] at k6
    have k7 := outside_any s i w1 (by omega) (by omega)
    rw [hin] at k7
    have hus := ext_size s i hi
    have h58' : ((s[i].toNat : Int) != 58) = false := by rw [h58]; decide
    clear k4 k5 ku hin hh h58
    go_wp2_with fail
    refine k7.mono ?_
    rintro e w' ⟨rfl, hw'⟩
    subst w'
    go_wp2_with fail
    refine k6.mono ?_
    rintro e w' ⟨rfl, hw'⟩
    subst w'
    go_wp2
    go_ret
    exact ⟨rfl, hB1⟩
  · have k6 := has_any s w1 (by omega)
    rw [hno] at k6
    clear hno k4 k5
    go_wp2_with (go_at_call 6; refine k6.mono ?_; rintro e w' ⟨rfl, hw'⟩; subst w')
    go_ret
    exact ⟨rfl, hB1⟩

set_option maxHeartbeats 400000 in
theorem law_long (s : ByteArray) (w : World) (hm : s.size ≤ maxLen) (hs : 4096 < s.size) :
    Calls Try.prog 3 #[.string s] w fun e w' => e = .returned (.bool true) ∧ Below w.heap.size w w' := by
  have k4 := bytes_any s w hm
  have hd : decide ((4096 : Int) < (s.size : Int)) = true := by simp; omega
  by_cases h : s.size ≤ 1048576
  · rw [decide_eq_true h] at k4
    go_enter Try.func3, Try.ntmps3
    go_wp2_with (go_at_call 4; refine k4.mono ?_; rintro e w' ⟨rfl, hw'⟩; subst w')
    go_ret
    exact ⟨rfl, Below.refl _ _⟩
  · rw [decide_eq_false h] at k4
    go_enter Try.func3, Try.ntmps3
    go_wp2_with (go_at_call 4; refine k4.mono ?_; rintro e w' ⟨rfl, hw'⟩; subst w')
    go_ret
    exact ⟨rfl, Below.refl _ _⟩
end Go.Proofs.Qxb6617638a
