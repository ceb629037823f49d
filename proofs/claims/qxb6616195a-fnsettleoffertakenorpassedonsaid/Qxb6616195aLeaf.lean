/- Readings of []byte and []Busy; compareBytes, sameBytes. -/
import Derived.Test.Qxb6616195aRows
import Derived.WalkKit
import Derived.WalkSpells
import Derived.WalkLawsBesides
import Derived.Deep.QuietTactic
import Derived.BigQuiet
import Derived.Below
import Derived.Laws.IdiomStrings
namespace Go.Proofs.Qxb6616195a
open Go.RowKit

def CELLS (w : World) (b o : Nat) (l : List UInt8) : Prop := ∀ j x, l[j]? = some x → w.cell? ⟨b, o + j, none⟩ = some (.int .u8 (x.toNat : Int))
/-- v is a []byte whose bytes are l; S: which blocks it may lie in. -/
def KEY (w : World) (S : Nat → Prop) (v : Value) (l : List UInt8) : Prop := ∃ a c b o, v = .slice a l.length c ∧ (0 < l.length → a = some ⟨b, o, none⟩ ∧ S b ∧ b < w.heap.size) ∧ CELLS w b o l
abbrev Bz := List UInt8 × Int
def BCELLS (w : World) (S : Nat → Prop) (b o : Nat) (A : List Bz) : Prop := ∀ j p, A[j]? = some p → ∃ kv, w.cell? ⟨b, o + j * 2, none⟩ = some kv ∧ KEY w S kv p.1 ∧ w.cell? ⟨b, o + j * 2 + 1, none⟩ = some (.int .i64 p.2)
/-- v is a []Busy (or a []busyCount) that reads as A. -/
def BUSY (w : World) (S : Nat → Prop) (v : Value) (A : List Bz) : Prop := ∃ a c b o, v = .slice a A.length c ∧ (0 < A.length → a = some ⟨b, o, none⟩ ∧ S b ∧ b < w.heap.size) ∧ BCELLS w S b o A

theorem CELLS.keep {w w' : World} {b o : Nat} {l : List UInt8} (h : CELLS w b o l) (hb : 0 < l.length → w'.heap[b]? = w.heap[b]?) : CELLS w' b o l := by
  intro j x hx
  rw [← h j x hx]
  exact World.cell?_of_block (w := w) (hb (by have := (List.getElem?_eq_some_iff.1 hx).1; omega))
theorem KEY.keep {w w' : World} {S : Nat → Prop} {v : Value} {l : List UInt8} (h : KEY w S v l) (hs : w.heap.size ≤ w'.heap.size) (hk : ∀ b, S b → b < w.heap.size → w'.heap[b]? = w.heap[b]?) : KEY w' S v l := by
  obtain ⟨a, c, b, o, e, ha, hc⟩ := h
  exact ⟨a, c, b, o, e, fun hp => ⟨(ha hp).1, (ha hp).2.1, by have := (ha hp).2.2; omega⟩, hc.keep fun hp => hk b (ha hp).2.1 (ha hp).2.2⟩
theorem BUSY.keep {w w' : World} {S : Nat → Prop} {v : Value} {A : List Bz} (h : BUSY w S v A) (hs : w.heap.size ≤ w'.heap.size) (hk : ∀ b, S b → b < w.heap.size → w'.heap[b]? = w.heap[b]?) : BUSY w' S v A := by
  obtain ⟨a, c, b, o, e, ha, hc⟩ := h
  refine ⟨a, c, b, o, e, fun hp => ⟨(ha hp).1, (ha hp).2.1, by have := (ha hp).2.2; omega⟩, ?_⟩
  intro j p hp
  have hl : 0 < A.length := by have := (List.getElem?_eq_some_iff.1 hp).1; omega
  have hb := hk b (ha hl).2.1 (ha hl).2.2
  obtain ⟨kv, h1, h2, h3⟩ := hc j p hp
  exact ⟨kv, (World.cell?_of_block (w := w) hb).trans h1, h2.keep hs hk, (World.cell?_of_block (w := w) hb).trans h3⟩
theorem KEY.below {w w' : World} {S : Nat → Prop} {v : Value} {l : List UInt8} (h : KEY w S v l) (B : Below w.heap.size w w') : KEY w' S v l := h.keep B.size fun b _ hb => B.block b hb
theorem BUSY.below {w w' : World} {S : Nat → Prop} {v : Value} {A : List Bz} (h : BUSY w S v A) (B : Below w.heap.size w w') : BUSY w' S v A := h.keep B.size fun b _ hb => B.block b hb

theorem ret_bool {a b : Bool} (h : a = b) : Ending.returned (.bool a) = .returned (.bool b) := by rw [h]
theorem ret_int {k : IntKind} {a b : Int} (h : a = b) : Ending.returned (.int k a) = .returned (.int k b) := by rw [h]

theorem take_eq_of {l m : List UInt8} {i : Nat} {x y : UInt8} (hx : l[i]? = some x) (hy : m[i]? = some y) (h : l.take i = m.take i) : (l.take (i + 1) = m.take (i + 1)) ↔ x = y := by
  obtain ⟨h1, e1⟩ := List.getElem?_eq_some_iff.1 hx
  obtain ⟨h2, e2⟩ := List.getElem?_eq_some_iff.1 hy
  rw [List.take_succ_eq_append_getElem h1, List.take_succ_eq_append_getElem h2, h, e1, e2]
  simp

def CmpR (l m : List UInt8) (e : Ending) : Prop := ∃ r : Int, e = .returned (.int .i64 r) ∧ (r = 0 ↔ l = m)
theorem CmpR.zero {l m : List UInt8} (h : l = m) : CmpR l m (.returned (.int .i64 0)) := ⟨0, rfl, by simp [h]⟩
theorem CmpR.non {l m : List UInt8} {r : Int} (hr : r ≠ 0) (h : l ≠ m) : CmpR l m (.returned (.int .i64 r)) := ⟨r, rfl, by simp [h, hr]⟩

theorem drew2 (w : World) (a b : Nat) : (w.drewN a).drewN b = w.drewN (a + b) := by simp [World.drewN, Nat.add_assoc]
theorem drew3 (w : World) (a b c : Nat) : ∃ n, ((w.drewN a).drewN b).drewN c = w.drewN n := ⟨a + b + c, by rw [drew2, drew2, Nat.add_assoc]⟩
theorem drew_below (w : World) (n : Nat) (B : Nat) : Below B w (w.drewN n) := ⟨rfl, rfl, rfl, Nat.le_refl _, fun _ _ => rfl⟩

set_option maxHeartbeats 400000 in
theorem compare_walk (w : World) (l m : List UInt8) (a1 a2 : Option Addr) (c1 c2 b1 o1 b2 o2 p q : Nat) (hp : p = l.length) (hq : q = m.length) (ha1 : 0 < p → a1 = some ⟨b1, o1, none⟩) (ha2 : 0 < q → a2 = some ⟨b2, o2, none⟩)
    (hc1 : CELLS w b1 o1 l) (hc2 : CELLS w b2 o2 m) (hl : p ≤ 1048576) (hm : q ≤ 1048576) :
    Calls Try.prog 33 #[.slice a1 p c1, .slice a2 q c2] w fun e w' => CmpR l m e ∧ ∃ n, w' = w.drewN n := by
  have HP : Hid (p = l.length) := hp
  have HQ : Hid (q = m.length) := hq
  clear hp hq
  have hfin : ∀ i, l.take i = m.take i → min p q ≤ i → (p = q ↔ l = m) := by
    intro i ht hi
    constructor
    · intro e
      have h1 : l.take i = l := List.take_of_length_le (by have := HP.out; have := HQ.out; omega)
      have h2 : m.take i = m := List.take_of_length_le (by have := HP.out; have := HQ.out; omega)
      rw [h1, h2] at ht; exact ht
    · intro e; have h1 := HP.out; have h2 := HQ.out; rw [h1, h2, e]
  have HF : Hid (∀ i, l.take i = m.take i → min p q ≤ i → (p = q ↔ l = m)) := hfin
  clear hfin
  have go : ∀ (i : Nat), i < p → i < q → l.take i = m.take i → ∃ x y : UInt8, l[i]? = some x ∧ m[i]? = some y ∧ w.cell? ⟨b1, o1 + i, none⟩ = some (.int .u8 (x.toNat : Int)) ∧ w.cell? ⟨b2, o2 + i, none⟩ = some (.int .u8 (y.toNat : Int)) ∧ (l.take (i + 1) = m.take (i + 1) ↔ x = y) := by
    intro i h1 h2 ht
    have e1 : l[i]? = some (l[i]'(by have := HP.out; omega)) := List.getElem?_eq_getElem _
    have e2 : m[i]? = some (m[i]'(by have := HQ.out; omega)) := List.getElem?_eq_getElem _
    exact ⟨_, _, e1, e2, hc1 i _ e1, hc2 i _ e2, take_eq_of e1 e2 ht⟩
  have HG : Hid (∀ (i : Nat), i < p → i < q → l.take i = m.take i → ∃ x y : UInt8, l[i]? = some x ∧ m[i]? = some y ∧ w.cell? ⟨b1, o1 + i, none⟩ = some (.int .u8 (x.toNat : Int)) ∧ w.cell? ⟨b2, o2 + i, none⟩ = some (.int .u8 (y.toNat : Int)) ∧ (l.take (i + 1) = m.take (i + 1) ↔ x = y)) := go
  clear go hc1 hc2
  by_cases hlt : q < p
  · have HA1 : Hid (0 < p → a1 = some ⟨b1, o1, none⟩) := ha1
    have HA2 : Hid (0 < q → a2 = some ⟨b2, o2, none⟩) := ha2
    clear ha1 ha2
    go_enter Try.func33, Try.ntmps33
    go_wp2_with fail
    go_loopw [6] (fun x wr => ∃ i : Nat, i ≤ q ∧ x = .int .i64 i ∧ l.take i = m.take i ∧ ∃ n, wr = w.drewN n) (fun x _ => q - (intOf x).toNat)
    case atStart => exact ⟨0, by omega, rfl, rfl, 0, rfl⟩
    case round =>
      obtain ⟨i, hi, rfl, ht, nn, rfl⟩ := hrel
      by_cases hlt2 : i < q
      · obtain ⟨x, y, hx, hy, d1, d2, hiff⟩ := HG.out i (by omega) (by omega) ht
        obtain rfl := HA1.out (by omega)
        obtain rfl := HA2.out (by omega)
        clear ht hx hy
        by_cases hxy : x = y
        · have HT : Hid (l.take (i + 1) = m.take (i + 1)) := hiff.2 hxy
          clear hiff
          subst hxy
          go_wp2
          go_quiet (fail)
          go_wp2
          go_roundw
          case rel => exact ⟨i + 1, by omega, by go_num, HT.out, _, rfl⟩
          case measure => simp [intOf]; omega
        · have hd : ((x.toNat : Int) == (y.toNat : Int)) = false := by
            rw [beq_eq_false_iff_ne]; intro e; exact hxy (UInt8.toNat_inj.1 (by omega))
          have HN : Hid (l ≠ m) := fun e => hxy (hiff.1 (by rw [e]))
          clear hiff hxy
          go_wp2
          go_quiet (fail)
          go_wp2
          go_quiet (fail)
          go_wp2
          · go_ret
            exact ⟨CmpR.non (by omega) HN.out, drew3 _ _ _ _⟩
          · go_ret
            exact ⟨CmpR.non (by omega) HN.out, drew3 _ _ _ _⟩
      · have hin : i = q := by omega
        have HE : Hid (p = q ↔ l = m) := HF.out i ht (by omega)
        clear ht
        subst i
        go_wp2
        go_ret
        exact ⟨CmpR.non (by omega) (fun e => by have := HE.out.2 e; omega), _, rfl⟩
  · have HA1 : Hid (0 < p → a1 = some ⟨b1, o1, none⟩) := ha1
    have HA2 : Hid (0 < q → a2 = some ⟨b2, o2, none⟩) := ha2
    clear ha1 ha2
    go_enter Try.func33, Try.ntmps33
    go_wp2_with fail
    go_loopw [6] (fun x wr => ∃ i : Nat, i ≤ p ∧ x = .int .i64 i ∧ l.take i = m.take i ∧ ∃ n, wr = w.drewN n) (fun x _ => p - (intOf x).toNat)
    case atStart => exact ⟨0, by omega, rfl, rfl, 0, rfl⟩
    case round =>
      obtain ⟨i, hi, rfl, ht, nn, rfl⟩ := hrel
      by_cases hlt2 : i < p
      · obtain ⟨x, y, hx, hy, d1, d2, hiff⟩ := HG.out i (by omega) (by omega) ht
        obtain rfl := HA1.out (by omega)
        obtain rfl := HA2.out (by omega)
        clear ht hx hy
        by_cases hxy : x = y
        · have HT : Hid (l.take (i + 1) = m.take (i + 1)) := hiff.2 hxy
          clear hiff
          subst hxy
          go_wp2
          go_quiet (fail)
          go_wp2
          go_roundw
          case rel => exact ⟨i + 1, by omega, by go_num, HT.out, _, rfl⟩
          case measure => simp [intOf]; omega
        · have hd : ((x.toNat : Int) == (y.toNat : Int)) = false := by
            rw [beq_eq_false_iff_ne]; intro e; exact hxy (UInt8.toNat_inj.1 (by omega))
          have HN : Hid (l ≠ m) := fun e => hxy (hiff.1 (by rw [e]))
          clear hiff hxy
          go_wp2
          go_quiet (fail)
          go_wp2
          go_quiet (fail)
          go_wp2
          · go_ret
            exact ⟨CmpR.non (by omega) HN.out, drew3 _ _ _ _⟩
          · go_ret
            exact ⟨CmpR.non (by omega) HN.out, drew3 _ _ _ _⟩
      · have hin : i = p := by omega
        have HE : Hid (p = q ↔ l = m) := HF.out i ht (by omega)
        clear ht
        subst i
        by_cases hpq : p < q
        · go_wp2
          go_ret
          exact ⟨CmpR.non (by omega) (fun e => by have := HE.out.2 e; omega), _, rfl⟩
        · obtain rfl : p = q := by omega
          go_wp2
          go_ret
          exact ⟨CmpR.zero (HE.out.1 (by trivial)), _, rfl⟩

theorem same_any (w : World) {S1 S2 : Nat → Prop} (l m : List UInt8) (v1 v2 : Value) (h1 : KEY w S1 v1 l) (h2 : KEY w S2 v2 m) (hl : l.length ≤ 1048576) (hm : m.length ≤ 1048576) :
    Calls Try.prog 25 #[v1, v2] w fun e w' => e = .returned (.bool (decide (l = m))) ∧ ∃ n, w' = w.drewN n := by
  obtain ⟨a1, c1, b1, o1, rfl, ha1, hc1⟩ := h1
  obtain ⟨a2, c2, b2, o2, rfl, ha2, hc2⟩ := h2
  have k := compare_walk w l m a1 a2 c1 c2 b1 o1 b2 o2 _ _ rfl rfl (fun h => (ha1 h).1) (fun h => (ha2 h).1) hc1 hc2 hl hm
  clear ha1 ha2 hc1 hc2
  go_enter Try.func25, Try.ntmps25
  go_wp2_with (first
    | (go_at_call 33; refine k.mono ?_; rintro e w' ⟨⟨r, rfl, hr⟩, n, rfl⟩))
  go_ret
  refine ⟨ret_bool ?_, _, rfl⟩
  rw [Bool.eq_iff_iff]
  simpa using hr
end Go.Proofs.Qxb6616195a
