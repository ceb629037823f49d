/- Rows that the call makes and fills; what is only read; cloneBytes. -/
import Derived.Test.Qxb6616195aReads
import Derived.OwnWalk
import Derived.Laws.OwnMore
import Derived.Lib.SliceRun
namespace Go.Proofs.Qxb6616195a
open Go.RowKit

theorem Try.info5 : (Try.prog.info? 5).map (fun i => (i.zero, i.size, i.bytes)) = some (some (.int .u8 0), 1, 1) := by kernel_rfl
theorem Try.info9 : (Try.prog.info? 9).map (fun i => (i.zero, i.size, i.bytes)) = some (some (.string ByteArray.empty), 1, 16) := by kernel_rfl
theorem Try.info49 : (Try.prog.info? 49).map (fun i => (i.zero, i.size, i.bytes)) = some (some (.agg #[.slice none 0 0, .int .i64 0]), 2, 32) := by kernel_rfl
theorem Try.info69 : (Try.prog.info? 69).map (fun i => (i.zero, i.size, i.bytes)) = some (some (.agg #[.slice none 0 0, .int .i64 0]), 2, 32) := by kernel_rfl
theorem info_parts {P : Program} {t : TypeId} {z : Value} {s b : Nat} (h : (P.info? t).map (fun i => (i.zero, i.size, i.bytes)) = some (some z, s, b)) : ∃ i, P.info? t = some i ∧ i.zero = some z ∧ i.size = s ∧ i.bytes = b := by
  obtain ⟨i, hi, he⟩ := Option.map_eq_some_iff.1 h
  simp at he
  exact ⟨i, hi, he.1, he.2.1, he.2.2⟩

/-- A block whose element type is only read once it is filled. -/
def ro (w : World) (b : Nat) : Prop := ∃ C t m, w.heap[b]? = some (.cells C t m) ∧ (t = 5 ∨ t = 9 ∨ t = 49 ∨ t = 69)
def RoK (w w' : World) : Prop := w.heap.size ≤ w'.heap.size ∧ ∀ b, ro w b → w'.heap[b]? = w.heap[b]?
def ty (t : TypeId) (w : World) (b : Nat) : Prop := ∃ C m, w.heap[b]? = some (.cells C t m)
theorem ty.lt {t : TypeId} {w : World} {b : Nat} (h : ty t w b) : b < w.heap.size := by
  obtain ⟨C, m, h⟩ := h
  exact (Array.getElem?_eq_some_iff.1 h).1
theorem ty.ro5 {w : World} {b : Nat} (h : ty 5 w b) : ro w b := by
  obtain ⟨C, m, h⟩ := h
  exact ⟨C, 5, m, h, .inl rfl⟩
theorem ro.lt {w : World} {b : Nat} (h : ro w b) : b < w.heap.size := by
  obtain ⟨C, t, m, h, _⟩ := h
  exact (Array.getElem?_eq_some_iff.1 h).1
theorem RoK.refl (w : World) : RoK w w := ⟨Nat.le_refl _, fun _ _ => rfl⟩
theorem RoK.ro {w w' : World} (h : RoK w w') {b : Nat} (hb : ro w b) : ro w' b := by
  have e := h.2 b hb
  obtain ⟨C, t, m, h1, h2⟩ := hb
  exact ⟨C, t, m, e.trans h1, h2⟩
theorem RoK.trans {w w' w'' : World} (h : RoK w w') (k : RoK w' w'') : RoK w w'' := ⟨Nat.le_trans h.1 k.1, fun b hb => (k.2 b (h.ro hb)).trans (h.2 b hb)⟩
theorem RoK.below {w w' : World} (h : Below w.heap.size w w') : RoK w w' := ⟨h.size, fun b hb => h.block b hb.lt⟩
theorem KEY.mono {w : World} {S S' : Nat → Prop} {v : Value} {l : List UInt8} (h : KEY w S v l) (hS : ∀ b, S b → S' b) : KEY w S' v l := by
  obtain ⟨a, c, b, o, e, ha, hc⟩ := h
  exact ⟨a, c, b, o, e, fun hp => ⟨(ha hp).1, hS _ (ha hp).2.1, (ha hp).2.2⟩, hc⟩
theorem BUSY.mono {w : World} {S S' : Nat → Prop} {v : Value} {A : List Bz} (h : BUSY w S v A) (hS : ∀ b, S b → S' b) : BUSY w S' v A := by
  obtain ⟨a, c, b, o, e, ha, hc⟩ := h
  refine ⟨a, c, b, o, e, fun hp => ⟨(ha hp).1, hS _ (ha hp).2.1, (ha hp).2.2⟩, fun j p hp => ?_⟩
  obtain ⟨kv, h1, h2, h3⟩ := hc j p hp
  exact ⟨kv, h1, h2.mono hS, h3⟩
theorem KEY.rok {w w' : World} {v : Value} {l : List UInt8} (h : KEY w (ro w) v l) (k : RoK w w') : KEY w' (ro w') v l := (h.keep k.1 fun b hb _ => k.2 b hb).mono fun _ hb => k.ro hb
theorem BUSY.rok {w w' : World} {v : Value} {A : List Bz} (h : BUSY w (ro w) v A) (k : RoK w w') : BUSY w' (ro w') v A := (h.keep k.1 fun b hb _ => k.2 b hb).mono fun _ hb => k.ro hb

theorem KEY.tyk {w w' : World} {v : Value} {l : List UInt8} (h : KEY w (ty 5 w) v l) (hs : w.heap.size ≤ w'.heap.size) (k : ∀ b, ty 5 w b → w'.heap[b]? = w.heap[b]?) : KEY w' (ty 5 w') v l :=
  (h.keep hs fun b hb _ => k b hb).mono fun b hb => by
    have e := k b hb
    obtain ⟨C, m, h1⟩ := hb
    exact ⟨C, m, e.trans h1⟩
/-- Row K of n elements of s cells each is being filled with ys: m cells are laid. -/
def FILL (w wr : World) (e s K n : Nat) (ys : List Value) (m : Nat) : Prop := ∃ xs, wr.ownsRow w.heap.size e s (.slice (some ⟨K, 0, none⟩) n n) n xs ∧ (∀ t, t < m → xs[t]? = ys[t]?) ∧ Below w.heap.size w wr

theorem owns_block {w : World} {base e size n m g cap : Nat} {xs : List Value} (h : w.ownsRow base e size (.slice (some ⟨g, 0, none⟩) m cap) n xs) : ∃ cur, w.heap[g]? = some (.cells cur e (0, 0)) ∧ cur.size = cap * size ∧ m = n ∧ n ≤ cap ∧ base ≤ g ∧ cur.toList.take (n * size) = xs := by
  rcases h.2 with ⟨h', _⟩ | ⟨g', cap', cur, h', hb, hg, hnc, _, hcs, htake⟩
  · simp at h'
  · simp only [Value.slice.injEq, Option.some.injEq, Addr.mk.injEq, and_true] at h'
    obtain ⟨rfl, rfl, rfl⟩ := h'
    exact ⟨cur, hg, hcs, rfl, hnc, hb, htake⟩
theorem owns_heap {w w' : World} {base e size n : Nat} {v : Value} {xs : List Value} (h : w.ownsRow base e size v n xs) (hg : ∀ g, v.ownBlock = some g → w'.heap[g]? = w.heap[g]?) : w'.ownsRow base e size v n xs := by
  refine ⟨h.1, ?_⟩
  rcases h.2 with hn | ⟨g, cap, cur, rfl, hb, hgg, rest⟩
  · exact .inl hn
  · exact .inr ⟨g, cap, cur, rfl, hb, by rw [hg g rfl]; exact hgg, rest⟩

section
variable {w wr : World} {e s K n m : Nat} {ys : List Value}
theorem FILL.facts (h : FILL w wr e s K n ys m) {i : Nat} (hm : i < n * s) : (∃ x, wr.cell? ⟨K, i, none⟩ = some x) ∧ wr.frozen? ⟨K, i, none⟩ = false ∧ w.heap.size ≤ K ∧ K < wr.heap.size := by
  obtain ⟨xs, h1, _, hb⟩ := h
  obtain ⟨cur, g1, _, _, _, hK, _⟩ := owns_block h1
  have l1 := h1.1
  refine ⟨⟨xs[i]'(by omega), ?_⟩, h1.frozenAt _, hK, (Array.getElem?_eq_some_iff.1 g1).1⟩
  rw [h1.cellAt i hm]; exact List.getElem?_eq_getElem _
theorem FILL.bel (h : FILL w wr e s K n ys m) : Below w.heap.size w wr := h.choose_spec.2.2
theorem FILL.step (h : FILL w wr e s K n ys m) (hm : m < n * s) {v : Value} (hv : ys[m]? = some v) : FILL w (wr.setCell ⟨K, m, none⟩ v) e s K n ys (m + 1) := by
  have hf := h.facts hm
  obtain ⟨xs, h1, h2, hb⟩ := h
  have l1 := h1.1
  refine ⟨xs.set m v, (h1.stored m v).1, ?_, hb.setCell hf.2.2.1 _⟩
  intro t ht
  rw [List.getElem?_set]
  by_cases e : m = t
  · subst e; simp [hv]; omega
  · rw [if_neg e]; exact h2 t (by omega)
theorem FILL.below {wr' : World} (h : FILL w wr e s K n ys m) (hb' : Below wr.heap.size wr wr') : FILL w wr' e s K n ys m := by
  obtain ⟨xs, h1, h2, hb⟩ := h
  obtain ⟨cur, g1, _⟩ := owns_block h1
  have hlt := (Array.getElem?_eq_some_iff.1 g1).1
  exact ⟨xs, owns_heap h1 (fun g hg => by simp [Value.ownBlock] at hg; subst hg; exact hb'.block _ hlt), h2, hb.trans (hb'.mono hb.size)⟩
theorem FILL.fin (h : FILL w wr e s K n ys m) (hm : m = n * s) (hl : ys.length = n * s) : wr.ownsRow w.heap.size e s (.slice (some ⟨K, 0, none⟩) n n) n ys ∧ Below w.heap.size w wr := by
  obtain ⟨xs, h1, h2, hb⟩ := h
  have l1 := h1.1
  have : xs = ys := by
    apply List.ext_getElem?
    intro t
    by_cases ht : t < m
    · exact h2 t ht
    · rw [List.getElem?_eq_none (by omega), List.getElem?_eq_none (by omega)]
  subst this
  exact ⟨h1, hb⟩
end

def byteV (x : UInt8) : Value := .int .u8 (x.toNat : Int)
theorem owns_key {w : World} {base K n : Nat} {l : List UInt8} (hn : n = l.length) (h : w.ownsRow base 5 1 (.slice (some ⟨K, 0, none⟩) n n) n (l.map byteV)) : KEY w (ty 5 w) (.slice (some ⟨K, 0, none⟩) n n) l := by
  obtain ⟨cur, g1, _⟩ := owns_block h
  subst hn
  refine ⟨_, _, K, 0, rfl, fun _ => ⟨rfl, ⟨cur, _, g1⟩, (Array.getElem?_eq_some_iff.1 g1).1⟩, ?_⟩
  intro j x hx
  have := (List.getElem?_eq_some_iff.1 hx).1
  rw [Nat.zero_add, h.cellAt j (by omega), List.getElem?_map, hx]; rfl

set_option maxHeartbeats 400000 in
theorem cloneBytes_walk (w : World) (l : List UInt8) (ad : Addr) (c b o n : Nat) (hn : n = l.length) (ha : 0 < n → ad = ⟨b, o, none⟩ ∧ b < w.heap.size) (hc : CELLS w b o l) (hlen : n ≤ 1048576) :
    Calls Try.prog 26 #[.slice (some ad) n c] w fun e w' => ∃ v, e = .returned v ∧ KEY w' (ty 5 w') v l ∧ Below w.heap.size w w' := by
  obtain ⟨i5, hi, hz0, hz1, hz2⟩ := info_parts Try.info5
  have hb5 : i5.bytes * n ≤ 281474976710656 := by rw [hz2]; omega
  have HN : Hid (n = l.length) := hn
  have HA : Hid (0 < n → ad = ⟨b, o, none⟩ ∧ b < w.heap.size) := ha
  have HC : Hid (CELLS w b o l) := hc
  clear hn ha hc
  have hnil := fun w' => Go.Lib.run_eql_slice_nil (P := Try.prog) w' 47 5 (some ad) n c 0 0 Try.underlying47
  go_enter Try.func26, Try.ntmps26
  go_wp2_with (first
    | (at_make; refine wpList_make_full _ rfl (.tmp 8) (.tmp 8) 47 rfl w.heap.size 5 i5 _ 1 Try.underlying47 hi hz0 hz1 .i64 .i64 _ _ n rfl rfl rfl rfl hb5 (by unfold maxLen; omega) (Nat.le_refl _) ?_; intro w1 hown1 hgrow1))
  have hF : FILL w w1 5 1 w.heap.size n (l.map byteV) 0 := ⟨_, hown1, fun t ht => absurd ht (by omega), (Below.refl _ _).grown hgrow1 (Nat.le_refl _) (by simp)⟩
  clear hown1 hgrow1
  go_loopw [12] (fun x wr => ∃ j : Nat, j ≤ n ∧ x = .int .i64 j ∧ FILL w wr 5 1 w.heap.size n (l.map byteV) j) (fun x _ => n - (intOf x).toNat)
  case atStart => exact ⟨0, by omega, rfl, hF⟩
  case round =>
    obtain ⟨j, hj, rfl, hFj⟩ := hrel
    have HF : Hid (FILL w wr 5 1 w.heap.size n (l.map byteV) j) := hFj
    clear hFj hF
    by_cases hlt : j < n
    · obtain ⟨rfl, hb⟩ := HA.out (by omega)
      have hx : l[j]? = some (l[j]'(by have := HN.out; omega)) := List.getElem?_eq_getElem _
      have d := HC.out j _ hx
      obtain ⟨x, hxe⟩ : ∃ x, x = l[j]'(by have := HN.out; omega) := ⟨_, rfl⟩
      rw [← hxe] at d hx
      rw [← HF.out.bel.cell (p := ⟨b, o + j, none⟩) hb] at d
      obtain ⟨⟨x0, c1⟩, f1, hK, _⟩ := HF.out.facts (i := j) (by omega)
      have HS : Hid (FILL w (wr.setCell ⟨w.heap.size, j, none⟩ (.int .u8 (x.toNat : Int))) 5 1 w.heap.size n (l.map byteV) (j + 1)) := HF.out.step (by omega) (by rw [List.getElem?_map, hx]; rfl)
      clear hx hxe
      go_wp2
      go_roundw
      case rel => exact ⟨j + 1, by omega, by go_num, HS.out⟩
      case measure => simp [intOf]; omega
    · have hfin := HF.out.fin (by omega) (by simp; exact HN.out.symm)
      have HR : Hid (KEY wr (ty 5 wr) (.slice (some ⟨w.heap.size, 0, none⟩) n n) l) := owns_key HN.out hfin.1
      have HB : Hid (Below w.heap.size w wr) := hfin.2
      clear hfin
      go_wp2
      go_ret
      exact ⟨_, rfl, HR.out, HB.out⟩

set_option maxHeartbeats 400000 in
theorem cloneBytes_nil (w : World) (n c : Nat) : Calls Try.prog 26 #[.slice none n c] w fun e w' => e = .returned (.slice none 0 0) ∧ w' = w := by
  have hnil := fun w' => Go.Lib.run_eql_slice_nil (P := Try.prog) w' 47 5 none n c 0 0 Try.underlying47
  go_enter Try.func26, Try.ntmps26
  go_wp2
  go_ret
  exact ⟨rfl, rfl⟩

theorem cloneBytes_any (w : World) {S : Nat → Prop} (l : List UInt8) (v : Value) (h : KEY w S v l) (hlen : l.length ≤ 1048576) :
    Calls Try.prog 26 #[v] w fun e w' => ∃ v, e = .returned v ∧ KEY w' (ty 5 w') v l ∧ Below w.heap.size w w' := by
  obtain ⟨a, c, b, o, rfl, ha, hc⟩ := h
  cases a with
  | none =>
    refine (cloneBytes_nil w _ c).mono ?_
    rintro e w' ⟨rfl, rfl⟩
    have hl : l = [] := by
      rcases Nat.eq_zero_or_pos l.length with h | h
      · exact List.eq_nil_of_length_eq_zero h
      · cases (ha h).1
    subst hl
    exact ⟨_, rfl, ⟨none, 0, 0, 0, rfl, fun h => absurd h (by simp), fun j x hx => by simp at hx⟩, Below.refl _ _⟩
  | some ad =>
    exact cloneBytes_walk w l ad c b o _ rfl (fun h => ⟨Option.some.inj (ha h).1, (ha h).2.2⟩) hc hlen
end Go.Proofs.Qxb6616195a
