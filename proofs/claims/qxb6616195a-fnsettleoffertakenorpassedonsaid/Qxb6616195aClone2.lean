/- busyCounts, cloneBusy. -/
import Derived.Test.Qxb6616195aClone
namespace Go.Proofs.Qxb6616195a
open Go.RowKit

def KY (w : World) (K : Nat) (v : Value) (l : List UInt8) : Prop := KEY w (fun b => b ≠ K ∧ ro w b) v l
def Off (K : Nat) (w w' : World) : Prop := w.heap.size ≤ w'.heap.size ∧ ∀ b, b ≠ K → b < w.heap.size → w'.heap[b]? = w.heap[b]?
theorem Off.below {w w' : World} (K : Nat) (h : Below w.heap.size w w') : Off K w w' := ⟨h.size, fun b _ hb => h.block b hb⟩
theorem Off.set (w : World) (K i : Nat) (u : Value) : Off K w (w.setCell ⟨K, i, none⟩ u) := ⟨by simp, fun b hb _ => Below.heap_setCell w _ u b hb⟩
theorem KY.off {w w' : World} {K : Nat} {v : Value} {l : List UInt8} (h : KY w K v l) (k : Off K w w') : KY w' K v l := by
  refine KEY.mono (KEY.keep h k.1 fun b hb hlt => k.2 b hb.1 hlt) fun b hb => ⟨hb.1, ?_⟩
  have e := k.2 b hb.1 hb.2.lt
  obtain ⟨C, t, m, h1, h2⟩ := hb.2
  exact ⟨C, t, m, e.trans h1, h2⟩

def CL (w wr : World) (T K n : Nat) (A : List Bz) (j : Nat) : Prop := ∃ xs, wr.ownsRow w.heap.size T 2 (.slice (some ⟨K, 0, none⟩) n n) n xs ∧
  (∀ t p, t < j → A[t]? = some p → ∃ kv, xs[t * 2]? = some kv ∧ KY wr K kv p.1 ∧ xs[t * 2 + 1]? = some (.int .i64 p.2)) ∧ Below w.heap.size w wr

section
variable {w wr : World} {T K n j : Nat} {A : List Bz}
theorem CL.bel (h : CL w wr T K n A j) : Below w.heap.size w wr := h.choose_spec.2.2
theorem CL.facts (h : CL w wr T K n A j) {i : Nat} (hm : i < n * 2) : (∃ x, wr.cell? ⟨K, i, none⟩ = some x) ∧ wr.frozen? ⟨K, i, none⟩ = false ∧ w.heap.size ≤ K ∧ ty T wr K := by
  obtain ⟨xs, h1, _, hb⟩ := h
  obtain ⟨cur, g1, _, _, _, hK, _⟩ := owns_block h1
  have l1 := h1.1
  refine ⟨⟨xs[i]'(by omega), ?_⟩, h1.frozenAt _, hK, ⟨cur, _, g1⟩⟩
  rw [h1.cellAt i hm]; exact List.getElem?_eq_getElem _
theorem CL.below {wr' : World} (h : CL w wr T K n A j) (hb' : Below wr.heap.size wr wr') : CL w wr' T K n A j := by
  obtain ⟨xs, h1, h2, hb⟩ := h
  obtain ⟨cur, g1, _⟩ := owns_block h1
  have hlt := (Array.getElem?_eq_some_iff.1 g1).1
  refine ⟨xs, owns_heap h1 (fun g hg => by simp [Value.ownBlock] at hg; subst hg; exact hb'.block _ hlt), fun t p ht hp => ?_, hb.trans (hb'.mono hb.size)⟩
  obtain ⟨kv, e1, e2, e3⟩ := h2 t p ht hp
  exact ⟨kv, e1, e2.off (Off.below K hb'), e3⟩
theorem CL.step (h : CL w wr T K n A j) (hj : j < n) {k : List UInt8} {z : Int} {kv : Value} (hp : A[j]? = some (k, z)) (hk : KY wr K kv k) :
    CL w ((wr.setCell ⟨K, j * 2, none⟩ kv).setCell ⟨K, j * 2 + 1, none⟩ (.int .i64 z)) T K n A (j + 1) := by
  have hf := h.facts (i := j * 2) (by omega)
  obtain ⟨xs, h1, h2, hb⟩ := h
  have l1 := h1.1
  refine ⟨(xs.set (j * 2) kv).set (j * 2 + 1) (.int .i64 z), ((h1.stored _ kv).1.stored _ _).1, ?_, (hb.setCell hf.2.2.1 _).setCell hf.2.2.1 _⟩
  intro t p ht hpt
  by_cases e : t = j
  · subst e
    rw [hp] at hpt
    cases hpt
    refine ⟨kv, ?_, (hk.off (Off.set wr K _ _)).off (Off.set _ K _ _), ?_⟩
    · rw [List.getElem?_set_ne (by omega), List.getElem?_set_self (by omega)]
    · rw [List.getElem?_set_self (by simp; omega)]
  · obtain ⟨kv', e1, e2, e3⟩ := h2 t p (by omega) hpt
    refine ⟨kv', ?_, (e2.off (Off.set wr K _ _)).off (Off.set _ K _ _), ?_⟩
    · rw [List.getElem?_set_ne (by omega), List.getElem?_set_ne (by omega)]; exact e1
    · rw [List.getElem?_set_ne (by omega), List.getElem?_set_ne (by omega)]; exact e3
theorem CL.fin (h : CL w wr T K n A n) (hn : n = A.length) (hT : T = 49 ∨ T = 69) : BUSY wr (ro wr) (.slice (some ⟨K, 0, none⟩) n n) A ∧ Below w.heap.size w wr := by
  obtain ⟨xs, h1, h2, hb⟩ := h
  obtain ⟨cur, g1, _⟩ := owns_block h1
  refine ⟨?_, hb⟩
  subst hn
  refine ⟨_, _, K, 0, rfl, fun _ => ⟨rfl, ⟨cur, T, _, g1, by rcases hT with h | h <;> simp [h]⟩, (Array.getElem?_eq_some_iff.1 g1).1⟩, ?_⟩
  intro t p hp
  have ht := (List.getElem?_eq_some_iff.1 hp).1
  obtain ⟨kv, e1, e2, e3⟩ := h2 t p ht hp
  refine ⟨kv, ?_, KEY.mono e2 fun b hb => hb.2, ?_⟩
  · rw [Nat.zero_add, h1.cellAt _ (by omega)]; exact e1
  · rw [Nat.zero_add, h1.cellAt _ (by omega)]; exact e3
end

set_option maxHeartbeats 400000 in
theorem newBusy_any (w : World) (a : Option Addr) (l c : Nat) (z : Int) :
    Calls Try.prog 28 #[.slice a l c, .int .i64 z] w fun e w' => e = .returned (.agg #[.slice a l c, .int .i64 z]) ∧ Below w.heap.size w w' := by
  go_enter Try.func28, Try.ntmps28
  go_wp2
  refine ⟨rfl, _, ?_, rfl, (Below.refl _ _).alloc (Nat.le_refl _) _⟩
  exact results_cell_row (P := Try.prog) (fn := Try.f28) rfl _ _ w.heap.size 69 #[.slice a l c, .int .i64 z] _ _ rfl (heap_alloc_new w _) Try.underlying69 rfl (by kernel_rfl)

set_option maxHeartbeats 400000 in
theorem busyCounts_walk (w : World) (A : List Bz) (a : Option Addr) (c b o n : Nat) (hn : n = A.length) (ha : 0 < n → a = some ⟨b, o, none⟩ ∧ b < w.heap.size) (hc : BCELLS w (ro w) b o A) (hlen : n ≤ 1048576) :
    Calls Try.prog 12 #[.slice a n c] w fun e w' => ∃ v, e = .returned v ∧ BUSY w' (ro w') v A ∧ Below w.heap.size w w' := by
  obtain ⟨i69, hi, hz0, hz1, hz2⟩ := info_parts Try.info69
  have hb69 : i69.bytes * n ≤ 281474976710656 := by rw [hz2]; omega
  have HN : Hid (n = A.length) := hn
  have HA : Hid (0 < n → a = some ⟨b, o, none⟩ ∧ b < w.heap.size) := ha
  have HC : Hid (BCELLS w (ro w) b o A) := hc
  clear hn ha hc
  go_enter Try.func12, Try.ntmps12
  go_wp2_with (first
    | (at_make; refine wpList_make_full _ rfl (.tmp 7) (.tmp 7) 33 rfl w.heap.size 69 i69 _ 2 Try.underlying33 hi hz0 hz1 .i64 .i64 _ _ n rfl rfl rfl rfl hb69 (by unfold maxLen; omega) (Nat.le_refl _) ?_; intro w1 hown1 hgrow1))
  have hF : CL w w1 69 w.heap.size n A 0 := ⟨_, hown1, fun t p ht => absurd ht (by omega), (Below.refl _ _).grown hgrow1 (Nat.le_refl _) (by simp)⟩
  clear hown1 hgrow1
  go_loopw [11] (fun x wr => ∃ j : Nat, j ≤ n ∧ x = .int .i64 j ∧ CL w wr 69 w.heap.size n A j) (fun x _ => n - (intOf x).toNat)
  case atStart => exact ⟨0, by omega, rfl, hF⟩
  case round =>
    obtain ⟨j, hj, rfl, hFj⟩ := hrel
    have HF : Hid (CL w wr 69 w.heap.size n A j) := hFj
    clear hFj hF
    by_cases hlt : j < n
    · obtain ⟨rfl, hb⟩ := HA.out (by omega)
      obtain ⟨k, z, ka, kc, kb, ko, kl, hp, hkl, hka, hcl, d1, d2⟩ := HC.out.at HN.out hlt hb HF.out.bel
      have hK : KEY w (ro w) (.slice ka kl kc) k := ⟨ka, kc, kb, ko, by rw [hkl], by rw [← hkl]; exact hka, hcl⟩
      have HST : Hid (∀ w2, Below (wr.alloc (Obj.cells #[Value.slice ka kl kc, Value.int IntKind.i64 z] 49)).heap.size (wr.alloc (Obj.cells #[Value.slice ka kl kc, Value.int IntKind.i64 z] 49)) w2 →
          (∃ x, w2.cell? ⟨w.heap.size, j * 2, none⟩ = some x) ∧ (∃ x, w2.cell? ⟨w.heap.size, j * 2 + 1, none⟩ = some x) ∧ w2.frozen? ⟨w.heap.size, j * 2, none⟩ = false ∧ w2.frozen? ⟨w.heap.size, j * 2 + 1, none⟩ = false ∧
          CL w ((w2.setCell ⟨w.heap.size, j * 2, none⟩ (.slice ka kl kc)).setCell ⟨w.heap.size, j * 2 + 1, none⟩ (.int .i64 z)) 69 w.heap.size n A (j + 1)) := by
        intro w2 hb2
        have h1 := (HF.out.below ((Below.refl wr.heap.size wr).alloc (Nat.le_refl _) (Obj.cells #[Value.slice ka kl kc, Value.int IntKind.i64 z] 49))).below hb2
        have f1 := h1.facts (i := j * 2) (by omega)
        have f2 := h1.facts (i := j * 2 + 1) (by omega)
        refine ⟨f1.1, f2.1, f1.2.1, f2.2.1, h1.step hlt hp ?_⟩
        have hk2 := hK.below h1.bel
        refine KEY.mono hk2 fun b' hb' => ⟨by have := hb'.lt; omega, (RoK.below h1.bel).ro hb'⟩
      clear hp hkl hka hcl hK
      go_wp2_with (first
        | (go_at_call 28; refine (newBusy_any _ ka kl kc z).mono ?_; rintro e w2 ⟨rfl, hb2⟩; obtain ⟨⟨x1, c1⟩, ⟨x2, c2⟩, f1, f2, hcl⟩ := HST.out w2 hb2; have HCL : Hid (CL w ((w2.setCell ⟨w.heap.size, j * 2, none⟩ (.slice ka kl kc)).setCell ⟨w.heap.size, j * 2 + 1, none⟩ (.int .i64 z)) 69 w.heap.size n A (j + 1)) := hcl; clear hcl hb2))
      go_roundw
      case rel => exact ⟨j + 1, by omega, by go_num, HCL.out⟩
      case measure => simp [intOf]; omega
    · obtain rfl : j = n := by omega
      have hfin := HF.out.fin HN.out (.inr rfl)
      have HR : Hid (BUSY wr (ro wr) (.slice (some ⟨w.heap.size, 0, none⟩) j j) A ∧ Below w.heap.size w wr) := hfin
      clear hfin
      go_wp2
      go_ret
      exact ⟨_, rfl, HR.out.1, HR.out.2⟩
theorem busyCounts_any (w : World) (A : List Bz) (v : Value) (h : BUSY w (ro w) v A) (hlen : A.length ≤ 1048576) :
    Calls Try.prog 12 #[v] w fun e w' => ∃ v, e = .returned v ∧ BUSY w' (ro w') v A ∧ Below w.heap.size w w' := by
  obtain ⟨a, c, b, o, rfl, ha, hc⟩ := h
  exact busyCounts_walk w A a c b o _ rfl (fun h => ⟨(ha h).1, (ha h).2.2⟩) hc hlen

set_option maxHeartbeats 400000 in
theorem cloneBusy_walk (w : World) {S : Nat → Prop} (A : List Bz) (ad : Addr) (c b o n : Nat) (hn : n = A.length) (ha : 0 < n → ad = ⟨b, o, none⟩ ∧ b < w.heap.size) (hc : BCELLS w S b o A) (hlen : n ≤ 4096) (hks : ∀ p ∈ A, p.1.length ≤ 1048576) :
    Calls Try.prog 8 #[.slice (some ad) n c] w fun e w' => ∃ v, e = .returned v ∧ BUSY w' (ro w') v A ∧ Below w.heap.size w w' := by
  obtain ⟨i49, hi, hz0, hz1, hz2⟩ := info_parts Try.info49
  have hb49 : i49.bytes * n ≤ 281474976710656 := by rw [hz2]; omega
  have HN : Hid (n = A.length) := hn
  have HA : Hid (0 < n → ad = ⟨b, o, none⟩ ∧ b < w.heap.size) := ha
  have HC : Hid (BCELLS w S b o A) := hc
  have HKS : Hid (∀ p ∈ A, p.1.length ≤ 1048576) := hks
  clear hn ha hc hks
  have hnil := fun w' => Go.Lib.run_eql_slice_nil (P := Try.prog) w' 22 49 (some ad) n c 0 0 Try.underlying22
  go_enter Try.func8, Try.ntmps8
  go_wp2_with (first
    | (at_make; refine wpList_make_full _ rfl (.tmp 9) (.tmp 9) 22 rfl w.heap.size 49 i49 _ 2 Try.underlying22 hi hz0 hz1 .i64 .i64 _ _ n rfl rfl rfl rfl hb49 (by unfold maxLen; omega) (Nat.le_refl _) ?_; intro w1 hown1 hgrow1))
  have hF : CL w w1 49 w.heap.size n A 0 := ⟨_, hown1, fun t p ht => absurd ht (by omega), (Below.refl _ _).grown hgrow1 (Nat.le_refl _) (by simp)⟩
  clear hown1 hgrow1
  go_loopw [13] (fun x wr => ∃ j : Nat, j ≤ n ∧ x = .int .i64 j ∧ CL w wr 49 w.heap.size n A j) (fun x _ => n - (intOf x).toNat)
  case atStart => exact ⟨0, by omega, rfl, hF⟩
  case round =>
    obtain ⟨j, hj, rfl, hFj⟩ := hrel
    have HF : Hid (CL w wr 49 w.heap.size n A j) := hFj
    clear hFj hF
    by_cases hlt : j < n
    · obtain ⟨rfl, hb⟩ := HA.out (by omega)
      obtain ⟨k, z, ka, kc, kb, ko, kl, hp, hkl, hka, hcl, d1, d2⟩ := HC.out.at HN.out hlt hb HF.out.bel
      have hK : KEY w S (.slice ka kl kc) k := ⟨ka, kc, kb, ko, by rw [hkl], by rw [← hkl]; exact hka, hcl⟩
      obtain ⟨X, hX⟩ : ∃ X, X = wr.alloc (Obj.cells #[Value.slice ka kl kc, Value.int IntKind.i64 z] 49) := ⟨_, rfl⟩
      have hXb : Below wr.heap.size wr X := by rw [hX]; exact (Below.refl wr.heap.size wr).alloc (Nat.le_refl _) _
      have hCX := HF.out.below hXb
      have HCALL : Hid (∀ W, W.heap = X.heap → W.os = X.os → W.tape = X.tape → W.output = X.output → Calls Try.prog 26 #[.slice ka kl kc] W fun e w' => ∃ v, e = .returned v ∧ KEY w' (ty 5 w') v k ∧ Below W.heap.size W w') := by
        intro W h1 h2 h3 h4
        have hb' : Below w.heap.size w W := hCX.bel.trans ⟨h2, h3, h4, by rw [h1]; exact Nat.le_refl _, fun i _ => by rw [h1]⟩
        exact cloneBytes_any W k _ (hK.below hb') (HKS.out _ (List.mem_of_getElem? hp))
      have HST : Hid (∀ W w2 v, W.heap = X.heap → W.os = X.os → W.tape = X.tape → W.output = X.output → Below W.heap.size W w2 → KEY w2 (ty 5 w2) v k →
          (∃ x, w2.cell? ⟨w.heap.size, j * 2, none⟩ = some x) ∧ (∃ x, w2.cell? ⟨w.heap.size, j * 2 + 1, none⟩ = some x) ∧ w2.frozen? ⟨w.heap.size, j * 2, none⟩ = false ∧ w2.frozen? ⟨w.heap.size, j * 2 + 1, none⟩ = false ∧
          w2.cell? ⟨wr.heap.size, 1, none⟩ = some (.int .i64 z) ∧ (∃ va vl vc, v = .slice va vl vc) ∧
          CL w ((w2.setCell ⟨w.heap.size, j * 2, none⟩ v).setCell ⟨w.heap.size, j * 2 + 1, none⟩ (.int .i64 z)) 49 w.heap.size n A (j + 1)) := by
        intro W w2 v h1 h2 h3 h4 hb2 hk2
        have hXW : Below X.heap.size X W := ⟨h2, h3, h4, by rw [h1]; exact Nat.le_refl _, fun i _ => by rw [h1]⟩
        have hXw : Below X.heap.size X w2 := hXW.trans (by rw [← h1]; exact hb2)
        have hC2 := hCX.below hXw
        have f1 := hC2.facts (i := j * 2) (by omega)
        have f2 := hC2.facts (i := j * 2 + 1) (by omega)
        refine ⟨f1.1, f2.1, f1.2.1, f2.2.1, ?_, ?_, hC2.step hlt hp ?_⟩
        · rw [hXw.cell (p := ⟨wr.heap.size, 1, none⟩) (by rw [hX]; simp), hX]
          exact cell_of_row _ _ 1 _ 49 _ (heap_alloc_new wr _)
        · obtain ⟨va, vc, _, _, e, _⟩ := hk2
          exact ⟨va, _, vc, e⟩
        · refine KEY.mono hk2 fun b' hb' => ⟨?_, hb'.ro5⟩
          rintro rfl
          obtain ⟨C, m, g1⟩ := hb'
          obtain ⟨C', m', g2⟩ := f1.2.2.2
          rw [g1] at g2
          simp at g2
      subst hX
      clear hp hkl hka hcl hK hXb hCX
      go_wp2_with fail
      go_region_with (first
        | (go_at_call 26; refine (HCALL.out (wr.alloc (Obj.cells #[Value.slice ka kl kc, Value.int IntKind.i64 z] 49)).drew rfl rfl rfl rfl).mono ?_; rintro e w2 ⟨v, rfl, hk2, hb2⟩; obtain ⟨⟨x1, c1⟩, ⟨x2, c2⟩, f1, f2, c3, ⟨va, vl, vc, rfl⟩, hcl⟩ := HST.out (wr.alloc (Obj.cells #[Value.slice ka kl kc, Value.int IntKind.i64 z] 49)).drew w2 v rfl rfl rfl rfl hb2 hk2; have HCL : Hid (CL w ((w2.setCell ⟨w.heap.size, j * 2, none⟩ (.slice va vl vc)).setCell ⟨w.heap.size, j * 2 + 1, none⟩ (.int .i64 z)) 49 w.heap.size n A (j + 1)) := hcl; clear hcl hb2 hk2))
      all_goals
        go_wp2
        go_roundw
        case rel => exact ⟨j + 1, by omega, by go_num, HCL.out⟩
        case measure => simp [intOf]; omega
    · obtain rfl : j = n := by omega
      have hfin := HF.out.fin HN.out (.inl rfl)
      have HR : Hid (BUSY wr (ro wr) (.slice (some ⟨w.heap.size, 0, none⟩) j j) A ∧ Below w.heap.size w wr) := hfin
      clear hfin
      go_wp2
      go_ret
      exact ⟨_, rfl, HR.out.1, HR.out.2⟩
end Go.Proofs.Qxb6616195a
