/- The map of counts: a map[string]*localCount reads as a list of (key, block). -/
import Derived.Test.Qxb6616195aStrs
import Derived.Maps.OwnSet
import Derived.Maps.Views
namespace Go.Proofs.Qxb6616195a
open Go.RowKit

def ptrD : Option Nat → DataW Unit
  | none => .nil
  | some c => .lit (.int .i64 c)
def PR : Value → Option (DataW Unit × List MemPlace)
  | .pointer none => some (.nil, [])
  | .pointer (some ⟨b, 0, none⟩) => some (.lit (.int .i64 b), [])
  | _ => none
theorem ptrD_inj {a b : Option Nat} (h : ptrD a = ptrD b) : a = b := by
  cases a <;> cases b <;> simp [ptrD] at h ⊢
  omega
def ptrV : Option Nat → Value
  | none => .pointer none
  | some c => .pointer (some ⟨c, 0, none⟩)
theorem PR_ptr (c : Option Nat) : PR (ptrV c) = some (ptrD c, []) := by cases c <;> rfl
theorem PR_inv {v : Value} {c : Option Nat} {ps : List MemPlace} (h : PR v = some (ptrD c, ps)) : v = ptrV c := by
  unfold PR at h
  split at h
  · cases c <;> simp [ptrD] at h ⊢
    rfl
  · cases c <;> simp [ptrD] at h ⊢
    obtain ⟨h, _⟩ := h
    have : (_ : Int) = _ := h
    simp [ptrV]
  · cases h

structure MPD (D : DataW Unit) (V : List (Ky × Nat)) : Prop where
  tidy : Maps.Tidy D
  at_ : ∀ k, D.atKey (.string k) .nil = ptrD (V.lookup k)
  has : ∀ k, Maps.has D (.string k) = (V.lookup k).isSome
  size : Maps.size D = V.length
  nodup : (V.map (·.1)).Nodup

theorem lookup_app (V : List (Ky × Nat)) (k k' : Ky) (c : Nat) : (V ++ [(k, c)]).lookup k' = (V.lookup k').or (if k' == k then some c else none) := by
  induction V with
  | nil => simp [List.lookup]; split <;> simp_all
  | cons p V ih =>
    obtain ⟨a, b⟩ := p
    simp only [List.cons_append, List.lookup_cons]
    split
    · rfl
    · exact ih
theorem lookup_none_iff (V : List (Ky × Nat)) (k : Ky) : V.lookup k = none ↔ k ∉ V.map (·.1) := by
  induction V with
  | nil => simp
  | cons p V ih =>
    obtain ⟨a, b⟩ := p
    rw [List.lookup_cons]
    by_cases h : k = a
    · subst h; simp
    · have : (k == a) = false := by simpa using h
      simp [this, h, ih]
theorem lookup_del (V : List (Ky × Nat)) (k k' : Ky) : (V.filter (fun p => !(p.1 == k))).lookup k' = if k' == k then none else V.lookup k' := by
  induction V with
  | nil => simp
  | cons p V ih =>
    obtain ⟨a, b⟩ := p
    rw [List.filter_cons]
    by_cases h : a = k
    · subst h
      simp only [beq_self_eq_true, Bool.not_true, Bool.false_eq_true, if_false, ih, List.lookup_cons]
      by_cases h2 : k' = a
      · simp [h2]
      · have : (k' == a) = false := by simpa using h2
        simp [this]
    · have h1 : (a == k) = false := by simpa using h
      simp only [h1, Bool.not_false, if_true, List.lookup_cons, ih]
      by_cases h2 : k' = a
      · subst h2; simp [h1]
      · have : (k' == a) = false := by simpa using h2
        simp [this]

theorem filter_len (V : List (Ky × Nat)) (k : Ky) (c : Nat) (hn : (V.map (·.1)).Nodup) (hk : V.lookup k = some c) : (V.filter (fun p => !(p.1 == k))).length + 1 = V.length := by
  induction V with
  | nil => simp at hk
  | cons p V ih =>
    obtain ⟨a, b⟩ := p
    rw [List.map_cons, List.nodup_cons] at hn
    by_cases h : a = k
    · subst h
      have : V.filter (fun p => !(p.1 == a)) = V := by
        rw [List.filter_eq_self]
        intro q hq
        have hne : q.1 ≠ a := by
          intro e
          exact hn.1 (List.mem_map.2 ⟨q, hq, e⟩)
        simpa using hne
      simp [this]
    · have h1 : (a == k) = false := by simpa using h
      have h2 : (k == a) = false := by simpa using fun e : k = a => h e.symm
      rw [List.lookup_cons, h2] at hk
      have := ih hn.2 hk
      rw [List.filter_cons]
      simp [h1]
      omega

theorem keyLit (k : Ky) : WideAt.IsKeyLit (.string k) := by trivial

theorem MPD.empty : MPD (.map []) [] := ⟨⟨[], rfl, List.Pairwise.nil⟩, fun _ => rfl, fun _ => rfl, rfl, List.nodup_nil⟩
theorem MPD.put {D : DataW Unit} {V : List (Ky × Nat)} (h : MPD D V) (k : Ky) (c : Nat) (hk : V.lookup k = none) : MPD (D.put (.string k) (ptrD (some c))) (V ++ [(k, c)]) := by
  refine ⟨h.tidy.put (keyLit k) _, fun k' => ?_, fun k' => ?_, ?_, ?_⟩
  · rw [lookup_app]
    by_cases e : k' = k
    · subst e
      rw [Maps.atKey_put_same h.tidy.isMap (keyLit _), hk]
      simp
    · have : (k' == k) = false := by simpa using e
      rw [Maps.atKey_put_other (by simpa using e), h.at_, this]
      simp
  · rw [lookup_app]
    by_cases e : k' = k
    · subst e
      rw [Maps.has_put_same h.tidy.isMap (keyLit _), hk]
      simp
    · have : (k' == k) = false := by simpa using e
      rw [Maps.has_put_other (by simpa using e), h.has, this]
      simp
  · rw [Maps.size_put h.tidy, h.has, hk, h.size]
    simp
  · rw [List.map_append, List.nodup_append]
    refine ⟨h.nodup, by simp, ?_⟩
    intro a ha b hb
    simp at hb
    subst hb
    rintro rfl
    exact (lookup_none_iff V _).1 hk ha
theorem MPD.del {D : DataW Unit} {V : List (Ky × Nat)} (h : MPD D V) (k : Ky) (c : Nat) (hk : V.lookup k = some c) : MPD (D.del (.string k)) (V.filter (fun p => !(p.1 == k))) := by
  refine ⟨?_, fun k' => ?_, fun k' => ?_, ?_, ?_⟩
  · exact h.tidy.del _
  · rw [lookup_del]
    by_cases e : k' = k
    · subst e
      rw [Maps.atKey_del_same]
      simp [ptrD]
    · have : (k' == k) = false := by simpa using e
      rw [Maps.atKey_del_other (by simpa using e), h.at_, this]
      simp
  · rw [lookup_del]
    by_cases e : k' = k
    · subst e
      rw [Maps.has_del_same]
      simp
    · have : (k' == k) = false := by simpa using e
      rw [Maps.has_del_other (by simpa using e), h.has, this]
      simp
  · have := Maps.size_del (k := .string k) h.tidy
    rw [h.has, hk, h.size] at this
    have h2 := filter_len V k c h.nodup hk
    simp at this
    omega
  · exact h.nodup.sublist ((List.filter_sublist).map _)

/-- The field's map holds V. -/
def MP (w : World) (mb : Option Nat) (V : List (Ky × Nat)) : Prop := match mb with
  | none => V = []
  | some b => ∃ D, w.ownsMap Try.prog 9 PR b V.length D ∧ MPD D V

theorem keyK (k : Ky) (h : k.length ≤ 1048576) : keyOf Try.prog 9 (.string ⟨k.toArray⟩) = some (.string k) := by
  have hs : (⟨k.toArray⟩ : ByteArray).size ≤ maxLen := by
    show k.toArray.size ≤ maxLen
    unfold maxLen; simp; omega
  exact WideMaps.keyOf_string_mk Try.underlying9 hs
theorem zero71 (w : World) : (zeroValue 71).run Try.prog w = .ok (.pointer none) w := Try.zeroValue71 w

theorem own_tight {w : World} {b n : Nat} {D : DataW Unit} (h : w.ownsMap Try.prog 9 PR b n D) : w.ownsMap Try.prog 9 PR b (Maps.size D) D := by
  obtain ⟨es, clock, h1, h2, h3, rfl⟩ := h
  refine ⟨es, clock, h1, h2, ?_, rfl⟩
  rw [Maps.size_eq, length_read]
  exact Nat.le_refl _

theorem MP.look {w : World} {mb : Option Nat} {V : List (Ky × Nat)} (h : MP w mb V) (k : Ky) (hk : k.length ≤ 1048576) :
    (Instr.lookup 60 (.map mb) (.string ⟨k.toArray⟩) false).run Try.prog w = .ok (ptrV (V.lookup k)) w := by
  cases mb with
  | none =>
    obtain rfl : V = [] := h
    exact Maps.look_nil false (Maps.string_keyed Try.underlying9) Try.underlying60 (zero71 w) (keyK k hk)
  | some b =>
    obtain ⟨D, h1, h2⟩ := h
    obtain ⟨v, ps, hr, hv⟩ := h1.lookup (Maps.string_keyed Try.underlying9) Try.underlying60 (zero71 w) (zd := .nil) (zp := []) rfl (keyK k hk)
    rw [h2.at_] at hv
    rw [hr, PR_inv hv]

theorem MP.store {w : World} {b : Nat} {V : List (Ky × Nat)} (h : MP w (some b) V) (k : Ky) (hk : k.length ≤ 1048576) (c : Nat) (hnew : V.lookup k = none) (hn : V.length ≤ 1000000) :
    ∃ w', (Instr.mapUpdate 60 (.map (some b)) (.string ⟨k.toArray⟩) (.pointer (some ⟨c, 0, none⟩))).run Try.prog w = .ok () w' ∧ MP w' (some b) (V ++ [(k, c)]) ∧ w.grownBy w' (some b) := by
  obtain ⟨D, h1, h2⟩ := h
  obtain ⟨w', hr, ho, hg⟩ := h1.update (Maps.string_keyed Try.underlying9) Try.underlying60 (by unfold maxLen; omega) (keyK k hk) (PR_ptr (some c))
  have h3 := h2.put k c hnew
  refine ⟨w', hr, ⟨_, ?_, h3⟩, hg⟩
  have := own_tight ho
  rw [h3.size] at this
  exact this
theorem MP.drop {w : World} {b : Nat} {V : List (Ky × Nat)} (h : MP w (some b) V) (k : Ky) (hk : k.length ≤ 1048576) (c : Nat) (hin : V.lookup k = some c) (ty : TypeId) :
    ∃ w', (Builtin.delete_ #[60, 9] ty #[.map (some b), .string ⟨k.toArray⟩]).run Try.prog w = .ok (.tuple #[]) w' ∧ MP w' (some b) (V.filter (fun p => !(p.1 == k))) ∧ w.grownBy w' (some b) := by
  obtain ⟨D, h1, h2⟩ := h
  obtain ⟨w', hr, ho, hg⟩ := h1.drop (Maps.string_keyed Try.underlying9) Try.underlying60 (keyK k hk) ty
  have h3 := h2.del k c hin
  refine ⟨w', hr, ⟨_, ?_, h3⟩, hg.grown⟩
  have := own_tight ho
  rw [h3.size] at this
  exact this
theorem MP.len {w : World} {mb : Option Nat} {V : List (Ky × Nat)} (h : MP w mb V) (ty : TypeId) : (Builtin.len_ #[60] ty #[.map mb]).run Try.prog w = .ok (.int .i64 V.length) w := by
  cases mb with
  | none =>
    obtain rfl : V = [] := h
    exact Maps.len_nil Try.underlying60 ty
  | some b =>
    obtain ⟨D, h1, h2⟩ := h
    rw [h1.len Try.underlying60 ty, h2.size]
theorem MP.keep {w w' : World} {mb : Option Nat} {V : List (Ky × Nat)} (h : MP w mb V) (hk : ∀ b, mb = some b → w'.heap[b]? = w.heap[b]?) : MP w' mb V := by
  cases mb with
  | none => exact h
  | some b =>
    obtain ⟨D, ⟨es, clock, g, rest⟩, h2⟩ := h
    exact ⟨D, ⟨es, clock, (hk b rfl).trans g, rest⟩, h2⟩
theorem MP.isMap {w : World} {b : Nat} {V : List (Ky × Nat)} (h : MP w (some b) V) : ∃ es clock, w.heap[b]? = some (.map es clock) := by
  obtain ⟨D, ⟨es, clock, g, _⟩, _⟩ := h
  exact ⟨es, clock, g⟩
theorem MP.made (w : World) : MP (w.alloc (.map #[] 0)) (some w.heap.size) [] := ⟨_, World.ownsMap_made w Try.prog 9 PR, MPD.empty⟩
end Go.Proofs.Qxb6616195a
