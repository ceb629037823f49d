/- Functions that read a []Busy: anyChecking, hasKey, busyBytes, distinctKeys. -/
import Derived.Test.Qxb6616195aLeaf
namespace Go.Proofs.Qxb6616195a
open Go.RowKit

def str (l : List UInt8) : Value := .string ⟨l.toArray⟩
theorem str_inj {l m : List UInt8} (h : str l = str m) : l = m := by
  unfold str at h
  simpa using h

theorem KEY.conv {w : World} {S : Nat → Prop} {v : Value} {l : List UInt8} (h : KEY w S v l) : (convert 47 9 v).run Try.prog w = .ok (.string ⟨l.toArray⟩) w := by
  obtain ⟨a, c, b, o, rfl, ha, hc⟩ := h
  rcases Nat.eq_zero_or_pos l.length with h0 | h0
  · obtain rfl : l = [] := List.eq_nil_of_length_eq_zero h0
    rw [run_convert_bytes_string w 47 9 5 a _ c Try.underlying47 Try.underlying5 Try.underlying9]
    cases a <;> simp [Conv.bytesToString, go_sem] <;> rfl
  · obtain ⟨rfl, _, _⟩ := ha h0
    exact run_convert_bytes_back w 47 9 5 ⟨b, o, none⟩ c l Try.underlying47 Try.underlying5 Try.underlying9 (fun j hj => by
      rw [Addr.add_lit]; exact hc j _ (List.getElem?_eq_getElem hj))

theorem BCELLS.at {w wr : World} {S : Nat → Prop} {b o j n : Nat} {A : List Bz} (h : BCELLS w S b o A) (hn : n = A.length) (hj : j < n) (hb : b < w.heap.size) (hB : Below w.heap.size w wr) :
    ∃ k z ka kc kb ko kl, A[j]? = some (k, z) ∧ kl = k.length ∧ (0 < kl → ka = some ⟨kb, ko, none⟩ ∧ S kb ∧ kb < w.heap.size) ∧ CELLS w kb ko k ∧
      wr.cell? ⟨b, o + j * 2, none⟩ = some (.slice ka kl kc) ∧ wr.cell? ⟨b, o + j * 2 + 1, none⟩ = some (.int .i64 z) := by
  have hp : A[j]? = some (A[j]'(by omega)) := List.getElem?_eq_getElem _
  obtain ⟨kv, d1, ⟨ka, kc, kb, ko, rfl, ha, hc⟩, d2⟩ := h j _ hp
  rw [← hB.cell (p := ⟨b, o + j * 2, none⟩) hb] at d1
  rw [← hB.cell (p := ⟨b, o + j * 2 + 1, none⟩) hb] at d2
  exact ⟨_, _, ka, kc, kb, ko, _, hp, rfl, ha, hc, d1, d2⟩

theorem any_succ {A : List Bz} {f : Bz → Bool} {j : Nat} {p : Bz} (hp : A[j]? = some p) (hall : (A.take j).any f = false) : (A.take (j + 1)).any f = f p := by
  obtain ⟨hjl, hje⟩ := List.getElem?_eq_some_iff.1 hp
  rw [List.take_succ_eq_append_getElem hjl, List.any_append, hall, hje]; simp

set_option maxHeartbeats 400000 in
theorem any_walk (w : World) {S : Nat → Prop} (A : List Bz) (a : Option Addr) (c b o n : Nat) (hn : n = A.length) (ha : 0 < n → a = some ⟨b, o, none⟩ ∧ b < w.heap.size) (hc : BCELLS w S b o A) (hlen : n ≤ 1048576) :
    Calls Try.prog 13 #[.slice a n c] w fun e w' => e = .returned (.bool (A.any fun p => decide (0 < p.2))) ∧ Below w.heap.size w w' := by
  have HN : Hid (n = A.length) := hn
  have HA : Hid (0 < n → a = some ⟨b, o, none⟩ ∧ b < w.heap.size) := ha
  have HC : Hid (BCELLS w S b o A) := hc
  clear hn ha hc
  go_enter Try.func13, Try.ntmps13
  go_wp2_with fail
  go_loopw [7] (fun x wr => ∃ j : Nat, j ≤ n ∧ x = .int .i64 j ∧ (A.take j).any (fun p => decide (0 < p.2)) = false ∧ Below w.heap.size w wr) (fun x _ => n - (intOf x).toNat)
  case atStart => exact ⟨0, by omega, rfl, by simp, Below.refl _ _⟩
  case round =>
    obtain ⟨j, hj, rfl, hall, hB⟩ := hrel
    have HB : Hid (Below w.heap.size w wr) := hB
    clear hB
    by_cases hlt : j < n
    · obtain ⟨rfl, hb⟩ := HA.out (by omega)
      obtain ⟨k, z, ka, kc, kb, ko, kl, hp, -, -, -, d1, d2⟩ := HC.out.at HN.out hlt hb HB.out
      have hs := any_succ hp hall
      by_cases hz : 0 < z
      · have HR : Hid ((A.any fun p => decide (0 < p.2)) = true) := List.any_eq_true.2 ⟨(k, z), List.mem_of_getElem? hp, by simpa using hz⟩
        clear hp hs hall
        go_wp2
        go_ret
        exact ⟨ret_bool HR.out.symm, HB.out.alloc HB.out.size _⟩
      · have HS : Hid ((A.take (j + 1)).any (fun p => decide (0 < p.2)) = false) := hs.trans (by simpa using hz)
        clear hp hs hall
        go_wp2
        go_roundw
        case rel => exact ⟨j + 1, by omega, by go_num, HS.out, HB.out.alloc HB.out.size _⟩
        case measure => simp [intOf]; omega
    · rw [List.take_of_length_le (by have := HN.out; omega)] at hall
      have HR : Hid ((A.any fun p => decide (0 < p.2)) = false) := hall
      clear hall
      go_wp2
      go_ret
      exact ⟨ret_bool HR.out.symm, HB.out⟩

theorem any_any (w : World) {S : Nat → Prop} (A : List Bz) (v : Value) (h : BUSY w S v A) (hlen : A.length ≤ 1048576) :
    Calls Try.prog 13 #[v] w fun e w' => e = .returned (.bool (A.any fun p => decide (0 < p.2))) ∧ Below w.heap.size w w' := by
  obtain ⟨a, c, b, o, rfl, ha, hc⟩ := h
  exact any_walk w A a c b o _ rfl (fun h => ⟨(ha h).1, (ha h).2.2⟩) hc hlen

theorem toList_mk (k : List UInt8) : (⟨k.toArray⟩ : ByteArray).toList = k := by
  rw [ByteArray.toList_eq]
theorem beq_str (k m : List UInt8) : ((⟨k.toArray⟩ : ByteArray).toList == (⟨m.toArray⟩ : ByteArray).toList) = decide (k = m) := by
  rw [toList_mk, toList_mk, Bool.eq_iff_iff]
  simp

set_option maxHeartbeats 400000 in
theorem has_walk (w : World) {S : Nat → Prop} (A : List Bz) (m : List UInt8) (a : Option Addr) (c b o n : Nat) (hn : n = A.length) (ha : 0 < n → a = some ⟨b, o, none⟩ ∧ b < w.heap.size) (hc : BCELLS w S b o A) (hlen : n ≤ 1048576) :
    Calls Try.prog 20 #[.slice a n c, .string ⟨m.toArray⟩] w fun e w' => e = .returned (.bool (A.any fun p => decide (p.1 = m))) ∧ Below w.heap.size w w' := by
  have HN : Hid (n = A.length) := hn
  have HA : Hid (0 < n → a = some ⟨b, o, none⟩ ∧ b < w.heap.size) := ha
  have HC : Hid (BCELLS w S b o A) := hc
  clear hn ha hc
  obtain ⟨ms, hms⟩ : ∃ ms : ByteArray, ms = ⟨m.toArray⟩ := ⟨_, rfl⟩
  rw [← hms]
  have HM : Hid (ms = ⟨m.toArray⟩) := hms
  clear hms
  go_enter Try.func20, Try.ntmps20
  go_wp2_with fail
  go_loopw [9] (fun x wr => ∃ j : Nat, j ≤ n ∧ x = .int .i64 j ∧ (A.take j).any (fun p => decide (p.1 = m)) = false ∧ Below w.heap.size w wr) (fun x _ => n - (intOf x).toNat)
  case atStart => exact ⟨0, by omega, rfl, by simp, Below.refl _ _⟩
  case round =>
    obtain ⟨j, hj, rfl, hall, hB⟩ := hrel
    have HB : Hid (Below w.heap.size w wr) := hB
    clear hB
    by_cases hlt : j < n
    · obtain ⟨rfl, hb⟩ := HA.out (by omega)
      obtain ⟨k, z, ka, kc, kb, ko, kl, hp, hkl, hka, hcl, d1, d2⟩ := HC.out.at HN.out hlt hb HB.out
      have hs := any_succ hp hall
      have hconv : (convert 47 9 (.slice ka kl kc)).run Try.prog (wr.alloc (Obj.cells #[Value.slice ka kl kc, Value.int IntKind.i64 z] 49)) = .ok (.string ⟨k.toArray⟩) (wr.alloc (Obj.cells #[Value.slice ka kl kc, Value.int IntKind.i64 z] 49)) := by
        have hK : KEY w S (.slice ka kl kc) k := ⟨ka, kc, kb, ko, by rw [hkl], by rw [← hkl]; exact hka, hcl⟩
        exact (hK.below (HB.out.alloc HB.out.size _)).conv
      obtain ⟨ks, hks⟩ : ∃ ks : ByteArray, ks = ⟨k.toArray⟩ := ⟨_, rfl⟩
      rw [← hks] at hconv
      have hq : (ks.toList == ms.toList) = decide (k = m) := by rw [hks, HM.out]; exact beq_str k m
      by_cases hz : k = m
      · have HR : Hid ((A.any fun p => decide (p.1 = m)) = true) := List.any_eq_true.2 ⟨(k, z), List.mem_of_getElem? hp, by simpa using hz⟩
        rw [decide_eq_true hz] at hq
        clear hp hs hall hkl hka hcl hks hz
        go_wp2
        go_ret
        exact ⟨ret_bool HR.out.symm, HB.out.alloc HB.out.size _⟩
      · have HS : Hid ((A.take (j + 1)).any (fun p => decide (p.1 = m)) = false) := hs.trans (by simpa using hz)
        rw [decide_eq_false hz] at hq
        clear hp hs hall hkl hka hcl hks hz
        go_wp2
        go_roundw
        case rel => exact ⟨j + 1, by omega, by go_num, HS.out, HB.out.alloc HB.out.size _⟩
        case measure => simp [intOf]; omega
    · rw [List.take_of_length_le (by have := HN.out; omega)] at hall
      have HR : Hid ((A.any fun p => decide (p.1 = m)) = false) := hall
      clear hall
      go_wp2
      go_ret
      exact ⟨ret_bool HR.out.symm, HB.out⟩

theorem has_any (w : World) {S : Nat → Prop} (A : List Bz) (m : List UInt8) (v : Value) (h : BUSY w S v A) (hlen : A.length ≤ 1048576) :
    Calls Try.prog 20 #[v, .string ⟨m.toArray⟩] w fun e w' => e = .returned (.bool (A.any fun p => decide (p.1 = m))) ∧ Below w.heap.size w w' := by
  obtain ⟨a, c, b, o, rfl, ha, hc⟩ := h
  exact has_walk w A m a c b o _ rfl (fun h => ⟨(ha h).1, (ha h).2.2⟩) hc hlen
end Go.Proofs.Qxb6616195a
