/- keysOf, busyCounts, cloneBusy. -/
import Derived.Test.Qxb6616195aFill
import Derived.Deep.RegionWith
namespace Go.Proofs.Qxb6616195a
open Go.RowKit

def strs (A : List Bz) : List Value := A.map fun p => .string ⟨p.1.toArray⟩

set_option maxHeartbeats 400000 in
theorem keysOf_walk (w : World) {S : Nat → Prop} (A : List Bz) (a : Option Addr) (c b o n : Nat) (hn : n = A.length) (ha : 0 < n → a = some ⟨b, o, none⟩ ∧ b < w.heap.size) (hc : BCELLS w S b o A) (hlen : n ≤ 1048576) :
    Calls Try.prog 16 #[.slice a n c] w fun e w' => ∃ K, e = .returned (.slice (some ⟨K, 0, none⟩) n n) ∧ w'.ownsRow w.heap.size 9 1 (.slice (some ⟨K, 0, none⟩) n n) n (strs A) ∧ Below w.heap.size w w' := by
  obtain ⟨i9, hi, hz0, hz1, hz2⟩ := info_parts Try.info9
  have hb9 : i9.bytes * n ≤ 281474976710656 := by rw [hz2]; omega
  have HN : Hid (n = A.length) := hn
  have HA : Hid (0 < n → a = some ⟨b, o, none⟩ ∧ b < w.heap.size) := ha
  have HC : Hid (BCELLS w S b o A) := hc
  clear hn ha hc
  go_enter Try.func16, Try.ntmps16
  go_wp2_with (first
    | (at_make; refine wpList_make_full _ rfl (.tmp 7) (.tmp 7) 36 rfl w.heap.size 9 i9 _ 1 Try.underlying36 hi hz0 hz1 .i64 .i64 _ _ n rfl rfl rfl rfl hb9 (by unfold maxLen; omega) (Nat.le_refl _) ?_; intro w1 hown1 hgrow1))
  have hF : FILL w w1 9 1 w.heap.size n (strs A) 0 := ⟨_, hown1, fun t ht => absurd ht (by omega), (Below.refl _ _).grown hgrow1 (Nat.le_refl _) (by simp)⟩
  clear hown1 hgrow1
  go_loopw [11] (fun x wr => ∃ j : Nat, j ≤ n ∧ x = .int .i64 j ∧ FILL w wr 9 1 w.heap.size n (strs A) j) (fun x _ => n - (intOf x).toNat)
  case atStart => exact ⟨0, by omega, rfl, hF⟩
  case round =>
    obtain ⟨j, hj, rfl, hFj⟩ := hrel
    have HF : Hid (FILL w wr 9 1 w.heap.size n (strs A) j) := hFj
    clear hFj hF
    by_cases hlt : j < n
    · obtain ⟨rfl, hb⟩ := HA.out (by omega)
      obtain ⟨k, z, ka, kc, kb, ko, kl, hp, hkl, hka, hcl, d1, d2⟩ := HC.out.at HN.out hlt hb HF.out.bel
      have hB2 : Below w.heap.size w (wr.alloc (Obj.cells #[Value.slice ka kl kc, Value.int IntKind.i64 z] 49)) := HF.out.bel.alloc HF.out.bel.size _
      have hconv : (convert 47 9 (.slice ka kl kc)).run Try.prog (wr.alloc (Obj.cells #[Value.slice ka kl kc, Value.int IntKind.i64 z] 49)) = .ok (.string ⟨k.toArray⟩) (wr.alloc (Obj.cells #[Value.slice ka kl kc, Value.int IntKind.i64 z] 49)) := by
        have hK : KEY w S (.slice ka kl kc) k := ⟨ka, kc, kb, ko, by rw [hkl], by rw [← hkl]; exact hka, hcl⟩
        exact (hK.below hB2).conv
      have hF2 := HF.out.below ((Below.refl wr.heap.size wr).alloc (Nat.le_refl _) (Obj.cells #[Value.slice ka kl kc, Value.int IntKind.i64 z] 49))
      obtain ⟨⟨x0, c1⟩, f1, hK, _⟩ := hF2.facts (i := j) (by omega)
      obtain ⟨ks, hks⟩ : ∃ ks : ByteArray, ks = ⟨k.toArray⟩ := ⟨_, rfl⟩
      have HS : Hid (FILL w ((wr.alloc (Obj.cells #[Value.slice ka kl kc, Value.int IntKind.i64 z] 49)).setCell ⟨w.heap.size, j, none⟩ (.string ks)) 9 1 w.heap.size n (strs A) (j + 1)) := hF2.step (by omega) (by rw [strs, List.getElem?_map, hp, hks]; rfl)
      rw [← hks] at hconv
      clear hp hkl hka hcl hB2 hF2 hks
      go_wp2
      go_roundw
      case rel => exact ⟨j + 1, by omega, by go_num, HS.out⟩
      case measure => simp [intOf]; omega
    · have hfin := HF.out.fin (by omega) (by simp [strs]; exact HN.out.symm)
      have HR : Hid (wr.ownsRow w.heap.size 9 1 (.slice (some ⟨w.heap.size, 0, none⟩) n n) n (strs A)) := hfin.1
      have HB : Hid (Below w.heap.size w wr) := hfin.2
      clear hfin
      go_wp2
      go_ret
      exact ⟨_, rfl, HR.out, HB.out⟩
theorem keysOf_any (w : World) {S : Nat → Prop} (A : List Bz) (v : Value) (h : BUSY w S v A) (hlen : A.length ≤ 1048576) :
    Calls Try.prog 16 #[v] w fun e w' => ∃ K, e = .returned (.slice (some ⟨K, 0, none⟩) A.length A.length) ∧ w'.ownsRow w.heap.size 9 1 (.slice (some ⟨K, 0, none⟩) A.length A.length) A.length (strs A) ∧ Below w.heap.size w w' := by
  obtain ⟨a, c, b, o, rfl, ha, hc⟩ := h
  exact keysOf_walk w A a c b o _ rfl (fun h => ⟨(ha h).1, (ha h).2.2⟩) hc hlen
end Go.Proofs.Qxb6616195a
