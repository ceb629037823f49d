/- FnAddShortIntegerCut: the row. -/
import Derived.Test.Qxb6616010aCut
import Derived.Test.Qxb6616010aCutEdge
import Derived.Test.Qxb6616010aOpen
import Derived.ShutString
import Derived.ChangeOld
import Derived.Below
namespace Go.Proofs.Qxb6616010a
open Go.ChangeShapes Go.WideShapes Go.ChangeAt Go.RowKit

theorem own6 : ownKnob Try.prog.godebug = none := by kernel_rfl
theorem laidOut6 : laidOutB Try.prog = true := by kernel_rfl

theorem cut_law (w : World) (zs : List (Int × Int)) (ao : Option Addr) (b o c n : Nat) (k : Int) (hao : 0 < n → ao = some ⟨b, o, none⟩ ∧ b < w.heap.size) (hn : n = zs.length) (hsp : SPN w b o zs) (hw : ∀ p ∈ zs, wide p) (hmax : n ≤ 9223372036854775807) (hnc : n ≤ c) :
    Calls Try.prog 6 #[.slice ao n c, .int .i64 k] w fun e w' => e = .returned (.bool true) ∧ Below w.heap.size w w' := by
  by_cases h1 : 32768 < n
  · exact cut_long w ao c n k h1 hmax
  · rcases Bool.eq_false_or_eq_true (zs.all spB) with h2 | h2
    · by_cases hk : k < 0 ∨ (n : Int) < k
      · exact cut_out w zs ao b o c n k (fun h => (hao h).1) hn hsp (by omega) h2 hw hk
      · obtain ⟨k', rfl⟩ := Int.eq_ofNat_of_zero_le (show 0 ≤ k by omega)
        rcases Nat.eq_zero_or_pos n with h3 | h3
        · subst h3
          obtain rfl : k' = 0 := by omega
          exact cut_nil w ao c
        · obtain ⟨rfl, hb⟩ := hao h3
          exact cut_main w zs b o c n k' hb hn hsp (fun p hp => spB_ok p (List.all_eq_true.1 h2 p hp)) (by omega) h3 h2 hw (by omega) hnc
    · exact cut_bad w zs ao b o c n k (fun h => (hao h).1) hn hsp (by omega) h2 hw

theorem spans_cap {H : Type} {enc : TypeId × Value → H} {W : World} {fuel : Nat} {a0 : Option Addr} {len cap : Nat} {x : DataW H × List MemPlace}
    (h : DataW.trod enc Try.prog W 0 (fun _ => true) true fuel 28 [.slice a0 len cap] = some x) : len ≤ cap := by
  rcases Go.Deep.open_slice (P := Try.prog) Try.underlying28 h with ⟨hcs, _⟩ | ⟨a, l, c, m, n, D, Pl, hcs, _, hl, _⟩
  · simp at hcs; omega
  · simp at hcs; omega

set_option maxRecDepth 100000 in
theorem cut_lifted (os : Os) (started : os.Started) (H : Type) (enc : TypeId × Value → H) :
    ReturnsInHanded {} Try.checked os 6 .any (Rows.fnAddShortIntegerCutSpec.pre6 enc Try.prog Try.f6 Rows.fnAddShortIntegerCutRow.domain false) (Rows.fnAddShortIntegerCutSpec.post enc Try.prog Try.f6 false true false false) := by
  refine returnsInHanded_of_change (C := Try.checked) own6 started (by kernel_rfl) Try.func6
    (ChangeSpec.witness6 (enc := enc) (C := Try.checked) false ⟨#[], #[.slice none 0 0, .int .i64 0], []⟩ 8 (by kernel_rfl) (by kernel_rfl) (by kernel_rfl) (by kernel_rfl)) ?_
  intro W base args ds gs before hval0 hW hcnd _
  have hval : ∀ (j : Nat) t v, Try.f6.params[j]? = some t → args[j]? = some v → Value.okWide Try.prog W .any base t v := hval0
  have hW' := hW
  obtain ⟨p, q, hA0, hV, rfl, hfz, hnd⟩ := hW
  have hA : DataW.TrodAll enc Try.prog W 0 (fun _ => true) true Try.f6.params.toList args.toList ds p := hA0
  rw [Try.params6] at hA hval
  obtain ⟨v0, vs0, d0, ds0, p0, q0, hargs, rfl, rfl, h0, r0⟩ := trodAll_cons hA
  obtain ⟨v1, vs1, d1, ds1, p1, q1, rfl, rfl, rfl, h1, r1⟩ := trodAll_cons r0
  obtain ⟨rfl, rfl, rfl⟩ := trodAll_nil r1
  obtain rfl : args = #[v0, v1] := by cases args; simp_all
  obtain ⟨rfl, rfl⟩ := trodVars_none hV
  obtain ⟨a0, len0, cap0, rfl⟩ := okWide_slice Try.underlying28 (hval 0 28 v0 rfl rfl)
  have k0 := h0
  have lt0 : ∀ x ∈ p0, x.block < W.heap.size := by obtain ⟨m, hm⟩ := k0; exact DataW.trod_lt m _ _ _ hm
  obtain ⟨a1, rfl, rfl, rfl, w1⟩ := open_int Try.underlying3 (hval 1 3 v1 rfl rfl) h1
  obtain ⟨fuel, hf⟩ := h0
  have hf' : DataW.trod enc Try.prog W 0 (fun _ => true) true fuel 28 [.slice a0 len0 cap0] = some (d0, p0) := by simpa [Value.cells] using hf
  obtain ⟨zs, b, o, hn, hao, hsp, hw, hmax⟩ := open_spans hf'
  have hnc := spans_cap hf'
  clear hA0 hval0
  refine (cut_law W zs a0 b o cap0 len0 a1 hao hn hsp hw hmax hnc).mono fun e W' ⟨he, bel⟩ => ?_
  subst he
  exact ⟨_, rfl, _, _, _, [], _, [], hW', trodAll_mk1 (shut_bool Try.underlying4 _), (trodAll_cons_mk (Below.trod laidOut6 (by kernel_rfl) (of_decide_eq_true (by kernel_rfl)) k0 bel lt0) (trodAll_cons_mk (shut_int Try.underlying3 w1) trodAll_mk0)), rfl, bel.frame _, fun h => by cases h⟩

theorem cut_over : Rows.fnAddShortIntegerCutRow.holds Try.pinned (OpenSpec.ofChange Rows.fnAddShortIntegerCutSpec) :=
  OpenClaim.holds_of_wide 6 Try.f6 rfl rfl rfl rfl rfl rfl rfl ⟨rfl, rfl, rfl, rfl, rfl⟩ rfl rfl rfl rfl rfl (by kernel_rfl) Try.func6 (by kernel_rfl)
    (of_decide_eq_true (by kernel_rfl)) (by unfold Func.isWrapper; first | (rw [if_pos (by decide +kernel)]; kernel_rfl) | (rw [if_neg (by decide +kernel)]; exact ⟨rfl, rfl⟩))
    (fun os started H enc _ => cut_lifted os started H enc)

/-- THE STATEMENT -/
theorem cut_proved : Rows.FnAddShortIntegerCutSaid := cut_over

end Go.Proofs.Qxb6616010a
