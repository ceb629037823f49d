/- lineIs, where the line is as wanted; the start. -/
import Derived.Test.Qxb6616195aShims
namespace Go.Proofs.Qxb6616195a
open Go.RowKit Go.Conc

set_option maxHeartbeats 400000 in
theorem line_nil (w : World) (F T : Nat) (s : Int) (mb : Option Nat) (M : List Ent) (k : Ky) (h : TS w F T s mb M) (hk : k.length ≤ 1048576) (a : Option Addr) (c : Nat) (hlv : LV M k = none) :
    Calls Try.prog 21 #[ptr T, .string ⟨k.toArray⟩, .slice a 0 c] w fun e w' => e = .returned (.bool true) ∧ ∃ n, w' = w.drewN n := by
  have kk := kept_any w F T s mb M k h hk
  rw [LV_none.1 hlv] at kk
  simp only [ptrV] at kk
  obtain ⟨kb, hkb⟩ : ∃ kb : ByteArray, kb = ⟨k.toArray⟩ := ⟨_, rfl⟩
  rw [← hkb] at kk ⊢
  clear h hk hlv hkb
  unfold ptr at kk ⊢
  go_enter Try.func21, Try.ntmps21
  go_wp2_with (first
    | (go_at_call 29; refine kk.mono ?_; rintro e w' ⟨rfl, hw'⟩; subst w'))
  go_ret
  exact ⟨rfl, 0, rfl⟩

set_option maxHeartbeats 400000 in
theorem line_cons (w : World) (F T : Nat) (s : Int) (mb : Option Nat) (M : List Ent) (k : Ky) (h : TS w F T s mb M) (hk : k.length ≤ 1048576) (g0 n cap : Nat) (want : List Nat) (hn : n = want.length) (hpos : 0 < n) (hlen : n ≤ 1000)
    (hc : ∀ i x, want[i]? = some x → w.cell? ⟨g0, i, none⟩ = some (ptr x)) (hW : ∀ g ∈ want, isW w g) (hlv : LV M k = some want) :
    Calls Try.prog 21 #[ptr T, .string ⟨k.toArray⟩, .slice (some ⟨g0, 0, none⟩) n cap] w fun e w' => e = .returned (.bool true) ∧ ∃ n, w' = w.drewN n := by
  obtain ⟨M1, x, M2, hMe, hx1, hx2, hlk⟩ := ent_of h hlv
  have hx : ENT w F x := h.ents x (by rw [hMe]; simp)
  have kk := kept_any w F T s mb M k h hk
  rw [hlk] at kk
  simp only [ptrV] at kk
  have kch := checking_any w F x hx
  have kw := waiting_any w F x hx
  have hrow := hx.row
  rw [hx2] at hrow
  obtain ⟨g, cap2, hv, -, -⟩ := hrow.form (by omega)
  rw [hv] at hrow kw
  rw [← hn] at kw
  have hc2 : ∀ i x, want[i]? = some x → w.cell? ⟨g, i, none⟩ = some (ptr x) := by
    intro i x hi
    have := (List.getElem?_eq_some_iff.1 hi).1
    rw [hrow.cellAt i (by omega), List.getElem?_map, hi]; rfl
  have HC : Hid (∀ i x, want[i]? = some x → w.cell? ⟨g0, i, none⟩ = some (ptr x) ∧ w.cell? ⟨g, i, none⟩ = some (ptr x) ∧ isW w x) := fun i x hi => ⟨hc i x hi, hc2 i x hi, hW x (List.mem_of_getElem? hi)⟩
  have HN : Hid (n = want.length) := hn
  obtain ⟨xc, hxc⟩ : ∃ xc, xc = x.2.1 := ⟨_, rfl⟩
  rw [← hxc] at kk kch kw
  obtain ⟨kb, hkb⟩ : ∃ kb : ByteArray, kb = ⟨k.toArray⟩ := ⟨_, rfl⟩
  rw [← hkb] at kk ⊢
  clear h hk hlv hkb hMe hx1 hx2 hlk hx hrow hv hc hc2 hW hn hxc
  unfold ptr at kk kch kw ⊢
  go_enter Try.func21, Try.ntmps21
  go_wp2_with (first
    | (go_at_call 29; refine kk.mono ?_; rintro e w' ⟨rfl, hw'⟩; subst w')
    | (go_at_call 30; refine kch.mono ?_; rintro e w' ⟨rfl, hw'⟩; subst w')
    | (go_at_call 31; refine kw.mono ?_; rintro e w' ⟨rfl, hw'⟩; subst w'))
  go_loopw [32] (fun x wr => ∃ i : Nat, i ≤ n ∧ x = .int .i64 i ∧ ∃ m, wr = w.drewN m) (fun x _ => n - (intOf x).toNat)
  case atStart => exact ⟨0, by omega, rfl, 0, rfl⟩
  case round =>
    obtain ⟨i, hi, rfl, m, rfl⟩ := hrel
    by_cases hlt : i < n
    · obtain ⟨y, hy⟩ : ∃ y, want[i]? = some y := ⟨_, List.getElem?_eq_getElem (by have := HN.out; omega)⟩
      obtain ⟨d1, d2, d3⟩ := HC.out i y hy
      unfold ptr at d1 d2
      have hne := fun m => neP (w.drewN m) y y d3 d3
      simp only [decide_true, Bool.not_true] at hne
      clear hy d3
      go_wp2_with fail
      go_quiet (fail)
      go_wp2
      go_roundw
      case rel => exact ⟨i + 1, by omega, by go_num, _, rfl⟩
      case measure => simp [intOf]; omega
    · go_wp2
      go_ret
      exact ⟨rfl, _, rfl⟩

theorem lineIs_any (w : World) (F T : Nat) (s : Int) (mb : Option Nat) (M : List Ent) (k : Ky) (h : TS w F T s mb M) (hk : k.length ≤ 1048576) (base : Nat) (v : Value) (want : List Nat) (hrow : w.ownsRow base 29 1 v want.length (want.map ptr)) (hlen : want.length ≤ 1000)
    (hW : ∀ g ∈ want, isW w g) (hlv : LV M k = if want = [] then none else some want) :
    Calls Try.prog 21 #[ptr T, .string ⟨k.toArray⟩, v] w fun e w' => e = .returned (.bool true) ∧ ∃ n, w' = w.drewN n := by
  cases want with
  | nil =>
    rcases hrow.2 with ⟨rfl, _⟩ | ⟨g, cap, cur, rfl, _⟩
    · exact line_nil w F T s mb M k h hk _ _ (by simpa using hlv)
    · exact line_nil w F T s mb M k h hk _ _ (by simpa using hlv)
  | cons a r =>
    obtain ⟨g, cap, rfl, -, -⟩ := hrow.form (by simp)
    refine line_cons w F T s mb M k h hk g _ cap (a :: r) rfl (by simp) hlen ?_ hW (by simpa using hlv)
    intro i x hi
    have := (List.getElem?_eq_some_iff.1 hi).1
    rw [hrow.cellAt i (by omega), List.getElem?_map, hi]; rfl
end Go.Proofs.Qxb6616195a
