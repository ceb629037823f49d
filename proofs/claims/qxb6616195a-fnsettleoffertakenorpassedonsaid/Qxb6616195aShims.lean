/- The small functions round settle and offer. -/
import Derived.Test.Qxb6616195aSettle
import Derived.Conc.SmallLaws
import Derived.Conc.LoneSelectN
namespace Go.Proofs.Qxb6616195a
open Go.RowKit Go.Conc

set_option maxHeartbeats 400000 in
theorem newTurns_any (w : World) : Calls Try.prog 9 #[] w fun e w' => e = .returned (ptr w.heap.size) ∧ ∃ q e o u d c, w' = w.alloc (.cells #[.int .i32 0, q, .map none, e, o, u, d, c] 64) := by
  go_enter Try.func9, Try.ntmps9
  go_wp2
  go_ret
  exact ⟨rfl, _, _, _, _, _, _, rfl⟩

set_option maxHeartbeats 400000 in
theorem newWaiter_any (w : World) : Calls Try.prog 10 #[] w fun e w' => e = .returned (ptr (w.heap.size + 1)) ∧ w' = (w.alloc (.chan 1 #[] false 0 0 false)).alloc (.cells #[.chan (some w.heap.size), .slice none 0 0, .string ⟨#[]⟩] 66) := by
  have hmk : ∀ w : World, (Instr.makeChan 61 (.int .i64 1)).run Try.prog w = .ok (.chan (some w.heap.size)) (w.alloc (.chan 1 #[] false 0 0 false)) := fun w => by
    have h : (Try.prog.info? 53).map (·.bytes) = some 0 := by kernel_rfl
    obtain ⟨i, hi, hb⟩ := Option.map_eq_some_iff.1 h
    simpa using run_makeChan (P := Try.prog) (w := w) Try.underlying61 hi .i64 1 (by omega) (by rw [hb]; omega)
  go_enter Try.func10, Try.ntmps10
  go_wp2
  go_ret
  exact ⟨rfl, rfl⟩

set_option maxHeartbeats 400000 in
theorem queued_any (w : World) (F W : Nat) (p : WS) (h : WT w F W p) : Calls Try.prog 15 #[ptr W] w fun e w' => e = .returned p.qv ∧ w' = w := by
  obtain ⟨-, d1, -, -, -⟩ := h.cells
  obtain ⟨a, c, hv⟩ := h.row.lit
  rw [hv] at d1 ⊢
  clear hv h
  unfold ptr
  go_enter Try.func15, Try.ntmps15
  go_wp2
  go_ret
  exact ⟨rfl, rfl⟩
set_option maxHeartbeats 400000 in
theorem offered_any (w : World) (F W : Nat) (p : WS) (h : WT w F W p) : Calls Try.prog 17 #[ptr W] w fun e w' => e = .returned (.string ⟨p.off.toArray⟩) ∧ w' = w := by
  obtain ⟨-, -, d1, -, -⟩ := h.cells
  obtain ⟨fb, hfb⟩ : ∃ fb : ByteArray, fb = ⟨p.off.toArray⟩ := ⟨_, rfl⟩
  rw [← hfb] at d1 ⊢
  clear hfb h
  unfold ptr
  go_enter Try.func17, Try.ntmps17
  go_wp2
  go_ret
  exact ⟨rfl, rfl⟩
set_option maxHeartbeats 400000 in
theorem tokens_any (w : World) (F W : Nat) (p : WS) (h : WT w F W p) : Calls Try.prog 18 #[ptr W] w fun e w' => e = .returned (.int .i64 p.tok) ∧ w' = w := by
  obtain ⟨d1, -, -, -, -⟩ := h.cells
  obtain ⟨buf, s, r, hc, hb⟩ := h.chan
  rw [← hb]
  have hl := fun ty => run_len_chan (P := Try.prog) (w := w) 61 ty Try.underlying61 hc
  unfold goInt at hl
  clear hb h hc
  unfold ptr
  go_enter Try.func18, Try.ntmps18
  go_wp2
  go_ret
  exact ⟨rfl, rfl⟩
set_option maxHeartbeats 400000 in
theorem numCounts_any (w : World) (F T : Nat) (s : Int) (mb : Option Nat) (M : List Ent) (h : TS w F T s mb M) : Calls Try.prog 22 #[ptr T] w fun e w' => e = .returned (.int .i64 M.length) ∧ w' = w := by
  obtain ⟨-, d1, -, -, -⟩ := h.cells
  have hl := h.mp.len
  have hn : (vw M).length = M.length := by simp [vw]
  rw [hn] at hl
  clear h hn
  unfold ptr
  go_enter Try.func22, Try.ntmps22
  go_wp2
  go_ret
  exact ⟨rfl, rfl⟩
set_option maxHeartbeats 400000 in
theorem kept_any (w : World) (F T : Nat) (s : Int) (mb : Option Nat) (M : List Ent) (k : Ky) (h : TS w F T s mb M) (hk : k.length ≤ 1048576) : Calls Try.prog 29 #[ptr T, .string ⟨k.toArray⟩] w fun e w' => e = .returned (ptrV ((vw M).lookup k)) ∧ w' = w := by
  obtain ⟨-, d1, -, -, -⟩ := h.cells
  have hl := h.mp.look k hk
  obtain ⟨kb, hkb⟩ : ∃ kb : ByteArray, kb = ⟨k.toArray⟩ := ⟨_, rfl⟩
  rw [← hkb] at hl ⊢
  cases hv : (vw M).lookup k with
  | none =>
    rw [hv] at hl
    simp only [ptrV] at hl ⊢
    clear h hkb hv
    unfold ptr
    go_enter Try.func29, Try.ntmps29
    go_wp2
    go_ret
    exact ⟨rfl, rfl⟩
  | some c =>
    rw [hv] at hl
    simp only [ptrV] at hl ⊢
    clear h hkb hv
    unfold ptr
    go_enter Try.func29, Try.ntmps29
    go_wp2
    go_ret
    exact ⟨rfl, rfl⟩
set_option maxHeartbeats 400000 in
theorem checking_any (w : World) (F : Nat) (x : Ent) (h : ENT w F x) : Calls Try.prog 30 #[ptr x.2.1] w fun e w' => e = .returned (.int .i64 0) ∧ w' = w := by
  obtain ⟨d1, -, -, -⟩ := h.cells
  clear h
  unfold ptr
  go_enter Try.func30, Try.ntmps30
  go_wp2
  go_ret
  exact ⟨rfl, rfl⟩
set_option maxHeartbeats 400000 in
theorem waiting_any (w : World) (F : Nat) (x : Ent) (h : ENT w F x) : Calls Try.prog 31 #[ptr x.2.1] w fun e w' => e = .returned x.2.2.1 ∧ w' = w := by
  obtain ⟨-, d1, -, -⟩ := h.cells
  obtain ⟨a, c, hv⟩ := h.slice
  rw [hv] at d1 ⊢
  clear hv h
  unfold ptr
  go_enter Try.func31, Try.ntmps31
  go_wp2
  go_ret
  exact ⟨rfl, rfl⟩

set_option maxHeartbeats 400000 in
theorem zzsettle_any {w : World} {F T : Nat} {M : List Ent} {W : Nat} {p : WS} {O : Nat} {q : WS} {A : List Bz} {v : Value} (h : Calls Try.prog 27 #[ptr T, ptr W, v] w fun e w' => SetR w F T M W p O q A e w') :
    Calls Try.prog 11 #[ptr T, ptr W, v] w fun e w' => SetR w F T M W p O q A e w' := by
  unfold ptr at h ⊢
  go_enter Try.func11, Try.ntmps11
  go_wp2_with (first
    | (go_at_call 27; refine h.mono ?_; rintro e w' ⟨M', again, p', q', rfl, hR⟩))
  go_ret2
  exact ⟨M', again, p', q', rfl, hR⟩
set_option maxHeartbeats 400000 in
theorem zzoffer_any {w : World} {R : World → Prop} {T : Nat} {kb : ByteArray} (h : Calls Try.prog 32 #[ptr T, .string kb] w fun e w' => e = .returned (.tuple #[]) ∧ R w') :
    Calls Try.prog 24 #[ptr T, .string kb] w fun e w' => e = .returned (.tuple #[]) ∧ R w' := by
  unfold ptr at h ⊢
  go_enter Try.func24, Try.ntmps24
  go_wp2_with (first
    | (go_at_call 32; refine h.mono ?_; rintro e w' ⟨rfl, hR⟩))
  go_end0
  exact ⟨rfl, hR⟩
end Go.Proofs.Qxb6616195a
