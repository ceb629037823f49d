/- zzRunScript's contract. -/
import Derived.Test.Qxb6616010aAsi
namespace Go.Proofs.Qxb6616010a
open Go.RowKit

/-- the cells of the spans -/
def SPN (w : World) (b o : Nat) (zs : List (Int × Int)) : Prop := ∀ j p, zs[j]? = some p → w.cell? ⟨b, o + j * 2, none⟩ = some (.int .i64 p.1) ∧ w.cell? ⟨b, o + j * 2 + 1, none⟩ = some (.int .i64 p.2)

def F (zs : List (Int × Int)) (j : Nat) : List (Int × Int) × Int := (zs.take j).foldl stp ([], 0)

theorem F_succ (zs : List (Int × Int)) (j : Nat) (p : Int × Int) (h : zs[j]? = some p) : F zs (j + 1) = stp (F zs j) p := by
  unfold F
  obtain ⟨hj, rfl⟩ := List.getElem?_eq_some_iff.1 h
  rw [List.take_succ_eq_append_getElem hj, List.foldl_append]
  rfl
theorem F_good (zs : List (Int × Int)) (hz : ∀ p ∈ zs, spOk p) (j : Nat) : Good (F zs j) ∧ (F zs j).1.length ≤ j := by
  induction j with
  | zero => exact ⟨⟨by simp [F], by simp [F], by simp [F], by simp [F]⟩, by simp [F]⟩
  | succ j ih =>
    rcases h : zs[j]? with _ | p
    · have : F zs (j + 1) = F zs j := by
        have := List.getElem?_eq_none_iff.1 h
        unfold F; rw [List.take_of_length_le (by omega), List.take_of_length_le (by omega)]
      rw [this]; exact ⟨ih.1, by omega⟩
    · rw [F_succ zs j p h]
      obtain ⟨s, t⟩ := p
      have hp := hz (s, t) (List.mem_of_getElem? h)
      obtain ⟨h1, h2, _, _⟩ := stp_good (F zs j).1 (F zs j).2 s t ih.1 hp
      refine ⟨h1, ?_⟩
      have h3 : (stp (F zs j) (s, t)).1.length ≤ (F zs j).1.length + 1 := h2
      have := ih.2
      omega

set_option maxHeartbeats 400000 in
theorem zasi_any (w : World) (B P : Nat) (ns : List (Int × Int)) (se s t : Int) (h : LST w B P ns se) (hn : ns.length < 1000000) (hg : Good (ns, se)) (hs : spOk (s, t)) :
    Calls Try.prog 23 #[.pointer (some ⟨P, 0, none⟩), .int .i64 s, .int .i64 t] w fun e w' => e = .returned (.tuple #[]) ∧ LST w' B P (stp (ns, se) (s, t)).1 (stp (ns, se) (s, t)).2 ∧ Below B w w' := by
  go_enter Try.func23, Try.ntmps23
  go_wp2_with (go_at_call 29; refine (asi_any w B P ns se s t h hn hg hs).mono ?_; rintro e w' ⟨rfl, hL, hB⟩)
  go_end0
  exact ⟨rfl, hL, hB⟩

set_option maxHeartbeats 400000 in
theorem newParser_any (w : World) : Calls Try.prog 22 #[.slice none 0 0, .int .i64 0] w fun e w' => e = .returned (.pointer (some ⟨w.heap.size, 0, none⟩)) ∧ LST w' w.heap.size w.heap.size [] 0 ∧ Below w.heap.size w w' := by
  go_enter Try.func22, Try.ntmps22
  go_wp2
  go_ret
  refine ⟨rfl, ⟨0, 0, fun _ => 0, .slice none 0 0, .slice none 0 0, ?_⟩, (Below.refl _ _).alloc (Nat.le_refl _) _⟩
  refine ⟨⟨⟨_, Go.heap_alloc_new w _, rfl, rfl, rfl, rfl, rfl⟩, Nat.le_refl _⟩, World.ownsRow_nil _ _ _ _, fun j hj => absurd hj (by omega), fun i j hi => absurd hi (by omega), fun _ => ⟨rfl, rfl, rfl, rfl⟩, fun h => absurd h (by omega), fun p hp => by simp at hp, fun h => absurd h (by omega)⟩

set_option maxHeartbeats 400000 in
theorem runScript_pos (w : World) (zs : List (Int × Int)) (b o c n : Nat) (hn : n = zs.length) (hsp : SPN w b o zs) (hb : b < w.heap.size) (hz : ∀ p ∈ zs, spOk p) (hlen : n ≤ 100000) :
    Calls Try.prog 14 #[.slice (some ⟨b, o, none⟩) n c] w fun e w' => e = .returned (.pointer (some ⟨w.heap.size, 0, none⟩)) ∧ LST w' w.heap.size w.heap.size (F zs n).1 (F zs n).2 ∧ Below w.heap.size w w' := by
  have HN : Hid (n = zs.length) := hn
  clear hn
  go_enter Try.func14, Try.ntmps14
  go_wp2_with (go_at_call 22; refine (newParser_any w).mono ?_; rintro e w1 ⟨rfl, hL1, hB1⟩)
  go_loopw [4] (fun i wr => ∃ j : Nat, j ≤ n ∧ i = .int .i64 j ∧ LST wr w.heap.size w.heap.size (F zs j).1 (F zs j).2 ∧ Below w.heap.size w wr) (fun i _ => n - (intOf i).toNat)
  case atStart => exact ⟨0, by omega, rfl, hL1, hB1⟩
  case round =>
    obtain ⟨j, hj, rfl, hL, hB⟩ := hrel
    by_cases hlt : j < n
    · obtain ⟨p, hp⟩ : ∃ p, zs[j]? = some p := ⟨zs[j]'(by have := HN.out; omega), List.getElem?_eq_getElem _⟩
      obtain ⟨s, t⟩ := p
      have hc := hsp j (s, t) hp
      have c1 : wr.cell? ⟨b, o + j * 2, none⟩ = some (.int .i64 s) := (hB.cell (by exact hb)).trans hc.1
      have c2 : wr.cell? ⟨b, o + j * 2 + 1, none⟩ = some (.int .i64 t) := (hB.cell (by exact hb)).trans hc.2
      have hg := F_good zs hz j
      have hgl := hg.2
      have HS : Hid (F zs (j + 1) = stp (F zs j) (s, t)) := F_succ zs j (s, t) hp
      have hz1 := hz (s, t) (List.mem_of_getElem? hp)
      have hd := hL.drewN
      clear hc hp
      go_wp2_with fail
      go_region_with (go_at_call 23; refine (zasi_any _ w.heap.size w.heap.size (F zs j).1 (F zs j).2 s t (by exact hd _) (by omega) hg.1 hz1).mono ?_; rintro e w2 ⟨rfl, hL2, hB2⟩)
      all_goals
        go_wp2
        go_roundw
        case rel => exact ⟨j + 1, by omega, by go_num, by rw [HS.out]; exact hL2, hB.trans (below_of_drewN (n := 1) hB2)⟩
        case measure => simp [intOf]; omega
    · obtain rfl : j = n := by omega
      go_wp2
      go_ret
      exact ⟨rfl, hL, hB⟩

set_option maxHeartbeats 400000 in
theorem runScript_nil (w : World) (ao : Option Addr) (c : Nat) :
    Calls Try.prog 14 #[.slice ao 0 c] w fun e w' => e = .returned (.pointer (some ⟨w.heap.size, 0, none⟩)) ∧ LST w' w.heap.size w.heap.size [] 0 ∧ Below w.heap.size w w' := by
  go_enter Try.func14, Try.ntmps14
  go_wp2_with (go_at_call 22; refine (newParser_any w).mono ?_; rintro e w1 ⟨rfl, hL1, hB1⟩)
  go_loopw [4] (fun i wr => i = .int .i64 0 ∧ LST wr w.heap.size w.heap.size [] 0 ∧ Below w.heap.size w wr) (fun _ _ => 0)
  case atStart => exact ⟨rfl, hL1, hB1⟩
  case round =>
    obtain ⟨rfl, hL, hB⟩ := hrel
    go_wp2
    go_ret
    exact ⟨rfl, hL, hB⟩

theorem runScript_any (w : World) (zs : List (Int × Int)) (ao : Option Addr) (b o c n : Nat) (hao : 0 < n → ao = some ⟨b, o, none⟩ ∧ b < w.heap.size) (hn : n = zs.length) (hsp : SPN w b o zs) (hz : ∀ p ∈ zs, spOk p) (hlen : n ≤ 100000) :
    Calls Try.prog 14 #[.slice ao n c] w fun e w' => e = .returned (.pointer (some ⟨w.heap.size, 0, none⟩)) ∧ LST w' w.heap.size w.heap.size (F zs n).1 (F zs n).2 ∧ Below w.heap.size w w' := by
  rcases Nat.eq_zero_or_pos n with h | h
  · subst h
    exact runScript_nil w ao c
  · obtain ⟨rfl, hb⟩ := hao h
    exact runScript_pos w zs b o c n hn hsp hb hz hlen

end Go.Proofs.Qxb6616010a
