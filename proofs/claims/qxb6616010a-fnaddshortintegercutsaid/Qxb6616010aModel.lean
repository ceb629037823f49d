/- zzRunsModel's contract. -/
import Derived.Test.Qxb6616010aNodes
import Derived.Test.Qxb6616010aPlain
import Derived.Deep.RegionHeld3
import Derived.Deep.CutBlock
import Derived.Deep.DeepCutAuto
namespace Go.Proofs.Qxb6616010a
open Go.RowKit

set_option maxHeartbeats 400000 in
theorem joins_exact (a b c d : Int) (w : World) (h0 : 0 ≤ b) (h1 : b < 576460752303423488) :
    Calls Try.prog 19 #[.agg #[.int .i64 a, .int .i64 b], .agg #[.int .i64 c, .int .i64 d]] w fun e w' => e = .returned (.bool (joins b c)) ∧ w' = (w.alloc (.cells #[.int .i64 a, .int .i64 b] 37)).alloc (.cells #[.int .i64 c, .int .i64 d] 37) := by
  by_cases h : b = 0
  · subst h
    go_enter Try.func19, Try.ntmps19
    go_wp2
    go_ret
    exact ⟨by simp [joins], rfl⟩
  · go_enter Try.func19, Try.ntmps19
    go_wp2
    go_ret
    exact ⟨by simp [joins], rfl⟩
theorem grownBy_two (w : World) (x y : Obj) : w.grownBy ((w.alloc x).alloc y) none :=
  ⟨rfl, rfl, rfl, by simp; omega, fun k hk _ => (Below.heap_alloc (w.alloc x) y k (by simp; omega)).trans (Below.heap_alloc w x k hk)⟩

/-- the model's two slices, the call's own -/
def RM (w wr : World) (kv ov : Value) (L : List (Int × Int)) : Prop := wr.ownsRow w.heap.size 5 1 kv L.length (L.map kindV) ∧ wr.ownsRow w.heap.size 3 1 ov L.length (L.map offV) ∧ Below w.heap.size w wr

theorem RM.grow {w wr w' : World} {kv ov : Value} {L : List (Int × Int)} (h : RM w wr kv ov L) (hg : wr.grownBy w' none) : RM w w' kv ov L := by
  obtain ⟨h1, h2, h3⟩ := h
  refine ⟨h1.kept hg ?_, h2.kept hg ?_, h3.grown hg h3.size (by simp)⟩
  · cases kv.ownBlock <;> simp
  · cases ov.ownBlock <;> simp
theorem RM.drewN {w wr : World} {kv ov : Value} {L : List (Int × Int)} (h : RM w wr kv ov L) (n : Nat) : RM w (wr.drewN n) kv ov L := ⟨h.1, h.2.1, ⟨h.2.2.os, h.2.2.tape, h.2.2.output, h.2.2.size, h.2.2.block⟩⟩
theorem RM.kinds {w wr w2 : World} {kv ov : Value} {L : List (Int × Int)} (h : RM w wr kv ov L) {X : Obj} (hg : (wr.alloc X).grownBy w2 kv.ownBlock) : w2.ownsRow w.heap.size 3 1 ov L.length (L.map offV) ∧ Below w.heap.size w w2 := by
  obtain ⟨h1, h2, h3⟩ := h
  refine ⟨(h2.alloc X).kept hg ?_, (h3.alloc h3.size X).grown hg (by have := h3.size; simp; omega) (fun k hk => (h1.lt k hk).1)⟩
  rcases ho : ov.ownBlock with _ | a
  · exact .inl rfl
  · right
    rcases hk : kv.ownBlock with _ | c
    · simp
    · obtain ⟨x, hx⟩ := owns_own h2 ho
      obtain ⟨y, hy⟩ := owns_own h1 hk
      have := type_ne hx hy (by decide)
      simpa using this
theorem RM.push {w wr w2 w4 : World} {kv ov kv' ov' : Value} {L news : List (Int × Int)} (h : RM w wr kv ov L) {X Y : Obj} (hg2 : (wr.alloc X).grownBy w2 kv.ownBlock) {m : Nat} (hm : news.length = m) (h2 : w2.ownsRow w.heap.size 5 1 kv' (L.length + m) (L.map kindV ++ news.map kindV))
    (hg4 : (w2.alloc Y).grownBy w4 ov.ownBlock) (h4 : w4.ownsRow w.heap.size 3 1 ov' (L.length + m) (L.map offV ++ news.map offV)) : RM w w4 kv' ov' (L ++ news) := by
  subst hm
  obtain ⟨k2, hb⟩ := h.kinds hg2
  unfold RM
  rw [List.length_append, List.map_append, List.map_append]
  refine ⟨(h2.alloc Y).kept hg4 ?_, h4, (hb.alloc hb.size Y).grown hg4 (by have := hb.size; simp; omega) (fun k hk => (k2.lt k hk).1)⟩
  rcases ho : kv'.ownBlock with _ | a
  · exact .inl rfl
  · right
    rcases hk : ov.ownBlock with _ | c
    · simp
    · obtain ⟨x, hx⟩ := owns_own h2 ho
      obtain ⟨y, hy⟩ := owns_own k2 hk
      have := type_ne hx hy (by decide)
      simpa using this
theorem grownBy_of_drewN {n : Nat} {w w' : World} {r : Option Nat} (h : (w.drewN n).grownBy w' r) : w.grownBy w' r := ⟨h.os, h.tape, h.output, h.size, h.block⟩

set_option maxHeartbeats 1000000 in
theorem runsModel_pos (w : World) (zs : List (Int × Int)) (b o c n : Nat) (hn : n = zs.length) (hsp : SPN w b o zs) (hb : b < w.heap.size) (hz : ∀ p ∈ zs, spOk p) (hlen : n ≤ 100000) :
    Calls Try.prog 16 #[.slice (some ⟨b, o, none⟩) n c] w fun e w' => ∃ kv ov, e = .returned (.tuple #[kv, ov]) ∧ RM w w' kv ov (F zs n).1 := by
  have HN : Hid (n = zs.length) := hn
  clear hn
  obtain ⟨i5, hi5, hz0, hz1, hz2⟩ := info_parts Try.info5
  obtain ⟨i3, hi3, gz0, gz1, gz2⟩ := info_parts Try.info3
  go_enter Try.func16, Try.ntmps16
  go_wp2_with fail
  go_loopw [4, 5, 6] (fun kv ov x wr => ∃ i : Nat, i ≤ n ∧ x = .int .i64 i ∧ RM w wr kv ov (F zs i).1 ∧ (i < n → joins (F zs i).2 (g1 zs i) = false)) (fun _ _ x _ => n - (intOf x).toNat)
  case atStart => exact ⟨0, by omega, rfl, ⟨World.ownsRow_nil _ _ _ _, World.ownsRow_nil _ _ _ _, Below.refl _ _⟩, fun _ => by simp [F, joins]⟩
  case round =>
    obtain ⟨i, hi, rfl, hR, hst⟩ := hrel
    by_cases hlt : i < n
    · have hJ := JR_start zs i (by have := HN.out; omega) (hst hlt)
      clear hst
      go_upto_block 2 with fail
      go_cut [7] (fun x wc => ∃ q : Nat, i ≤ q ∧ q + 1 ≤ n ∧ x = .int .i64 ((q : Int) + 1) ∧ RM w wc u4 u5 (F zs i).1 ∧ JR zs i (q + 1) ∧ (q + 1 < n → joins (g2 zs q) (g1 zs (q + 1)) = false))
      case first =>
        go_wp2_with fail
        go_loopw [7] (fun x wr => ∃ q : Nat, i ≤ q ∧ q + 1 ≤ n ∧ x = .int .i64 ((q : Int) + 1) ∧ RM w wr u4 u5 (F zs i).1 ∧ JR zs i (q + 1)) (fun x _ => n - (intOf x).toNat)
        case atStart => exact ⟨i, by omega, by omega, rfl, hR, hJ⟩
        case round =>
          clear hR hJ
          obtain ⟨q, hiq, hqn, rfl, hR, hJ⟩ := hrel
          by_cases hjl : q + 1 < n
          · have hc1 := hsp q _ (g12 zs q (by have := HN.out; omega))
            have hc2 := hsp (q + 1) _ (g12 zs (q + 1) (by have := HN.out; omega))
            have hBw := hR.2.2
            have c1 : wr.cell? ⟨b, o + q * 2, none⟩ = some (.int .i64 (g1 zs q)) := (hBw.cell (by exact hb)).trans hc1.1
            have c2 : wr.cell? ⟨b, o + q * 2 + 1, none⟩ = some (.int .i64 (g2 zs q)) := (hBw.cell (by exact hb)).trans hc1.2
            have c3 : wr.cell? ⟨b, o + (q + 1) * 2, none⟩ = some (.int .i64 (g1 zs (q + 1))) := (hBw.cell (by exact hb)).trans hc2.1
            have c4 : wr.cell? ⟨b, o + (q + 1) * 2 + 1, none⟩ = some (.int .i64 (g2 zs (q + 1))) := (hBw.cell (by exact hb)).trans hc2.2
            obtain ⟨-, -, z1, z2⟩ := hz _ (List.mem_of_getElem? (g12 zs q (by have := HN.out; omega)))
            simp only at z1 z2
            clear hc1 hc2 hBw
            have hd : decide ((q : Int) + 1 < (n : Int)) = true := by simp; omega
            have hq0 : (0 : Int) ≤ (q : Int) := by omega
            have hq1 : (q : Int) + 1 < (n : Int) := by omega
            have hq2 : (q : Int) < (n : Int) := by omega
            have hq3 : (0 : Int) ≤ (q : Int) + 1 := by omega
            have hw1 : IntKind.i64.wrap (q : Int) = (q : Int) := by rw [IntKind.wrap_i64]; omega
            have hR2 := hR.grow (grownBy_two wr (.cells #[.int .i64 (g1 zs q), .int .i64 (g2 zs q)] 37) (.cells #[.int .i64 (g1 zs (q + 1)), .int .i64 (g2 zs (q + 1))] 37))
            have hstep := JR_step zs i (q + 1) hJ (by have := HN.out; omega)
            rcases hjo : joins (g2 zs q) (g1 zs (q + 1)) with _ | _
            · have HJO : Hid (joins (g2 zs q) (g1 zs (q + 1)) = false) := hjo
              go_wp2_with fail
              go_region_held3 (fun w' => w'.cell? ⟨b, o + q * 2, none⟩ = some (.int .i64 (g1 zs q)) ∧ w'.cell? ⟨b, o + q * 2 + 1, none⟩ = some (.int .i64 (g2 zs q)) ∧ w'.cell? ⟨b, o + (q + 1) * 2, none⟩ = some (.int .i64 (g1 zs (q + 1))) ∧ w'.cell? ⟨b, o + (q + 1) * 2 + 1, none⟩ = some (.int .i64 (g2 zs (q + 1)))) (go_keep) (first | (go_at_call 19; refine (joins_exact _ _ _ _ _ z1 z2).mono ?_; rintro e w2 ⟨rfl, rfl⟩))
              go_wp2
              go_meet
              exact ⟨q, hiq, hqn, rfl, hR2.drewN 1, hJ, fun _ => HJO.out⟩
            · go_wp2_with fail
              go_region_held3 (fun w' => w'.cell? ⟨b, o + q * 2, none⟩ = some (.int .i64 (g1 zs q)) ∧ w'.cell? ⟨b, o + q * 2 + 1, none⟩ = some (.int .i64 (g2 zs q)) ∧ w'.cell? ⟨b, o + (q + 1) * 2, none⟩ = some (.int .i64 (g1 zs (q + 1))) ∧ w'.cell? ⟨b, o + (q + 1) * 2 + 1, none⟩ = some (.int .i64 (g2 zs (q + 1)))) (go_keep) (first | (go_at_call 19; refine (joins_exact _ _ _ _ _ z1 z2).mono ?_; rintro e w2 ⟨rfl, rfl⟩))
              go_wp2
              go_roundw
              case rel => exact ⟨q + 1, by omega, by omega, by go_num, hR2.drewN 1, hstep hjo⟩
              case measure => simp [intOf]; omega
          · have hd : decide ((q : Int) + 1 < (n : Int)) = false := by simp; omega
            go_wp2_with fail
            go_quiet (fail)
            go_wp2
            go_meet
            exact ⟨q, hiq, hqn, rfl, hR.drewN _, hJ, fun h => absurd h (by omega)⟩
      case rest =>
        clear hR hJ
        obtain ⟨q, hiq, hqn, rfl, hR, hJ, hend⟩ := hcut
        obtain ⟨-, -, hF⟩ := hJ
        have HF : Hid (F zs (q + 1) = ((F zs i).1 ++ rn zs i (q + 1), g2 zs (q + 1 - 1))) := hF
        clear hF
        have hnext : q + 1 < n → joins (F zs (q + 1)).2 (g1 zs (q + 1)) = false := fun h => by rw [HF.out]; exact hend h
        have hLl : (F zs i).1.length ≤ 100000 := by have := (F_good zs hz i).2; omega
        obtain ⟨L, hL⟩ : ∃ L, L = (F zs i).1 := ⟨_, rfl⟩
        rw [← hL] at hR hLl
        have HL : Hid (L = (F zs i).1) := hL
        clear hL hend
        have hml1 : L.length + 1 ≤ maxLen := by unfold maxLen; omega
        have hml2 : L.length + 2 ≤ maxLen := by unfold maxLen; omega
        have hBw := hR.2.2
        have hc1 := hsp i _ (g12 zs i (by have := HN.out; omega))
        by_cases hq1 : q = i
        · subst hq1
          go_wp2_with (first
            | (at_builtin; refine wpList_append_lies _ rfl (.tmp 36) (.tmp 37) 22 rfl w.heap.size 5 i5 _ 1 1 Try.underlying22 hi5 hz0 hz1 hz2 rfl (Nat.le_refl 1) u4 L.length _ rfl (hR.1.alloc _) ⟨wc.heap.size, 0, none⟩ 1 1 [.int .u8 7] rfl rfl (cell_one_new _ _ _) (ints_oneCell .u8 [7]) (Nat.le_refl 1) hml1 (by omega) (by have := hBw.size; simp; omega) _ rfl ?_; intro gk ck2 w2 hown2 hgrow2 hat2 hlt2; obtain ⟨k2, hb2⟩ := hR.kinds hgrow2; have d1 := (hb2.cell (p := ⟨b, o + q * 2, none⟩) hb).trans hc1.1)
            | (at_builtin; refine wpList_append_lies _ rfl (.tmp 39) (.tmp 45) 32 rfl w.heap.size 3 i3 _ 1 8 Try.underlying32 hi3 gz0 gz1 gz2 rfl (Nat.le_refl 1) u5 L.length _ rfl (k2.alloc _) ⟨w2.heap.size, 0, none⟩ 1 1 [.int .i64 (g1 zs q)] rfl rfl (cell_one_new _ _ _) (ints_oneCell .i64 [g1 zs q]) (Nat.le_refl 1) hml1 (by omega) (by have := hb2.size; simp; omega) _ rfl ?_; intro go2 co2 w4 hown4 hgrow4 hat4 hlt4; have hfin := hR.push (news := [(7, g1 zs q)]) hgrow2 rfl hown2 hgrow4 hown4))
          go_roundw
          case rel => exact ⟨q + 1, by omega, by go_num, by rw [HF.out, ← HL.out]; simpa [rn] using hfin, hnext⟩
          case measure => simp [intOf]; omega
        · have hne : ((q : Int) + 1 - (i : Int) == 1) = false := by simp; omega
          have hc2 := hsp q _ (g12 zs q (by have := HN.out; omega))
          have hq0 : (0 : Int) ≤ (q : Int) := by omega
          have hq2 : (q : Int) < (n : Int) := by omega
          have hi0 : (0 : Int) ≤ (i : Int) := by omega
          have hi2 : (i : Int) < (n : Int) := by omega
          have hw1 : IntKind.i64.wrap (q : Int) = (q : Int) := by rw [IntKind.wrap_i64]; omega
          go_wp2_with (first
            | (at_builtin; refine wpList_append_lies _ rfl (.tmp 47) (.tmp 48) 22 rfl w.heap.size 5 i5 _ 1 1 Try.underlying22 hi5 hz0 hz1 hz2 rfl (Nat.le_refl 1) u4 L.length _ rfl (hR.1.alloc _) ⟨wc.heap.size, 0, none⟩ 2 2 [.int .u8 8, .int .u8 8] rfl rfl (World.news_of_block (Go.heap_alloc_new wc _)) (ints_oneCell .u8 [8, 8]) (by omega) hml2 (by omega) (by have := hBw.size; simp; omega) _ rfl ?_; intro gk ck2 w2 hown2 hgrow2 hat2 hlt2; obtain ⟨k2, hb2⟩ := hR.kinds hgrow2; have d1 := (hb2.cell (p := ⟨b, o + i * 2, none⟩) hb).trans hc1.1; have d2 := (hb2.cell (p := ⟨b, o + q * 2 + 1, none⟩) hb).trans hc2.2))
          have hO : (w2.alloc (.cells #[.int .i64 (g1 zs i), .int .i64 (g2 zs q)] 3)).drew.ownsRow w.heap.size 3 1 u5 L.length (L.map offV) := (k2.alloc _).drew
          have hNw := World.news_of_block (w := (w2.alloc (.cells #[.int .i64 (g1 zs i), .int .i64 (g2 zs q)] 3)).drew) (Go.heap_alloc_new w2 (.cells #[.int .i64 (g1 zs i), .int .i64 (g2 zs q)] 3 (0, 0)))
          have HNw : Hid (∀ (j : Nat) (u : Value), [Value.int .i64 (g1 zs i), .int .i64 (g2 zs q)][j]? = some u → (w2.alloc (.cells #[.int .i64 (g1 zs i), .int .i64 (g2 zs q)] 3)).drew.cell? ((⟨w2.heap.size, 0, none⟩ : Addr).add j) = some u) := hNw
          have hbs : w.heap.size ≤ (w2.alloc (.cells #[.int .i64 (g1 zs i), .int .i64 (g2 zs q)] 3)).drew.heap.size := by have := hb2.size; simp; omega
          have hby : (L.length + 2) * 8 ≤ 140737488355328 := by omega
          have h12 : ∀ u ∈ [Value.int .i64 (g1 zs i), .int .i64 (g2 zs q)], u.oneCell' = true := ints_oneCell .i64 [g1 zs i, g2 zs q]
          have HK : Hid (∀ w4 : World, (w2.alloc (.cells #[.int .i64 (g1 zs i), .int .i64 (g2 zs q)] 3)).drew.grownBy w4 u5.ownBlock → w4.cell? ⟨b, o + i * 2, none⟩ = some (.int .i64 (g1 zs i)) ∧ w4.cell? ⟨b, o + q * 2 + 1, none⟩ = some (.int .i64 (g2 zs q))) := by
            intro w4 hg
            have hb4 : Below w.heap.size w w4 := (hb2.alloc hb2.size _).drew.grown hg hbs (fun k hk => (k2.lt k hk).1)
            exact ⟨(hb4.cell (p := ⟨b, o + i * 2, none⟩) hb).trans hc1.1, (hb4.cell (p := ⟨b, o + q * 2 + 1, none⟩) hb).trans hc2.2⟩
          have HBS : Hid (w.heap.size ≤ (w2.alloc (.cells #[.int .i64 (g1 zs i), .int .i64 (g2 zs q)] 3)).drew.heap.size) := hbs
          have H12 : Hid (∀ u ∈ [Value.int .i64 (g1 zs i), .int .i64 (g2 zs q)], u.oneCell' = true) := h12
          clear hc1 hc2 hNw hbs h12
          go_region_held3 (fun w' => w'.cell? ⟨b, o + i * 2, none⟩ = some (.int .i64 (g1 zs i)) ∧ w'.cell? ⟨b, o + q * 2 + 1, none⟩ = some (.int .i64 (g2 zs q))) (go_keep)
            (first | (refine step_append_lies _ rfl (.tmp 50) (.tmp 62) 32 rfl w.heap.size 3 i3 (.int .i64 0) 1 8 Try.underlying32 hi3 gz0 gz1 gz2 rfl (Nat.le_refl 1) u5 L.length _ rfl hO ⟨w2.heap.size, 0, none⟩ 2 2 [.int .i64 (g1 zs i), .int .i64 (g2 zs q)] rfl rfl HNw.out H12.out (by omega) hml2 hby HBS.out _ rfl ?_; intro go2 co2 w4 hown4 hgrow4 hat4 hlt4; obtain ⟨s1, s2⟩ := HK.out w4 hgrow4))
          have hfin := hR.push (news := [(8, g1 zs i), (8, g2 zs q)]) hgrow2 rfl hown2 (Y := .cells #[.int .i64 (g1 zs i), .int .i64 (g2 zs q)] 3) ⟨hgrow4.os, hgrow4.tape, hgrow4.output, hgrow4.size, hgrow4.block⟩ hown4
          go_wp2
          go_roundw
          case rel => exact ⟨q + 1, by omega, by go_num, by rw [HF.out, ← HL.out]; simpa [rn, hq1] using hfin, hnext⟩
          case measure => simp [intOf]; omega
    · obtain rfl : i = n := by omega
      go_wp2
      go_ret2
      exact ⟨_, _, rfl, hR⟩
set_option maxHeartbeats 400000 in
theorem runsModel_nil (w : World) (ao : Option Addr) (c : Nat) :
    Calls Try.prog 16 #[.slice ao 0 c] w fun e w' => ∃ kv ov, e = .returned (.tuple #[kv, ov]) ∧ RM w w' kv ov [] := by
  go_enter Try.func16, Try.ntmps16
  go_wp2_with fail
  go_loopw [4, 5, 6] (fun kv ov x wr => x = .int .i64 0 ∧ RM w wr kv ov []) (fun _ _ _ _ => 0)
  case atStart => exact ⟨rfl, World.ownsRow_nil _ _ _ _, World.ownsRow_nil _ _ _ _, Below.refl _ _⟩
  case round =>
    obtain ⟨rfl, hR⟩ := hrel
    go_wp2
    go_ret2
    exact ⟨_, _, rfl, hR⟩

theorem runsModel_any (w : World) (zs : List (Int × Int)) (ao : Option Addr) (b o c n : Nat) (hao : 0 < n → ao = some ⟨b, o, none⟩ ∧ b < w.heap.size) (hn : n = zs.length) (hsp : SPN w b o zs) (hz : ∀ p ∈ zs, spOk p) (hlen : n ≤ 100000) :
    Calls Try.prog 16 #[.slice ao n c] w fun e w' => ∃ kv ov, e = .returned (.tuple #[kv, ov]) ∧ RM w w' kv ov (F zs n).1 := by
  rcases Nat.eq_zero_or_pos n with h | h
  · subst h
    exact runsModel_nil w ao c
  · obtain ⟨rfl, hb⟩ := hao h
    exact runsModel_pos w zs b o c n hn hsp hb hz hlen

end Go.Proofs.Qxb6616010a
