/- addKeys. -/
import Derived.Test.Qxb6616195aLine
namespace Go.Proofs.Qxb6616195a
open Go.RowKit Go.Conc

def addk : List Ky → List Bz → List Ky
  | ks, [] => ks
  | ks, z :: A => addk (if z.1 ∈ ks then ks else ks ++ [z.1]) A
theorem addk_succ (A : List Bz) : ∀ (ks : List Ky) (i : Nat) (z : Bz), A[i]? = some z → addk ks (A.take (i + 1)) = if z.1 ∈ addk ks (A.take i) then addk ks (A.take i) else addk ks (A.take i) ++ [z.1] := by
  induction A with
  | nil => intro ks i z h; simp at h
  | cons y A ih =>
    intro ks i z h
    cases i with
    | zero => simp at h; subst h; simp [addk]
    | succ i => simp at h; simp only [List.take_succ_cons, addk]; exact ih _ i z h
theorem addk_len (A : List Bz) : ∀ ks : List Ky, (addk ks A).length ≤ ks.length + A.length := by
  induction A with
  | nil => intro ks; simp [addk]
  | cons y A ih =>
    intro ks
    refine Nat.le_trans (ih _) ?_
    split <;> simp <;> omega
theorem addk_nodup (A : List Bz) : ∀ ks : List Ky, ks.Nodup → (addk ks A).Nodup := by
  induction A with
  | nil => intro ks h; exact h
  | cons y A ih =>
    intro ks h
    refine ih _ ?_
    split
    · exact h
    · rename_i hn
      rw [List.nodup_append]
      refine ⟨h, by simp, ?_⟩
      intro a ha b hb
      simp at hb
      rintro rfl
      exact hn (hb ▸ ha)
theorem addk_mem (A : List Bz) : ∀ (ks : List Ky) (k : Ky), k ∈ addk ks A ↔ k ∈ ks ∨ k ∈ kys A := by
  induction A with
  | nil => intro ks k; simp [addk, kys]
  | cons y A ih =>
    intro ks k
    rw [addk, ih]
    simp only [kys, List.map_cons, List.mem_cons]
    split
    · rename_i h
      constructor
      · rintro (h1 | h1)
        · exact .inl h1
        · exact .inr (.inr h1)
      · rintro (h1 | h1 | h1)
        · exact .inl h1
        · exact .inl (h1 ▸ h)
        · exact .inr h1
    · simp only [List.mem_append, List.mem_singleton]
      constructor
      · rintro ((h1 | h1) | h1)
        · exact .inl h1
        · exact .inr (.inl h1)
        · exact .inr (.inr h1)
      · rintro (h1 | h1 | h1)
        · exact .inl (.inl h1)
        · exact .inl (.inr h1)
        · exact .inr h1

/-- A []string of the caller's own. -/
def KR (w0 wr : World) (v : Value) (ks : List Ky) : Prop := wr.ownsRow w0.heap.size 9 1 v ks.length (ks.map sv) ∧ Below w0.heap.size w0 wr
theorem KR.lit {w0 wr : World} {v : Value} {ks : List Ky} (h : KR w0 wr v ks) : ∃ a c, v = .slice a ks.length c := by
  rcases h.1.2 with ⟨e, h0⟩ | ⟨g, cap, cur, e, _⟩
  · exact ⟨none, 0, by rw [e, h0]⟩
  · exact ⟨_, _, e⟩
theorem KR.below {w0 wr wr' : World} {v : Value} {ks : List Ky} (h : KR w0 wr v ks) (k : Below wr.heap.size wr wr') : KR w0 wr' v ks := by
  refine ⟨owns_heap h.1 fun g hg => ?_, h.2.trans (k.mono h.2.size)⟩
  rcases h.1.2 with ⟨e, _⟩ | ⟨g', cap, cur, e, _, hgg, _⟩
  · rw [e] at hg; cases hg
  · rw [e] at hg; cases hg; exact k.block _ (Array.getElem?_eq_some_iff.1 hgg).1

set_option maxHeartbeats 1000000 in
theorem addKeys_walk (w0 w : World) {S : Nat → Prop} (A : List Bz) (a : Option Addr) (c b o n : Nat) (hn : n = A.length) (ha : 0 < n → a = some ⟨b, o, none⟩ ∧ b < w0.heap.size) (hc : BCELLS w0 S b o A) (ks : List Ky) (va : Option Addr) (vc m0 : Nat) (hm0 : m0 = ks.length) (hrow : KR w0 w (.slice va m0 vc) ks) (hlen : ks.length + n ≤ 100000) :
    Calls Try.prog 19 #[.slice va m0 vc, .slice a n c] w fun e w' => ∃ v', e = .returned v' ∧ KR w0 w' v' (addk ks A) := by
  obtain ⟨i9, hi9, hz0, hz1, hz2⟩ := info_parts Try.info9
  have HN : Hid (n = A.length) := hn
  have HA : Hid (0 < n → a = some ⟨b, o, none⟩ ∧ b < w0.heap.size) := ha
  have HC : Hid (BCELLS w0 S b o A) := hc
  have HR : Hid (KR w0 w (.slice va m0 vc) ks) := hrow
  have HM0 : Hid (m0 = ks.length) := hm0
  have HLEN : Hid (ks.length + n ≤ 100000) := hlen
  have hnl : n ≤ 100000 := by omega
  clear hn ha hc hrow hm0 hlen
  go_enter Try.func19, Try.ntmps19
  go_wp2_with fail
  go_loopw [0, 13] (fun y x wr => ∃ i : Nat, i ≤ n ∧ x = .int .i64 i ∧ KR w0 wr y (addk ks (A.take i))) (fun _ x _ => n - (intOf x).toNat)
  case atStart => exact ⟨0, by omega, rfl, by simpa [addk] using HR.out⟩
  case round =>
    obtain ⟨i, hi, rfl, hK⟩ := hrel
    obtain ⟨ya, yc, hye⟩ := hK.lit
    obtain ⟨ks', hks'⟩ : ∃ ks', ks' = addk ks (A.take i) := ⟨_, rfl⟩
    rw [← hks'] at hK hye
    obtain ⟨m, hm⟩ : ∃ m, m = ks'.length := ⟨_, rfl⟩
    rw [← hm] at hye
    subst hye
    have hm1 : m ≤ 100000 := by
      rw [hm, hks']
      have h1 := addk_len (A.take i) ks
      have h2 := HLEN.out
      simp only [List.length_take] at h1
      omega
    have HK : Hid (KR w0 wr (.slice ya m yc) ks') := hK
    have HM : Hid (m = ks'.length) := hm
    have HKS : Hid (ks' = addk ks (A.take i)) := hks'
    clear hK hm hks'
    by_cases hlt : i < n
    · obtain ⟨rfl, hb⟩ := HA.out (by omega)
      obtain ⟨k, z, ka, kc, kb, ko, kl, hp, hkl, hka, hcl, d1, d2⟩ := HC.out.at HN.out hlt hb HK.out.2
      have hbA : Below wr.heap.size wr (wr.alloc (.cells #[.slice ka kl kc, .int .i64 z] 49)) := (Below.refl _ _).alloc (Nat.le_refl _) _
      have hconv : (convert 47 9 (.slice ka kl kc)).run Try.prog (wr.alloc (.cells #[.slice ka kl kc, .int .i64 z] 49)) = .ok (.string ⟨k.toArray⟩) (wr.alloc (.cells #[.slice ka kl kc, .int .i64 z] 49)) := by
        have hK : KEY w0 S (.slice ka kl kc) k := ⟨ka, kc, kb, ko, by rw [hkl], by rw [← hkl]; exact hka, hcl⟩
        exact (hK.below (HK.out.2.trans (hbA.mono HK.out.2.size))).conv
      have HK2 : Hid (KR w0 (wr.alloc (.cells #[.slice ka kl kc, .int .i64 z] 49)) (.slice ya m yc) ks') := HK.out.below hbA
      have HNEXT : Hid (addk ks (A.take (i + 1)) = if k ∈ ks' then ks' else ks' ++ [k]) := by
        show _ = _
        rw [addk_succ A ks i (k, z) hp, ← HKS.out]
      obtain ⟨kb2, hkb2⟩ : ∃ kb2 : ByteArray, kb2 = ⟨k.toArray⟩ := ⟨_, rfl⟩
      rw [← hkb2] at hconv
      have HKB : Hid (kb2 = ⟨k.toArray⟩) := hkb2
      clear hp hkl hka hcl hbA hkb2
      go_wp2_with fail
      go_loop [8, 22] (fun y x => y = .bool false ∧ ∃ j : Nat, j ≤ m ∧ x = .int .i64 j ∧ k ∉ ks'.take j) (fun _ x => m - (intOf x).toNat)
      case atStart => exact ⟨rfl, 0, by omega, rfl, by simp⟩
      case round =>
        obtain ⟨rfl, j, hj, rfl, hall⟩ := hrel
        by_cases hlt2 : j < m
        · obtain ⟨g, cap, hve, -, -⟩ := HK2.out.1.form (by have := HM.out; omega)
          simp only [Value.slice.injEq] at hve
          obtain ⟨rfl, -, rfl⟩ := hve
          obtain ⟨y, hy⟩ : ∃ y, ks'[j]? = some y := ⟨_, List.getElem?_eq_getElem (by have := HM.out; omega)⟩
          have hcell : (wr.alloc (.cells #[.slice ka kl kc, .int .i64 z] 49)).cell? ⟨g, j, none⟩ = some (.string ⟨y.toArray⟩) := by
            have h1 := HK2.out.1
            rw [← HM.out] at h1
            rw [h1.cellAt j (by omega), List.getElem?_map, hy]; rfl
          obtain ⟨yb, hyb⟩ : ∃ yb : ByteArray, yb = ⟨y.toArray⟩ := ⟨_, rfl⟩
          rw [← hyb] at hcell
          have hq : (yb.toList == kb2.toList) = decide (y = k) := by rw [hyb, HKB.out]; exact beq_str y k
          by_cases hz : y = k
          · have HMEM : Hid (k ∈ ks') := by rw [← hz]; exact List.mem_of_getElem? hy
            rw [decide_eq_true hz] at hq
            clear hy hall hyb hz
            go_wp2
            go_roundw
            case rel =>
              refine ⟨i + 1, by omega, by go_num, ?_⟩
              rw [HNEXT.out, if_pos HMEM.out]
              exact HK2.out
            case measure => simp [intOf]; omega
          · have HS : Hid (k ∉ ks'.take (j + 1)) := by
              obtain ⟨hjl, hje⟩ := List.getElem?_eq_some_iff.1 hy
              rw [List.take_succ_eq_append_getElem hjl, List.mem_append, hje]
              intro h
              rcases h with h | h
              · exact hall h
              · simp at h; exact hz h.symm
            rw [decide_eq_false hz] at hq
            clear hy hall hyb hz
            go_wp2
            go_round
            case rel => exact ⟨rfl, j + 1, by omega, by go_num, HS.out⟩
            case measure => simp [intOf]; omega
        · have HNOT : Hid (k ∉ ks') := by
            rw [List.take_of_length_le (by have := HM.out; omega)] at hall
            exact hall
          clear hall
          obtain ⟨wa, hwa⟩ : ∃ wa, wa = (wr.alloc (.cells #[.slice ka kl kc, .int .i64 z] 49)).alloc (.cells #[.string kb2] 9) := ⟨_, rfl⟩
          have hKa : KR w0 wa (.slice ya m yc) ks' := by rw [hwa]; exact HK2.out.below ((Below.refl _ _).alloc (Nat.le_refl _) _)
          have hNa : ∀ t u, ([.string kb2] : List Value)[t]? = some u → wa.cell? ((⟨wr.heap.size + 1, 0, none⟩ : Addr).add t) = some u := by
            refine World.news_of_block (cs := #[.string kb2]) (t := 9) (fr := (0, 0)) ?_
            rw [hwa]
            have := heap_alloc_new (wr.alloc (.cells #[.slice ka kl kc, .int .i64 z] 49)) (.cells #[.string kb2] 9 (0, 0))
            simpa using this
          have hsa : w0.heap.size ≤ wa.heap.size := hKa.2.size
          have hOa := hKa.1
          rw [← HM.out] at hOa
          have HFIN : Hid (∀ g cap w3, w3.ownsRow w0.heap.size 9 1 (.slice (some ⟨g, 0, none⟩) (m + 1) cap) (m + 1) (ks'.map sv ++ [.string kb2]) → wa.grownBy w3 (Value.slice ya m yc).ownBlock → KR w0 w3 (.slice (some ⟨g, 0, none⟩) (m + 1) cap) (addk ks (A.take (i + 1)))) := by
            intro g cap w3 hr hg
            rw [HNEXT.out, if_neg HNOT.out]
            refine ⟨?_, hKa.2.grown hg hsa ?_⟩
            · have e1 : (ks' ++ [k]).length = m + 1 := by simp [HM.out]
              have e2 : (ks' ++ [k]).map sv = ks'.map sv ++ [.string kb2] := by simp [sv, HKB.out]
              rw [e1, e2]; exact hr
            · intro g' hg'
              rcases hKa.1.2 with ⟨e, _⟩ | ⟨g2, cap2, cur2, e, hb2, _⟩
              · rw [e] at hg'; cases hg'
              · rw [e] at hg'
                have : g2 = g' := by simpa [Value.ownBlock] using hg'
                omega
          have hm2 : m + 1 ≤ maxLen := by unfold maxLen; omega
          have hm3 : (m + 1) * 16 ≤ 140737488355328 := by omega
          have HNa := show Hid _ from hNa
          have HOa := show Hid _ from hOa
          have HSa := show Hid _ from hsa
          clear hKa hNa hOa hsa
          subst wa
          go_wp2_with (first
            | (at_builtin; refine wpList_append_lies _ rfl (.tmp 32) (.tmp 34) 36 rfl w0.heap.size 9 i9 _ 1 16 Try.underlying36 hi9 hz0 hz1 hz2 rfl (Nat.le_refl 1) _ m _ rfl HOa.out ⟨wr.heap.size + 1, 0, none⟩ 1 1 [.string kb2] rfl rfl HNa.out (by simp [Value.oneCell']) (Nat.le_refl 1) hm2 hm3 HSa.out _ rfl ?_; intro g2 cap2 w2 hown2 hgrow2 hat2 hlt2))
          have hfin := HFIN.out g2 cap2 w2 hown2 hgrow2
          clear hown2 hgrow2 hat2 hlt2
          go_roundw
          case rel => exact ⟨i + 1, by omega, by go_num, hfin⟩
          case measure => simp [intOf]; omega
    · have HFIN : Hid (KR w0 wr (.slice ya m yc) (addk ks A)) := by
        have h1 := HKS.out
        rw [List.take_of_length_le (by have := HN.out; omega)] at h1
        have := HK.out
        rw [h1] at this
        exact this
      go_wp2
      go_ret
      exact ⟨_, rfl, HFIN.out⟩
theorem addKeys_any (w0 w : World) {S : Nat → Prop} (A : List Bz) (v : Value) (h : BUSY w0 S v A) (ks : List Ky) (kv : Value) (hrow : KR w0 w kv ks) (hlen : ks.length + A.length ≤ 100000) :
    Calls Try.prog 19 #[kv, v] w fun e w' => ∃ v', e = .returned v' ∧ KR w0 w' v' (addk ks A) := by
  obtain ⟨a, c, b, o, rfl, ha, hc⟩ := h
  obtain ⟨va, vc, rfl⟩ := hrow.lit
  exact addKeys_walk w0 w A a c b o _ rfl (fun h => ⟨(ha h).1, (ha h).2.2⟩) hc ks va vc _ rfl hrow hlen
end Go.Proofs.Qxb6616195a
