/- The two bounds on total length, laid by program: they return; nothing turns. -/
import Derived.Test.Qxb6616195aReads
namespace Go.Proofs.Qxb6616195a
open Go.RowKit

/-- what a walk over a []Busy needs to know of it -/
structure RD (w : World) (a : Option Addr) (b o n : Nat) (L : Nat → Nat) : Prop where
  at_ : 0 < n → a = some ⟨b, o, none⟩
  cell : ∀ j, j < n → ∃ ka kc, w.cell? ⟨b, o + j * 2, none⟩ = some (.slice ka (L j) kc)

theorem BUSY.rd {w : World} {S : Nat → Prop} {v : Value} {A : List Bz} (h : BUSY w S v A) : ∃ a c b o L, v = .slice a A.length c ∧ RD w a b o A.length L := by
  obtain ⟨a, c, b, o, rfl, ha, hc⟩ := h
  refine ⟨a, c, b, o, fun j => (A[j]?.map fun p => p.1.length).getD 0, rfl, fun h => (ha h).1, fun j hj => ?_⟩
  obtain ⟨kv, d1, ⟨ka, kc, kb, ko, rfl, -, -⟩, -⟩ := hc j _ (List.getElem?_eq_getElem hj)
  exact ⟨ka, kc, by rw [d1]; simp [hj]⟩

def SomeB (e : Ending) : Prop := ∃ r, e = .returned (.bool r)

set_option maxHeartbeats 1000000 in
set_option maxRecDepth 100000 in
theorem zz3 (w : World) (ap : Option Addr) (cp bp op np : Nat) (Lp : Nat → Nat) (hp : RD w ap bp op np Lp) (aq : Option Addr) (cq bq oq nq : Nat) (Lq : Nat → Nat) (hq : RD w aq bq oq nq Lq) (ar : Option Addr) (cr br or nr : Nat) (Lr : Nat → Nat) (hr : RD w ar br or nr Lr) :
    Calls Try.prog 5 #[.slice ap np cp, .slice aq nq cq, .slice ar nr cr] w fun e w' => SomeB e ∧ w' = w := by
  have Hp : Hid (RD w ap bp op np Lp) := hp
  have Hq : Hid (RD w aq bq oq nq Lq) := hq
  have Hr : Hid (RD w ar br or nr Lr) := hr
  clear hp hq hr
  go_enter Try.func5, Try.ntmps5
  by_cases hbp : 1048576 < np
  · go_wp2
    go_ret
    exact ⟨⟨_, rfl⟩, rfl⟩
  have htp : ¬ 1048576 < 0 + (np : Int) := by omega
  go_wp2_with fail
  go_loop [7, 8] (fun y x => ∃ (j : Nat) (z : Int), j ≤ np ∧ x = .int .i64 j ∧ y = .int .i64 z ∧ 0 ≤ z ∧ z ≤ 1048576) (fun _ x => np - (intOf x).toNat)
  case atStart => exact ⟨0, 0 + (np : Int), by omega, rfl, by go_num, by omega, by omega⟩
  case round =>
    obtain ⟨jp, zp, hjp, rfl, rfl, hz0p, hz1p⟩ := hrel
    by_cases hltp : jp < np
    · obtain rfl := Hp.out.at_ (by omega)
      obtain ⟨ka, kc, d1⟩ := Hp.out.cell jp hltp
      by_cases hk : 1048576 < Lp jp
      · go_wp2
        go_ret
        exact ⟨⟨_, rfl⟩, rfl⟩
      by_cases hk2 : 1048576 < zp + (Lp jp : Int)
      · go_wp2
        go_ret
        exact ⟨⟨_, rfl⟩, rfl⟩
      · go_wp2
        go_round
        case rel => exact ⟨jp + 1, zp + (Lp jp : Int), by omega, by go_num, by go_num, by omega, by omega⟩
        case measure => simp [intOf]; omega
    · by_cases hbq : 1048576 < nq
      · go_wp2
        go_ret
        exact ⟨⟨_, rfl⟩, rfl⟩
      by_cases htq : 1048576 < zp + (nq : Int)
      · go_wp2
        go_ret
        exact ⟨⟨_, rfl⟩, rfl⟩
      go_wp2_with fail
      go_loop [7, 9] (fun y x => ∃ (j : Nat) (z : Int), j ≤ nq ∧ x = .int .i64 j ∧ y = .int .i64 z ∧ 0 ≤ z ∧ z ≤ 1048576) (fun _ x => nq - (intOf x).toNat)
      case atStart => exact ⟨0, zp + (nq : Int), by omega, rfl, by go_num, by omega, by omega⟩
      case round =>
        obtain ⟨jq, zq, hjq, rfl, rfl, hz0q, hz1q⟩ := hrel
        by_cases hltq : jq < nq
        · obtain rfl := Hq.out.at_ (by omega)
          obtain ⟨ka, kc, d1⟩ := Hq.out.cell jq hltq
          by_cases hk : 1048576 < Lq jq
          · go_wp2
            go_ret
            exact ⟨⟨_, rfl⟩, rfl⟩
          by_cases hk2 : 1048576 < zq + (Lq jq : Int)
          · go_wp2
            go_ret
            exact ⟨⟨_, rfl⟩, rfl⟩
          · go_wp2
            go_round
            case rel => exact ⟨jq + 1, zq + (Lq jq : Int), by omega, by go_num, by go_num, by omega, by omega⟩
            case measure => simp [intOf]; omega
        · by_cases hbr : 1048576 < nr
          · go_wp2
            go_ret
            exact ⟨⟨_, rfl⟩, rfl⟩
          by_cases htr : 1048576 < zq + (nr : Int)
          · go_wp2
            go_ret
            exact ⟨⟨_, rfl⟩, rfl⟩
          go_wp2_with fail
          go_loop [7, 10] (fun y x => ∃ (j : Nat) (z : Int), j ≤ nr ∧ x = .int .i64 j ∧ y = .int .i64 z ∧ 0 ≤ z ∧ z ≤ 1048576) (fun _ x => nr - (intOf x).toNat)
          case atStart => exact ⟨0, zq + (nr : Int), by omega, rfl, by go_num, by omega, by omega⟩
          case round =>
            obtain ⟨jr, zr, hjr, rfl, rfl, hz0r, hz1r⟩ := hrel
            by_cases hltr : jr < nr
            · obtain rfl := Hr.out.at_ (by omega)
              obtain ⟨ka, kc, d1⟩ := Hr.out.cell jr hltr
              by_cases hk : 1048576 < Lr jr
              · go_wp2
                go_ret
                exact ⟨⟨_, rfl⟩, rfl⟩
              by_cases hk2 : 1048576 < zr + (Lr jr : Int)
              · go_wp2
                go_ret
                exact ⟨⟨_, rfl⟩, rfl⟩
              · go_wp2
                go_round
                case rel => exact ⟨jr + 1, zr + (Lr jr : Int), by omega, by go_num, by go_num, by omega, by omega⟩
                case measure => simp [intOf]; omega
            · go_wp2
              go_ret
              exact ⟨⟨_, rfl⟩, rfl⟩

set_option maxHeartbeats 1000000 in
set_option maxRecDepth 100000 in
theorem zz4 (w : World) (x : Int) (ap : Option Addr) (cp bp op np : Nat) (Lp : Nat → Nat) (hp : RD w ap bp op np Lp) (aq : Option Addr) (cq bq oq nq : Nat) (Lq : Nat → Nat) (hq : RD w aq bq oq nq Lq) :
    Calls Try.prog 23 #[.slice ap np cp, .int .i64 x, .slice aq nq cq] w fun e w' => SomeB e ∧ w' = w := by
  have Hp : Hid (RD w ap bp op np Lp) := hp
  have Hq : Hid (RD w aq bq oq nq Lq) := hq
  clear hp hq
  go_enter Try.func23, Try.ntmps23
  by_cases hbp : 1048576 < np
  · go_wp2
    go_ret
    exact ⟨⟨_, rfl⟩, rfl⟩
  have htp : ¬ 1048576 < 0 + (np : Int) := by omega
  go_wp2_with fail
  go_loop [7, 8] (fun y x => ∃ (j : Nat) (z : Int), j ≤ np ∧ x = .int .i64 j ∧ y = .int .i64 z ∧ 0 ≤ z ∧ z ≤ 1048576) (fun _ x => np - (intOf x).toNat)
  case atStart => exact ⟨0, 0 + (np : Int), by omega, rfl, by go_num, by omega, by omega⟩
  case round =>
    obtain ⟨jp, zp, hjp, rfl, rfl, hz0p, hz1p⟩ := hrel
    by_cases hltp : jp < np
    · obtain rfl := Hp.out.at_ (by omega)
      obtain ⟨ka, kc, d1⟩ := Hp.out.cell jp hltp
      by_cases hk : 1048576 < Lp jp
      · go_wp2
        go_ret
        exact ⟨⟨_, rfl⟩, rfl⟩
      by_cases hk2 : 1048576 < zp + (Lp jp : Int)
      · go_wp2
        go_ret
        exact ⟨⟨_, rfl⟩, rfl⟩
      · go_wp2
        go_round
        case rel => exact ⟨jp + 1, zp + (Lp jp : Int), by omega, by go_num, by go_num, by omega, by omega⟩
        case measure => simp [intOf]; omega
    · by_cases hbq : 1048576 < nq
      · go_wp2
        go_ret
        exact ⟨⟨_, rfl⟩, rfl⟩
      by_cases htq : 1048576 < zp + (nq : Int)
      · go_wp2
        go_ret
        exact ⟨⟨_, rfl⟩, rfl⟩
      go_wp2_with fail
      go_loop [7, 9] (fun y x => ∃ (j : Nat) (z : Int), j ≤ nq ∧ x = .int .i64 j ∧ y = .int .i64 z ∧ 0 ≤ z ∧ z ≤ 1048576) (fun _ x => nq - (intOf x).toNat)
      case atStart => exact ⟨0, zp + (nq : Int), by omega, rfl, by go_num, by omega, by omega⟩
      case round =>
        obtain ⟨jq, zq, hjq, rfl, rfl, hz0q, hz1q⟩ := hrel
        by_cases hltq : jq < nq
        · obtain rfl := Hq.out.at_ (by omega)
          obtain ⟨ka, kc, d1⟩ := Hq.out.cell jq hltq
          by_cases hk : 1048576 < Lq jq
          · go_wp2
            go_ret
            exact ⟨⟨_, rfl⟩, rfl⟩
          by_cases hk2 : 1048576 < zq + (Lq jq : Int)
          · go_wp2
            go_ret
            exact ⟨⟨_, rfl⟩, rfl⟩
          · go_wp2
            go_round
            case rel => exact ⟨jq + 1, zq + (Lq jq : Int), by omega, by go_num, by go_num, by omega, by omega⟩
            case measure => simp [intOf]; omega
        · go_wp2
          go_ret
          exact ⟨⟨_, rfl⟩, rfl⟩
end Go.Proofs.Qxb6616195a
