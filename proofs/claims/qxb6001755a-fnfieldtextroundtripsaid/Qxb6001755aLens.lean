/-
  Texts of fields: the walks of the functions that only look at lengths.
-/
import Derived.Test.Qxb6001755aBase
namespace Go.Proofs.Qxb6001755a
open Go.RowKit

/-- the bytes of the first k strings -/
def lenTo (ss : List ByteArray) : Nat → Nat
  | 0 => 0
  | k + 1 => lenTo ss k + (ss.getD k ByteArray.empty).size

def SumOk (ns vs : List ByteArray) (e : Ending) : Prop := ∃ b : Bool, e = .returned (.bool b) ∧ (b = true → ns.length + lenTo ns ns.length + vs.length + lenTo vs vs.length ≤ 1048576)
theorem SumOk.no (ns vs : List ByteArray) : SumOk ns vs (.returned (.bool false)) := ⟨false, rfl, fun h => by cases h⟩
theorem SumOk.yes {ns vs : List ByteArray} (h : ns.length + lenTo ns ns.length + vs.length + lenTo vs vs.length ≤ 1048576) : SumOk ns vs (.returned (.bool true)) := ⟨true, rfl, fun _ => h⟩

set_option maxRecDepth 100000 in
set_option maxHeartbeats 1000000 in
theorem bytes19_any (a0 a1 : Option Addr) (ns vs : List ByteArray) (c0 c1 : Nat) (w : World) (h0 : StrsAt w a0 ns) (h1 : StrsAt w a1 vs) :
    Calls Try.prog 19 #[.slice a0 ns.length c0, .slice a1 vs.length c1] w fun e w' => SumOk ns vs e ∧ w' = w := by
  have l0 := h0.2.2
  have l1 := h1.2.2
  unfold maxLen at l0 l1
  go_enter Try.func19, Try.ntmps19
  go_wp2
  · go_ret
    exact ⟨SumOk.no ns vs, rfl⟩
  · go_loop [5, 6] (fun t i => ∃ (k u : Nat), k ≤ ns.length ∧ i = .int .i64 k ∧ t = .int .i64 u ∧ u ≤ 1048576 ∧ Hid (u = ns.length + lenTo ns k)) (fun _ i => ns.length - (intOf i).toNat)
    case atStart => exact ⟨0, ns.length, Nat.zero_le _, rfl, rfl, by omega, rfl⟩
    case round =>
      obtain ⟨k, u, hk, rfl, rfl, hu, hU⟩ := hrel
      by_cases hlt : k < ns.length
      · obtain ⟨b, o, s, hb, hidx, hcell, hsz, hs'⟩ := h0.idx hlt c0
        unfold maxLen at hsz
        have hstep : Hid (lenTo ns (k + 1) = lenTo ns k + s.size) := by have := hs'.out; rw [this]; exact rfl
        clear hb hs'
        go_wp2
        · go_ret
          exact ⟨SumOk.no ns vs, rfl⟩
        · go_ret
          exact ⟨SumOk.no ns vs, rfl⟩
        · go_round
          case rel => exact ⟨k + 1, u + s.size, by omega, by go_num, by go_num, by omega, by have := hU.out; have := hstep.out; show _ = _; omega⟩
          case measure => simp [intOf]; omega
      · have hkl : k = ns.length := by omega
        subst hkl
        clear hlt hk
        go_wp2
        · go_ret
          exact ⟨SumOk.no ns vs, rfl⟩
        · go_ret
          exact ⟨SumOk.no ns vs, rfl⟩
        · go_loop [5, 7] (fun t i => ∃ (k v : Nat), k ≤ vs.length ∧ i = .int .i64 k ∧ t = .int .i64 v ∧ v ≤ 1048576 ∧ Hid (v = u + vs.length + lenTo vs k)) (fun _ i => vs.length - (intOf i).toNat)
          case atStart => exact ⟨0, u + vs.length, Nat.zero_le _, rfl, by go_num, by omega, rfl⟩
          case round =>
            obtain ⟨k, v, hk, rfl, rfl, hv, hV⟩ := hrel
            by_cases hlt : k < vs.length
            · obtain ⟨b, o, s, hb, hidx, hcell, hsz, hs'⟩ := h1.idx hlt c1
              unfold maxLen at hsz
              have hstep : Hid (lenTo vs (k + 1) = lenTo vs k + s.size) := by have := hs'.out; rw [this]; exact rfl
              clear hb hs'
              go_wp2
              · go_ret
                exact ⟨SumOk.no ns vs, rfl⟩
              · go_ret
                exact ⟨SumOk.no ns vs, rfl⟩
              · go_round
                case rel => exact ⟨k + 1, v + s.size, by omega, by go_num, by go_num, by omega, by have := hV.out; have := hstep.out; show _ = _; omega⟩
                case measure => simp [intOf]; omega
            · have hkl : k = vs.length := by omega
              subst hkl
              have hfin : ns.length + lenTo ns ns.length + vs.length + lenTo vs vs.length ≤ 1048576 := by have := hU.out; have := hV.out; omega
              go_wp2
              go_ret
              exact ⟨SumOk.yes hfin, rfl⟩

set_option maxRecDepth 100000 in
set_option maxHeartbeats 1000000 in
theorem bytes26_any (a0 a1 : Option Addr) (ns vs : List ByteArray) (c0 c1 : Nat) (w : World) (h0 : StrsAt w a0 ns) (h1 : StrsAt w a1 vs) :
    Calls Try.prog 26 #[.slice a0 ns.length c0, .slice a1 vs.length c1] w fun e w' => SumOk ns vs e ∧ w' = w := by
  have l0 := h0.2.2
  have l1 := h1.2.2
  unfold maxLen at l0 l1
  go_enter Try.func26, Try.ntmps26
  go_wp2
  · go_ret
    exact ⟨SumOk.no ns vs, rfl⟩
  · go_loop [5, 6] (fun t i => ∃ (k u : Nat), k ≤ ns.length ∧ i = .int .i64 k ∧ t = .int .i64 u ∧ u ≤ 1048576 ∧ Hid (u = ns.length + lenTo ns k)) (fun _ i => ns.length - (intOf i).toNat)
    case atStart => exact ⟨0, ns.length, Nat.zero_le _, rfl, rfl, by omega, rfl⟩
    case round =>
      obtain ⟨k, u, hk, rfl, rfl, hu, hU⟩ := hrel
      by_cases hlt : k < ns.length
      · obtain ⟨b, o, s, hb, hidx, hcell, hsz, hs'⟩ := h0.idx hlt c0
        unfold maxLen at hsz
        have hstep : Hid (lenTo ns (k + 1) = lenTo ns k + s.size) := by have := hs'.out; rw [this]; exact rfl
        clear hb hs'
        go_wp2
        · go_ret
          exact ⟨SumOk.no ns vs, rfl⟩
        · go_ret
          exact ⟨SumOk.no ns vs, rfl⟩
        · go_round
          case rel => exact ⟨k + 1, u + s.size, by omega, by go_num, by go_num, by omega, by have := hU.out; have := hstep.out; show _ = _; omega⟩
          case measure => simp [intOf]; omega
      · have hkl : k = ns.length := by omega
        subst hkl
        clear hlt hk
        go_wp2
        · go_ret
          exact ⟨SumOk.no ns vs, rfl⟩
        · go_ret
          exact ⟨SumOk.no ns vs, rfl⟩
        · go_loop [5, 7] (fun t i => ∃ (k v : Nat), k ≤ vs.length ∧ i = .int .i64 k ∧ t = .int .i64 v ∧ v ≤ 1048576 ∧ Hid (v = u + vs.length + lenTo vs k)) (fun _ i => vs.length - (intOf i).toNat)
          case atStart => exact ⟨0, u + vs.length, Nat.zero_le _, rfl, by go_num, by omega, rfl⟩
          case round =>
            obtain ⟨k, v, hk, rfl, rfl, hv, hV⟩ := hrel
            by_cases hlt : k < vs.length
            · obtain ⟨b, o, s, hb, hidx, hcell, hsz, hs'⟩ := h1.idx hlt c1
              unfold maxLen at hsz
              have hstep : Hid (lenTo vs (k + 1) = lenTo vs k + s.size) := by have := hs'.out; rw [this]; exact rfl
              clear hb hs'
              go_wp2
              · go_ret
                exact ⟨SumOk.no ns vs, rfl⟩
              · go_ret
                exact ⟨SumOk.no ns vs, rfl⟩
              · go_round
                case rel => exact ⟨k + 1, v + s.size, by omega, by go_num, by go_num, by omega, by have := hV.out; have := hstep.out; show _ = _; omega⟩
                case measure => simp [intOf]; omega
            · have hkl : k = vs.length := by omega
              subst hkl
              have hfin : ns.length + lenTo ns ns.length + vs.length + lenTo vs vs.length ≤ 1048576 := by have := hU.out; have := hV.out; omega
              go_wp2
              go_ret
              exact ⟨SumOk.yes hfin, rfl⟩

set_option maxRecDepth 100000 in
set_option maxHeartbeats 1000000 in
theorem bytes25_any (a0 a1 : Option Addr) (ns vs : List ByteArray) (c0 c1 : Nat) (k : Int) (w : World) (h0 : StrsAt w a0 ns) (h1 : StrsAt w a1 vs) :
    Calls Try.prog 25 #[.slice a0 ns.length c0, .slice a1 vs.length c1, .int .i64 k] w fun e w' => SumOk ns vs e ∧ w' = w := by
  have l0 := h0.2.2
  have l1 := h1.2.2
  unfold maxLen at l0 l1
  go_enter Try.func25, Try.ntmps25
  go_wp2
  · go_ret
    exact ⟨SumOk.no ns vs, rfl⟩
  · go_loop [7, 8] (fun t i => ∃ (k u : Nat), k ≤ ns.length ∧ i = .int .i64 k ∧ t = .int .i64 u ∧ u ≤ 1048576 ∧ Hid (u = ns.length + lenTo ns k)) (fun _ i => ns.length - (intOf i).toNat)
    case atStart => exact ⟨0, ns.length, Nat.zero_le _, rfl, rfl, by omega, rfl⟩
    case round =>
      obtain ⟨k, u, hk, rfl, rfl, hu, hU⟩ := hrel
      by_cases hlt : k < ns.length
      · obtain ⟨b, o, s, hb, hidx, hcell, hsz, hs'⟩ := h0.idx hlt c0
        unfold maxLen at hsz
        have hstep : Hid (lenTo ns (k + 1) = lenTo ns k + s.size) := by have := hs'.out; rw [this]; exact rfl
        clear hb hs'
        go_wp2
        · go_ret
          exact ⟨SumOk.no ns vs, rfl⟩
        · go_ret
          exact ⟨SumOk.no ns vs, rfl⟩
        · go_round
          case rel => exact ⟨k + 1, u + s.size, by omega, by go_num, by go_num, by omega, by have := hU.out; have := hstep.out; show _ = _; omega⟩
          case measure => simp [intOf]; omega
      · have hkl : k = ns.length := by omega
        subst hkl
        clear hlt hk
        go_wp2
        · go_ret
          exact ⟨SumOk.no ns vs, rfl⟩
        · go_ret
          exact ⟨SumOk.no ns vs, rfl⟩
        · go_loop [7, 9] (fun t i => ∃ (k v : Nat), k ≤ vs.length ∧ i = .int .i64 k ∧ t = .int .i64 v ∧ v ≤ 1048576 ∧ Hid (v = u + vs.length + lenTo vs k)) (fun _ i => vs.length - (intOf i).toNat)
          case atStart => exact ⟨0, u + vs.length, Nat.zero_le _, rfl, by go_num, by omega, rfl⟩
          case round =>
            obtain ⟨k, v, hk, rfl, rfl, hv, hV⟩ := hrel
            by_cases hlt : k < vs.length
            · obtain ⟨b, o, s, hb, hidx, hcell, hsz, hs'⟩ := h1.idx hlt c1
              unfold maxLen at hsz
              have hstep : Hid (lenTo vs (k + 1) = lenTo vs k + s.size) := by have := hs'.out; rw [this]; exact rfl
              clear hb hs'
              go_wp2
              · go_ret
                exact ⟨SumOk.no ns vs, rfl⟩
              · go_ret
                exact ⟨SumOk.no ns vs, rfl⟩
              · go_round
                case rel => exact ⟨k + 1, v + s.size, by omega, by go_num, by go_num, by omega, by have := hV.out; have := hstep.out; show _ = _; omega⟩
                case measure => simp [intOf]; omega
            · have hkl : k = vs.length := by omega
              subst hkl
              have hfin : ns.length + lenTo ns ns.length + vs.length + lenTo vs vs.length ≤ 1048576 := by have := hU.out; have := hV.out; omega
              go_wp2
              go_ret
              exact ⟨SumOk.yes hfin, rfl⟩

def BigOk (ns vs : List ByteArray) (e : Ending) : Prop := ∃ b : Bool, e = .returned (.bool b) ∧ (b = false → ns.length ≤ 131072 ∧ vs.length ≤ 131072)
theorem BigOk.any (ns vs : List ByteArray) (h0 : ns.length ≤ 131072) (h1 : vs.length ≤ 131072) (b : Bool) : BigOk ns vs (.returned (.bool b)) := ⟨b, rfl, fun _ => ⟨h0, h1⟩⟩

set_option maxRecDepth 100000 in
set_option maxHeartbeats 1000000 in
theorem big20_any (a0 a1 : Option Addr) (ns vs : List ByteArray) (c0 c1 : Nat) (w : World) (h0 : StrsAt w a0 ns) (h1 : StrsAt w a1 vs) :
    Calls Try.prog 20 #[.slice a0 ns.length c0, .slice a1 vs.length c1] w fun e w' => BigOk ns vs e ∧ w' = w := by
  by_cases g0 : 131072 < ns.length
  · have hb : decide ((131072 : Int) < (ns.length : Int)) = true := by simp; omega
    go_enter Try.func20, Try.ntmps20
    go_wp2
    go_ret
    exact ⟨⟨_, rfl, fun h => by cases h⟩, rfl⟩
  by_cases g1 : 131072 < vs.length
  · have hb : decide ((131072 : Int) < (vs.length : Int)) = true := by simp; omega
    go_enter Try.func20, Try.ntmps20
    go_wp2
    go_ret
    exact ⟨⟨_, rfl, fun h => by cases h⟩, rfl⟩
  have l0 : ns.length ≤ 131072 := by omega
  have l1 : vs.length ≤ 131072 := by omega
  clear g0 g1
  go_enter Try.func20, Try.ntmps20
  go_wp2
  · go_ret
    exact ⟨BigOk.any ns vs l0 l1 _, rfl⟩
  · go_loop [5, 6] (fun t i => ∃ (k : Nat) (u : Int), k ≤ ns.length ∧ i = .int .i64 k ∧ t = .int .i64 u) (fun _ i => ns.length - (intOf i).toNat)
    case atStart => exact ⟨0, _, Nat.zero_le _, rfl, rfl⟩
    case round =>
      obtain ⟨k, u, hk, rfl, rfl⟩ := hrel
      by_cases hlt : k < ns.length
      · obtain ⟨b, o, s, hb, hidx, hcell, hsz, hs'⟩ := h0.idx hlt c0
        clear hb hs' hsz
        go_wp2
        · go_ret
          exact ⟨BigOk.any ns vs l0 l1 _, rfl⟩
        · go_round
          case rel => exact ⟨k + 1, _, by omega, by go_num, rfl⟩
          case measure => simp [intOf]; omega
      · go_wp2
        go_loop [5, 7] (fun t i => ∃ (k : Nat) (u : Int), k ≤ vs.length ∧ i = .int .i64 k ∧ t = .int .i64 u) (fun _ i => vs.length - (intOf i).toNat)
        case atStart => exact ⟨0, _, Nat.zero_le _, rfl, rfl⟩
        case round =>
          obtain ⟨k, u, hk, rfl, rfl⟩ := hrel
          by_cases hlt : k < vs.length
          · obtain ⟨b, o, s, hb, hidx, hcell, hsz, hs'⟩ := h1.idx hlt c1
            clear hb hs' hsz
            go_wp2
            · go_ret
              exact ⟨BigOk.any ns vs l0 l1 _, rfl⟩
            · go_round
              case rel => exact ⟨k + 1, _, by omega, by go_num, rfl⟩
              case measure => simp [intOf]; omega
          · go_wp2
            go_ret
            exact ⟨BigOk.any ns vs l0 l1 _, rfl⟩

set_option maxRecDepth 100000 in
set_option maxHeartbeats 1000000 in
theorem min2_any (a b : Nat) (w : World) : Calls Try.prog 22 #[.int .i64 a, .int .i64 b] w fun e w' => e = .returned (.int .i64 ((min a b : Nat) : Int)) ∧ w' = w := by
  by_cases h1 : b < a
  · have e : min a b = b := by omega
    rw [e]
    go_enter Try.func22, Try.ntmps22
    go_wp2
    go_ret
    exact ⟨rfl, rfl⟩
  · have e : min a b = a := by omega
    rw [e]
    go_enter Try.func22, Try.ntmps22
    go_wp2
    go_ret
    exact ⟨rfl, rfl⟩

end Go.Proofs.Qxb6001755a
