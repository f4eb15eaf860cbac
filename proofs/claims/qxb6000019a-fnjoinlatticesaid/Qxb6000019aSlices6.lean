/-
  The walks of the two bounds over six slices.
-/
import Derived.Test.Qxb6000019aSlices
namespace Go.Proofs.Qxb6000019a
open Go.RowKit Go.Maps

set_option maxRecDepth 100000 in
set_option maxHeartbeats 2000000 in
theorem bytes17_any (a0 a1 a2 a3 a4 a5 : Option Addr) (s0 s2 s4 : List ByteArray) (c0 n1 c1 c2 n3 c3 c4 n5 c5 : Nat) (w : World) (h0 : StrsAt w a0 s0) (h1 : n1 ≤ maxLen) (h2 : StrsAt w a2 s2) (h3 : n3 ≤ maxLen) (h4 : StrsAt w a4 s4) (h5 : n5 ≤ maxLen) :
    Calls Try.prog 17 #[.slice a0 s0.length c0, .slice a1 n1 c1, .slice a2 s2.length c2, .slice a3 n3 c3, .slice a4 s4.length c4, .slice a5 n5 c5] w fun e w' => IsBool e ∧ w' = w := by
  have l0 := h0.2.2
  have l2 := h2.2.2
  have l4 := h4.2.2
  unfold maxLen at l0 h1 l2 h3 l4 h5
  go_enter Try.func17, Try.ntmps17
  go_wp2
  · go_ret
    exact ⟨isBool _, rfl⟩
  · go_loop [13, 14] (fun t i => ∃ (k : Nat) (u : Int), k ≤ s0.length ∧ i = .int .i64 k ∧ t = .int .i64 u ∧ 0 ≤ u ∧ u ≤ 1048576) (fun _ i => s0.length - (intOf i).toNat)
    case atStart => exact ⟨0, _, Nat.zero_le _, rfl, rfl, by omega, by omega⟩
    case round =>
      obtain ⟨k0, u0, hk0, rfl, rfl, hu00, hu01⟩ := hrel
      by_cases hlt0 : k0 < s0.length
      · obtain ⟨b, o, s, hb, hidx, hcell, hsz, hs'⟩ := h0.idx hlt0 c0
        unfold maxLen at hsz
        clear hs' hb
        go_wp2
        · go_ret
          exact ⟨isBool _, rfl⟩
        · go_ret
          exact ⟨isBool _, rfl⟩
        · go_round
          case rel => exact ⟨k0 + 1, _, by omega, by go_num, rfl, by omega, by omega⟩
          case measure => simp [intOf]; omega
      · go_wp2
        · go_ret
          exact ⟨isBool _, rfl⟩
        · go_ret
          exact ⟨isBool _, rfl⟩
        · go_ret
          exact ⟨isBool _, rfl⟩
        · go_ret
          exact ⟨isBool _, rfl⟩
        · go_loop [13, 15] (fun t i => ∃ (k : Nat) (u : Int), k ≤ s2.length ∧ i = .int .i64 k ∧ t = .int .i64 u ∧ 0 ≤ u ∧ u ≤ 1048576) (fun _ i => s2.length - (intOf i).toNat)
          case atStart => exact ⟨0, _, Nat.zero_le _, rfl, rfl, by omega, by omega⟩
          case round =>
            obtain ⟨k2, u2, hk2, rfl, rfl, hu20, hu21⟩ := hrel
            by_cases hlt2 : k2 < s2.length
            · obtain ⟨b, o, s, hb, hidx, hcell, hsz, hs'⟩ := h2.idx hlt2 c2
              unfold maxLen at hsz
              clear hs' hb
              go_wp2
              · go_ret
                exact ⟨isBool _, rfl⟩
              · go_ret
                exact ⟨isBool _, rfl⟩
              · go_round
                case rel => exact ⟨k2 + 1, _, by omega, by go_num, rfl, by omega, by omega⟩
                case measure => simp [intOf]; omega
            · go_wp2
              · go_ret
                exact ⟨isBool _, rfl⟩
              · go_ret
                exact ⟨isBool _, rfl⟩
              · go_ret
                exact ⟨isBool _, rfl⟩
              · go_ret
                exact ⟨isBool _, rfl⟩
              · go_loop [13, 16] (fun t i => ∃ (k : Nat) (u : Int), k ≤ s4.length ∧ i = .int .i64 k ∧ t = .int .i64 u ∧ 0 ≤ u ∧ u ≤ 1048576) (fun _ i => s4.length - (intOf i).toNat)
                case atStart => exact ⟨0, _, Nat.zero_le _, rfl, rfl, by omega, by omega⟩
                case round =>
                  obtain ⟨k4, u4, hk4, rfl, rfl, hu40, hu41⟩ := hrel
                  by_cases hlt4 : k4 < s4.length
                  · obtain ⟨b, o, s, hb, hidx, hcell, hsz, hs'⟩ := h4.idx hlt4 c4
                    unfold maxLen at hsz
                    clear hs' hb
                    go_wp2
                    · go_ret
                      exact ⟨isBool _, rfl⟩
                    · go_ret
                      exact ⟨isBool _, rfl⟩
                    · go_round
                      case rel => exact ⟨k4 + 1, _, by omega, by go_num, rfl, by omega, by omega⟩
                      case measure => simp [intOf]; omega
                  · go_wp2
                    all_goals
                      go_ret
                      exact ⟨isBool _, rfl⟩

set_option maxRecDepth 100000 in
set_option maxHeartbeats 2000000 in
theorem bytes22_any (a0 a1 a2 a3 a4 a5 : Option Addr) (s0 s2 s4 : List ByteArray) (c0 n1 c1 c2 n3 c3 c4 n5 c5 : Nat) (w : World) (h0 : StrsAt w a0 s0) (h1 : n1 ≤ maxLen) (h2 : StrsAt w a2 s2) (h3 : n3 ≤ maxLen) (h4 : StrsAt w a4 s4) (h5 : n5 ≤ maxLen) :
    Calls Try.prog 22 #[.slice a0 s0.length c0, .slice a1 n1 c1, .slice a2 s2.length c2, .slice a3 n3 c3, .slice a4 s4.length c4, .slice a5 n5 c5] w fun e w' => IsBool e ∧ w' = w := by
  have l0 := h0.2.2
  have l2 := h2.2.2
  have l4 := h4.2.2
  unfold maxLen at l0 h1 l2 h3 l4 h5
  go_enter Try.func22, Try.ntmps22
  go_wp2
  · go_ret
    exact ⟨isBool _, rfl⟩
  · go_loop [13, 14] (fun t i => ∃ (k : Nat) (u : Int), k ≤ s0.length ∧ i = .int .i64 k ∧ t = .int .i64 u ∧ 0 ≤ u ∧ u ≤ 1048576) (fun _ i => s0.length - (intOf i).toNat)
    case atStart => exact ⟨0, _, Nat.zero_le _, rfl, rfl, by omega, by omega⟩
    case round =>
      obtain ⟨k0, u0, hk0, rfl, rfl, hu00, hu01⟩ := hrel
      by_cases hlt0 : k0 < s0.length
      · obtain ⟨b, o, s, hb, hidx, hcell, hsz, hs'⟩ := h0.idx hlt0 c0
        unfold maxLen at hsz
        clear hs' hb
        go_wp2
        · go_ret
          exact ⟨isBool _, rfl⟩
        · go_ret
          exact ⟨isBool _, rfl⟩
        · go_round
          case rel => exact ⟨k0 + 1, _, by omega, by go_num, rfl, by omega, by omega⟩
          case measure => simp [intOf]; omega
      · go_wp2
        · go_ret
          exact ⟨isBool _, rfl⟩
        · go_ret
          exact ⟨isBool _, rfl⟩
        · go_ret
          exact ⟨isBool _, rfl⟩
        · go_ret
          exact ⟨isBool _, rfl⟩
        · go_loop [13, 15] (fun t i => ∃ (k : Nat) (u : Int), k ≤ s2.length ∧ i = .int .i64 k ∧ t = .int .i64 u ∧ 0 ≤ u ∧ u ≤ 1048576) (fun _ i => s2.length - (intOf i).toNat)
          case atStart => exact ⟨0, _, Nat.zero_le _, rfl, rfl, by omega, by omega⟩
          case round =>
            obtain ⟨k2, u2, hk2, rfl, rfl, hu20, hu21⟩ := hrel
            by_cases hlt2 : k2 < s2.length
            · obtain ⟨b, o, s, hb, hidx, hcell, hsz, hs'⟩ := h2.idx hlt2 c2
              unfold maxLen at hsz
              clear hs' hb
              go_wp2
              · go_ret
                exact ⟨isBool _, rfl⟩
              · go_ret
                exact ⟨isBool _, rfl⟩
              · go_round
                case rel => exact ⟨k2 + 1, _, by omega, by go_num, rfl, by omega, by omega⟩
                case measure => simp [intOf]; omega
            · go_wp2
              · go_ret
                exact ⟨isBool _, rfl⟩
              · go_ret
                exact ⟨isBool _, rfl⟩
              · go_ret
                exact ⟨isBool _, rfl⟩
              · go_ret
                exact ⟨isBool _, rfl⟩
              · go_loop [13, 16] (fun t i => ∃ (k : Nat) (u : Int), k ≤ s4.length ∧ i = .int .i64 k ∧ t = .int .i64 u ∧ 0 ≤ u ∧ u ≤ 1048576) (fun _ i => s4.length - (intOf i).toNat)
                case atStart => exact ⟨0, _, Nat.zero_le _, rfl, rfl, by omega, by omega⟩
                case round =>
                  obtain ⟨k4, u4, hk4, rfl, rfl, hu40, hu41⟩ := hrel
                  by_cases hlt4 : k4 < s4.length
                  · obtain ⟨b, o, s, hb, hidx, hcell, hsz, hs'⟩ := h4.idx hlt4 c4
                    unfold maxLen at hsz
                    clear hs' hb
                    go_wp2
                    · go_ret
                      exact ⟨isBool _, rfl⟩
                    · go_ret
                      exact ⟨isBool _, rfl⟩
                    · go_round
                      case rel => exact ⟨k4 + 1, _, by omega, by go_num, rfl, by omega, by omega⟩
                      case measure => simp [intOf]; omega
                  · go_wp2
                    all_goals
                      go_ret
                      exact ⟨isBool _, rfl⟩

end Go.Proofs.Qxb6000019a
