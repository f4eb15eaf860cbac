/-
  Slices of strings and of uint64, nil or not, in one word each; the walks of the functions that only look at their lengths.
-/
import Derived.Test.Qxb6000019aVer
import Derived.Deep.QuietTactic
import Derived.BigQuiet
import Derived.WalkLawsBesides
namespace Go.Proofs.Qxb6000019a
open Go.RowKit Go.Maps

def StrsAt (w : World) (a : Option Addr) (ss : List ByteArray) : Prop :=
  (0 < ss.length → ∃ b o, a = some ⟨b, o, none⟩ ∧ b < w.heap.size ∧ ∀ j, j < ss.length → w.cell? ⟨b, o + j, none⟩ = some (.string (ss.getD j ByteArray.empty))) ∧ (∀ s ∈ ss, s.size ≤ maxLen) ∧ ss.length ≤ maxLen
def IntsAt (w : World) (a : Option Addr) (zs : List Int) : Prop :=
  (0 < zs.length → ∃ b o, a = some ⟨b, o, none⟩ ∧ b < w.heap.size ∧ ∀ j, j < zs.length → w.cell? ⟨b, o + j, none⟩ = some (.int .u64 (zs.getD j 0))) ∧ (∀ c ∈ zs, (Lit.int .u64 c).wf = true) ∧ zs.length ≤ maxLen

theorem idx22 (a : Addr) (len cap k : Nat) (hk : k < len) (W : World) : (Instr.indexAt 22 (.slice (some a) len cap) (.int .i64 (k : Int))).run Try.prog W = .ok (.pointer (some (a.add k))) W := by
  have hs : ∀ W, (sizeOf (Try.prog.elem 22)).run Try.prog W = .ok 1 W := fun W => by kernel_rfl
  rw [run_indexAt_slice W 22 a len cap .i64 k (by kernel_rfl), if_pos (by omega), hs]
  simp [Result.andThen]
theorem idx23 (a : Addr) (len cap k : Nat) (hk : k < len) (W : World) : (Instr.indexAt 23 (.slice (some a) len cap) (.int .i64 (k : Int))).run Try.prog W = .ok (.pointer (some (a.add k))) W := by
  have hs : ∀ W, (sizeOf (Try.prog.elem 23)).run Try.prog W = .ok 1 W := fun W => by kernel_rfl
  rw [run_indexAt_slice W 23 a len cap .i64 k (by kernel_rfl), if_pos (by omega), hs]
  simp [Result.andThen]

theorem getD_mem {α : Type} {l : List α} {k : Nat} (hk : k < l.length) (d : α) : l.getD k d ∈ l := by
  rw [List.getD, List.getElem?_eq_getElem hk]; exact List.getElem_mem hk

theorem StrsAt.idx {w : World} {a : Option Addr} {ss : List ByteArray} (h : StrsAt w a ss) {k : Nat} (hk : k < ss.length) (cap : Nat) :
    ∃ b o s, b < w.heap.size ∧ (∀ W : World, (Instr.indexAt 22 (.slice a ss.length cap) (.int .i64 (k : Int))).run Try.prog W = .ok (.pointer (some ⟨b, o, none⟩)) W) ∧ w.cell? ⟨b, o, none⟩ = some (.string s) ∧ s.size ≤ maxLen ∧ Hid (s = ss.getD k ByteArray.empty) := by
  obtain ⟨b, o, rfl, hb, hc⟩ := h.1 (by omega)
  exact ⟨b, o + k, _, hb, fun W => by rw [idx22 _ _ _ _ hk]; simp [Addr.add_lit], hc k hk, h.2.1 _ (getD_mem hk _), rfl⟩
theorem IntsAt.idx {w : World} {a : Option Addr} {zs : List Int} (h : IntsAt w a zs) {k : Nat} (hk : k < zs.length) (cap : Nat) :
    ∃ b o c, b < w.heap.size ∧ (∀ W : World, (Instr.indexAt 23 (.slice a zs.length cap) (.int .i64 (k : Int))).run Try.prog W = .ok (.pointer (some ⟨b, o, none⟩)) W) ∧ w.cell? ⟨b, o, none⟩ = some (.int .u64 c) ∧ (Lit.int .u64 c).wf = true ∧ Hid (c = zs.getD k 0) := by
  obtain ⟨b, o, rfl, hb, hc⟩ := h.1 (by omega)
  exact ⟨b, o + k, _, hb, fun W => by rw [idx23 _ _ _ _ hk]; simp [Addr.add_lit], hc k hk, h.2.1 _ (getD_mem hk _), rfl⟩

theorem StrsAt.below {w w' : World} {a : Option Addr} {ss : List ByteArray} (h : StrsAt w a ss) (hb : Below w.heap.size w w') : StrsAt w' a ss :=
  ⟨fun h0 => by
    obtain ⟨b, o, ha, hlt, hc⟩ := h.1 h0
    exact ⟨b, o, ha, Nat.lt_of_lt_of_le hlt hb.size, fun j hj => by rw [hb.cell (by exact hlt)]; exact hc j hj⟩, h.2⟩
theorem IntsAt.below {w w' : World} {a : Option Addr} {zs : List Int} (h : IntsAt w a zs) (hb : Below w.heap.size w w') : IntsAt w' a zs :=
  ⟨fun h0 => by
    obtain ⟨b, o, ha, hlt, hc⟩ := h.1 h0
    exact ⟨b, o, ha, Nat.lt_of_lt_of_le hlt hb.size, fun j hj => by rw [hb.cell (by exact hlt)]; exact hc j hj⟩, h.2⟩

set_option maxRecDepth 100000 in
set_option maxHeartbeats 1000000 in
theorem pairs_any (a0 a1 : Option Addr) (n0 c0 n1 c1 : Nat) (w : World) :
    Calls Try.prog 15 #[.slice a0 n0 c0, .slice a1 n1 c1] w fun e w' => e = .returned (.int .i64 ((min n0 n1 : Nat) : Int)) ∧ w' = w := by
  by_cases h : n1 < n0
  · have e : min n0 n1 = n1 := by omega
    rw [e]
    go_enter Try.func15, Try.ntmps15
    go_wp2
    go_ret
    exact ⟨rfl, rfl⟩
  · have e : min n0 n1 = n0 := by omega
    rw [e]
    go_enter Try.func15, Try.ntmps15
    go_wp2
    go_ret
    exact ⟨rfl, rfl⟩

set_option maxRecDepth 100000 in
set_option maxHeartbeats 1000000 in
theorem zbytes_any (a0 a1 : Option Addr) (ss : List ByteArray) (c0 n1 c1 : Nat) (w : World) (hs : StrsAt w a0 ss) (h1 : n1 ≤ maxLen) :
    Calls Try.prog 10 #[.slice a0 ss.length c0, .slice a1 n1 c1] w fun e w' => (∃ t : Int, e = .returned (.int .i64 t) ∧ 0 ≤ t ∧ t ≤ 4194304) ∧ w' = w := by
  have h0 := hs.2.2
  unfold maxLen at h0 h1
  by_cases hc : 65536 < ss.length
  · have hb : decide ((65536 : Int) < (ss.length : Int)) = true := by simp; omega
    go_enter Try.func10, Try.ntmps10
    go_wp2
    go_ret
    exact ⟨⟨_, rfl, by omega, by omega⟩, rfl⟩
  · by_cases hd : 65536 < n1
    · have hb : decide ((65536 : Int) < (n1 : Int)) = true := by simp; omega
      go_enter Try.func10, Try.ntmps10
      go_wp2
      go_ret
      exact ⟨⟨_, rfl, by omega, by omega⟩, rfl⟩
    · go_enter Try.func10, Try.ntmps10
      go_wp2
      go_loop [5, 6] (fun t i => ∃ (k : Nat) (u : Int), k ≤ ss.length ∧ i = .int .i64 k ∧ t = .int .i64 u ∧ 0 ≤ u ∧ u ≤ 2097152) (fun _ i => ss.length - (intOf i).toNat)
      case atStart => exact ⟨0, _, Nat.zero_le _, rfl, rfl, by omega, by omega⟩
      case round =>
        obtain ⟨k, u, hk, rfl, rfl, hu0, hu1⟩ := hrel
        by_cases hlt : k < ss.length
        · obtain ⟨b, o, s, hb, hidx, hcell, hsz, hs'⟩ := hs.idx hlt c0
          unfold maxLen at hsz
          clear hs hs' hb
          by_cases hbig : 1048576 < s.size
          · go_wp2
            go_ret
            exact ⟨⟨_, rfl, by omega, by omega⟩, rfl⟩
          · by_cases hsum : 1048576 < u + s.size
            · go_wp2
              go_ret
              exact ⟨⟨_, rfl, by omega, by omega⟩, rfl⟩
            · go_wp2
              go_round
              case rel => exact ⟨k + 1, _, by omega, by go_num, rfl, by omega, by omega⟩
              case measure => simp [intOf]; omega
        · go_wp2
          go_ret
          exact ⟨⟨_, rfl, by omega, by omega⟩, rfl⟩

def IsBool (e : Ending) : Prop := ∃ b : Bool, e = .returned (.bool b)
theorem isBool (b : Bool) : IsBool (.returned (.bool b)) := ⟨b, rfl⟩

set_option maxRecDepth 100000 in
set_option maxHeartbeats 2000000 in
theorem bytes9_any (a0 a1 a2 a3 : Option Addr) (s0 s2 : List ByteArray) (c0 n1 c1 c2 n3 c3 : Nat) (w : World) (h0 : StrsAt w a0 s0) (h1 : n1 ≤ maxLen) (h2 : StrsAt w a2 s2) (h3 : n3 ≤ maxLen) :
    Calls Try.prog 9 #[.slice a0 s0.length c0, .slice a1 n1 c1, .slice a2 s2.length c2, .slice a3 n3 c3] w fun e w' => IsBool e ∧ w' = w := by
  have l0 := h0.2.2
  have l2 := h2.2.2
  unfold maxLen at l0 h1 l2 h3
  go_enter Try.func9, Try.ntmps9
  go_wp2
  · go_ret
    exact ⟨isBool _, rfl⟩
  · go_loop [9, 10] (fun t i => ∃ (k : Nat) (u : Int), k ≤ s0.length ∧ i = .int .i64 k ∧ t = .int .i64 u ∧ 0 ≤ u ∧ u ≤ 1048576) (fun _ i => s0.length - (intOf i).toNat)
    case atStart => exact ⟨0, _, Nat.zero_le _, rfl, rfl, by omega, by omega⟩
    case round =>
      obtain ⟨k0, u0, hk0, rfl, rfl, hu00, hu01⟩ := hrel
      by_cases hlt0 : k0 < s0.length
      · obtain ⟨b, o, s, hb, hidx, hcell, hsz, hs'⟩ := h0.idx hlt0 c0
        unfold maxLen at hsz
        clear hs' hb
        go_wp2
        · go_ret
          exact ⟨isBool _, rfl⟩
        · go_ret
          exact ⟨isBool _, rfl⟩
        · go_round
          case rel => exact ⟨k0 + 1, _, by omega, by go_num, rfl, by omega, by omega⟩
          case measure => simp [intOf]; omega
      · go_wp2
        · go_ret
          exact ⟨isBool _, rfl⟩
        · go_ret
          exact ⟨isBool _, rfl⟩
        · go_ret
          exact ⟨isBool _, rfl⟩
        · go_ret
          exact ⟨isBool _, rfl⟩
        · go_loop [9, 11] (fun t i => ∃ (k : Nat) (u : Int), k ≤ s2.length ∧ i = .int .i64 k ∧ t = .int .i64 u ∧ 0 ≤ u ∧ u ≤ 1048576) (fun _ i => s2.length - (intOf i).toNat)
          case atStart => exact ⟨0, _, Nat.zero_le _, rfl, rfl, by omega, by omega⟩
          case round =>
            obtain ⟨k2, u2, hk2, rfl, rfl, hu20, hu21⟩ := hrel
            by_cases hlt2 : k2 < s2.length
            · obtain ⟨b, o, s, hb, hidx, hcell, hsz, hs'⟩ := h2.idx hlt2 c2
              unfold maxLen at hsz
              clear hs' hb
              go_wp2
              · go_ret
                exact ⟨isBool _, rfl⟩
              · go_ret
                exact ⟨isBool _, rfl⟩
              · go_round
                case rel => exact ⟨k2 + 1, _, by omega, by go_num, rfl, by omega, by omega⟩
                case measure => simp [intOf]; omega
            · go_wp2
              all_goals
                go_ret
                exact ⟨isBool _, rfl⟩

set_option maxRecDepth 100000 in
set_option maxHeartbeats 2000000 in
theorem bytes19_any (a0 a1 a2 a3 : Option Addr) (s0 s2 : List ByteArray) (c0 n1 c1 c2 n3 c3 : Nat) (w : World) (h0 : StrsAt w a0 s0) (h1 : n1 ≤ maxLen) (h2 : StrsAt w a2 s2) (h3 : n3 ≤ maxLen) :
    Calls Try.prog 19 #[.slice a0 s0.length c0, .slice a1 n1 c1, .slice a2 s2.length c2, .slice a3 n3 c3] w fun e w' => IsBool e ∧ w' = w := by
  have l0 := h0.2.2
  have l2 := h2.2.2
  unfold maxLen at l0 h1 l2 h3
  go_enter Try.func19, Try.ntmps19
  go_wp2
  · go_ret
    exact ⟨isBool _, rfl⟩
  · go_loop [9, 10] (fun t i => ∃ (k : Nat) (u : Int), k ≤ s0.length ∧ i = .int .i64 k ∧ t = .int .i64 u ∧ 0 ≤ u ∧ u ≤ 1048576) (fun _ i => s0.length - (intOf i).toNat)
    case atStart => exact ⟨0, _, Nat.zero_le _, rfl, rfl, by omega, by omega⟩
    case round =>
      obtain ⟨k0, u0, hk0, rfl, rfl, hu00, hu01⟩ := hrel
      by_cases hlt0 : k0 < s0.length
      · obtain ⟨b, o, s, hb, hidx, hcell, hsz, hs'⟩ := h0.idx hlt0 c0
        unfold maxLen at hsz
        clear hs' hb
        go_wp2
        · go_ret
          exact ⟨isBool _, rfl⟩
        · go_ret
          exact ⟨isBool _, rfl⟩
        · go_round
          case rel => exact ⟨k0 + 1, _, by omega, by go_num, rfl, by omega, by omega⟩
          case measure => simp [intOf]; omega
      · go_wp2
        · go_ret
          exact ⟨isBool _, rfl⟩
        · go_ret
          exact ⟨isBool _, rfl⟩
        · go_ret
          exact ⟨isBool _, rfl⟩
        · go_ret
          exact ⟨isBool _, rfl⟩
        · go_loop [9, 11] (fun t i => ∃ (k : Nat) (u : Int), k ≤ s2.length ∧ i = .int .i64 k ∧ t = .int .i64 u ∧ 0 ≤ u ∧ u ≤ 1048576) (fun _ i => s2.length - (intOf i).toNat)
          case atStart => exact ⟨0, _, Nat.zero_le _, rfl, rfl, by omega, by omega⟩
          case round =>
            obtain ⟨k2, u2, hk2, rfl, rfl, hu20, hu21⟩ := hrel
            by_cases hlt2 : k2 < s2.length
            · obtain ⟨b, o, s, hb, hidx, hcell, hsz, hs'⟩ := h2.idx hlt2 c2
              unfold maxLen at hsz
              clear hs' hb
              go_wp2
              · go_ret
                exact ⟨isBool _, rfl⟩
              · go_ret
                exact ⟨isBool _, rfl⟩
              · go_round
                case rel => exact ⟨k2 + 1, _, by omega, by go_num, rfl, by omega, by omega⟩
                case measure => simp [intOf]; omega
            · go_wp2
              all_goals
                go_ret
                exact ⟨isBool _, rfl⟩

end Go.Proofs.Qxb6000019a
