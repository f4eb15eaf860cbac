/-
  The walks of cmp.Compare, cmp.Or, Date.Compare.
-/
import Derived.Test.Qxb6001755aRows
import Derived.WalkKit
import Derived.WalkSpells
import Derived.WalkLawsBesides
import Derived.Deep.RegionWith
namespace Go.Proofs.Qxb6001755a
open Go.RowKit

/-- cmp.Compare on integers -/
def cmpI (x y : Int) : Int := if x < y then -1 else if y < x then 1 else 0

set_option maxRecDepth 100000 in
set_option maxHeartbeats 1000000 in
theorem cmp33_any (x y : Int) (w : World) : Calls Try.prog 33 #[.int .i64 x, .int .i64 y] w fun e w' => e = .returned (.int .i64 (cmpI x y)) ∧ w' = w := by
  by_cases h : x < y
  · have e : cmpI x y = -1 := by unfold cmpI; rw [if_pos h]
    rw [e]
    go_enter Try.func33, Try.ntmps33
    go_wp2
    go_ret
    exact ⟨rfl, rfl⟩
  · by_cases h2 : y < x
    · have e : cmpI x y = 1 := by unfold cmpI; rw [if_neg h, if_pos h2]
      rw [e]
      go_enter Try.func33, Try.ntmps33
      go_wp2
      go_ret
      exact ⟨rfl, rfl⟩
    · have e : cmpI x y = 0 := by unfold cmpI; rw [if_neg h, if_neg h2]
      rw [e]
      go_enter Try.func33, Try.ntmps33
      go_wp2
      go_ret
      exact ⟨rfl, rfl⟩

set_option maxRecDepth 100000 in
set_option maxHeartbeats 1000000 in
theorem cmp34_any (x y : Int) (w : World) : Calls Try.prog 34 #[.int .i64 x, .int .i64 y] w fun e w' => e = .returned (.int .i64 (cmpI x y)) ∧ w' = w := by
  by_cases h : x < y
  · have e : cmpI x y = -1 := by unfold cmpI; rw [if_pos h]
    rw [e]
    go_enter Try.func34, Try.ntmps34
    go_wp2
    go_ret
    exact ⟨rfl, rfl⟩
  · by_cases h2 : y < x
    · have e : cmpI x y = 1 := by unfold cmpI; rw [if_neg h, if_pos h2]
      rw [e]
      go_enter Try.func34, Try.ntmps34
      go_wp2
      go_ret
      exact ⟨rfl, rfl⟩
    · have e : cmpI x y = 0 := by unfold cmpI; rw [if_neg h, if_neg h2]
      rw [e]
      go_enter Try.func34, Try.ntmps34
      go_wp2
      go_ret
      exact ⟨rfl, rfl⟩

def firstNZ : List Int → Int
  | [] => 0
  | x :: r => if x = 0 then firstNZ r else x

set_option maxRecDepth 100000 in
set_option maxHeartbeats 1000000 in
theorem or_any (b : Nat) (x y z : Int) (w : World) (h0 : w.cell? ⟨b, 0, none⟩ = some (.int .i64 x)) (h1 : w.cell? ⟨b, 1, none⟩ = some (.int .i64 y)) (h2 : w.cell? ⟨b, 2, none⟩ = some (.int .i64 z)) :
    Calls Try.prog 32 #[.slice (some ⟨b, 0, none⟩) 3 3] w fun e w' => e = .returned (.int .i64 (firstNZ [x, y, z])) ∧ w' = w := by
  by_cases hx : x = 0
  · subst hx
    by_cases hy : y = 0
    · subst hy
      by_cases hz : z = 0
      · subst hz
        go_enter Try.func32, Try.ntmps32
        go_wp2
        refine wp_loop_rounds 4 ?_
        rw [rounds_succ]
        go_wp2
        rw [rounds_succ]
        go_wp2
        rw [rounds_succ]
        go_wp2
        rw [rounds_succ]
        go_wp2
        go_ret
        exact ⟨rfl, rfl⟩
      · have hb : (z != 0) = true := by simp [hz]
        have e : firstNZ [0, 0, z] = z := by simp [firstNZ, hz]
        rw [e]
        clear e
        go_enter Try.func32, Try.ntmps32
        go_wp2
        refine wp_loop_rounds 3 ?_
        rw [rounds_succ]
        go_wp2
        rw [rounds_succ]
        go_wp2
        rw [rounds_succ]
        go_wp2
        go_ret
        exact ⟨rfl, rfl⟩
    · have hb : (y != 0) = true := by simp [hy]
      have e : firstNZ [0, y, z] = y := by simp [firstNZ, hy]
      rw [e]
      clear e
      go_enter Try.func32, Try.ntmps32
      go_wp2
      refine wp_loop_rounds 2 ?_
      rw [rounds_succ]
      go_wp2
      rw [rounds_succ]
      go_wp2
      go_ret
      exact ⟨rfl, rfl⟩
  · have hb : (x != 0) = true := by simp [hx]
    have e : firstNZ [x, y, z] = x := by simp [firstNZ, hx]
    rw [e]
    clear e
    go_enter Try.func32, Try.ntmps32
    go_wp2
    refine wp_loop_rounds 1 ?_
    rw [rounds_succ]
    go_wp2
    go_ret
    exact ⟨rfl, rfl⟩

end Go.Proofs.Qxb6001755a
