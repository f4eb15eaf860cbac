/-
  The walks of the small functions on dates.
-/
import Derived.Test.Qxb6001755aBase
import Derived.Test.Qxb6001755aDcmp
namespace Go.Proofs.Qxb6001755a
open Go.RowKit

abbrev Dt := Int × Int × Int
/-- the lexicographic order on (year, month, day) -/
def ltD (a b : Dt) : Bool := if a.1 = b.1 then (if a.2.1 = b.2.1 then decide (a.2.2 < b.2.2) else decide (a.2.1 < b.2.1)) else decide (a.1 < b.1)

def TooBig3 (n0 n1 n2 : Nat) (e : Ending) : Prop := ∃ b : Bool, e = .returned (.bool b) ∧ (b = false → n0 ≤ 131072 ∧ n1 ≤ 131072 ∧ n2 ≤ 131072)

set_option maxRecDepth 100000 in
set_option maxHeartbeats 1000000 in
theorem tooBig3_any (a0 a1 a2 : Option Addr) (n0 c0 n1 c1 n2 c2 : Nat) (w : World) (h0 : n0 ≤ maxLen) (h1 : n1 ≤ maxLen) (h2 : n2 ≤ maxLen) :
    Calls Try.prog 10 #[.slice a0 n0 c0, .slice a1 n1 c1, .slice a2 n2 c2] w fun e w' => TooBig3 n0 n1 n2 e ∧ w' = w := by
  unfold maxLen at h0 h1 h2
  by_cases g0 : 131072 < n0
  · have hb : decide ((131072 : Int) < (n0 : Int)) = true := by simp; omega
    go_enter Try.func10, Try.ntmps10
    go_wp2
    go_ret
    exact ⟨⟨_, rfl, fun h => by cases h⟩, rfl⟩
  by_cases g1 : 131072 < n1
  · have hb : decide ((131072 : Int) < (n1 : Int)) = true := by simp; omega
    go_enter Try.func10, Try.ntmps10
    go_wp2
    go_ret
    exact ⟨⟨_, rfl, fun h => by cases h⟩, rfl⟩
  by_cases g2 : 131072 < n2
  · have hb : decide ((131072 : Int) < (n2 : Int)) = true := by simp; omega
    go_enter Try.func10, Try.ntmps10
    go_wp2
    go_ret
    exact ⟨⟨_, rfl, fun h => by cases h⟩, rfl⟩
  go_enter Try.func10, Try.ntmps10
  go_wp2
  go_ret
  exact ⟨⟨_, rfl, fun _ => ⟨by omega, by omega, by omega⟩⟩, rfl⟩

set_option maxRecDepth 100000 in
set_option maxHeartbeats 1000000 in
theorem bytes9_any (a0 a1 a2 : Option Addr) (n0 c0 n1 c1 n2 c2 : Nat) (w : World) (h0 : n0 ≤ maxLen) (h1 : n1 ≤ maxLen) (h2 : n2 ≤ maxLen) :
    Calls Try.prog 9 #[.slice a0 n0 c0, .slice a1 n1 c1, .slice a2 n2 c2] w fun e w' => IsBool e ∧ w' = w := by
  unfold maxLen at h0 h1 h2
  go_enter Try.func9, Try.ntmps9
  go_wp2
  all_goals
    go_ret
    exact ⟨isBool _, rfl⟩

set_option maxRecDepth 100000 in
set_option maxHeartbeats 1000000 in
theorem min3_any (a b c : Nat) (w : World) : Calls Try.prog 12 #[.int .i64 a, .int .i64 b, .int .i64 c] w fun e w' => e = .returned (.int .i64 ((min a (min b c) : Nat) : Int)) ∧ w' = w := by
  by_cases h1 : b < a
  · by_cases h2 : c < b
    · have e : min a (min b c) = c := by omega
      rw [e]
      go_enter Try.func12, Try.ntmps12
      go_wp2
      go_ret
      exact ⟨rfl, rfl⟩
    · have e : min a (min b c) = b := by omega
      rw [e]
      go_enter Try.func12, Try.ntmps12
      go_wp2
      go_ret
      exact ⟨rfl, rfl⟩
  · by_cases h2 : c < a
    · have e : min a (min b c) = c := by omega
      rw [e]
      go_enter Try.func12, Try.ntmps12
      go_wp2
      go_ret
      exact ⟨rfl, rfl⟩
    · have e : min a (min b c) = a := by omega
      rw [e]
      go_enter Try.func12, Try.ntmps12
      go_wp2
      go_ret
      exact ⟨rfl, rfl⟩

set_option maxRecDepth 100000 in
set_option maxHeartbeats 1000000 in
theorem before_any (y m d y' m' d' : Int) (w : World) :
    Calls Try.prog 15 #[.agg #[.int .i64 y, .int .i64 m, .int .i64 d], .agg #[.int .i64 y', .int .i64 m', .int .i64 d']] w fun e w' => e = .returned (.bool (ltD (y, m, d) (y', m', d'))) ∧ Below w.heap.size w w' := by
  by_cases h1 : y = y'
  · subst h1
    by_cases h2 : m = m'
    · subst h2
      have e : ltD (y, m, d) (y, m, d') = decide (d < d') := by simp [ltD]
      rw [e]
      clear e
      go_enter Try.func15, Try.ntmps15
      go_wp2
      go_ret
      exact ⟨rfl, ((Below.refl _ _).alloc (Nat.le_refl _) _).alloc (by simp) _⟩
    · have e : ltD (y, m, d) (y, m', d') = decide (m < m') := by simp [ltD, h2]
      rw [e]
      clear e
      have hb : (m != m') = true := by simp [h2]
      go_enter Try.func15, Try.ntmps15
      go_wp2
      go_ret
      exact ⟨rfl, ((Below.refl _ _).alloc (Nat.le_refl _) _).alloc (by simp) _⟩
  · have e : ltD (y, m, d) (y', m', d') = decide (y < y') := by simp [ltD, h1]
    rw [e]
    clear e
    have hb : (y != y') = true := by simp [h1]
    go_enter Try.func15, Try.ntmps15
    go_wp2
    go_ret
    exact ⟨rfl, ((Below.refl _ _).alloc (Nat.le_refl _) _).alloc (by simp) _⟩

set_option maxRecDepth 100000 in
set_option maxHeartbeats 1000000 in
theorem dateAt_any (a0 a1 a2 : Option Addr) (ys ms ds : List Int) (c0 c1 c2 k : Nat) (w : World) (h0 : IntsAt w a0 ys) (h1 : IntsAt w a1 ms) (h2 : IntsAt w a2 ds) (k0 : k < ys.length) (k1 : k < ms.length) (k2 : k < ds.length) :
    Calls Try.prog 16 #[.slice a0 ys.length c0, .slice a1 ms.length c1, .slice a2 ds.length c2, .int .i64 (k : Int)] w fun e w' =>
      e = .returned (.agg #[.int .i64 (ys.getD k 0), .int .i64 (ms.getD k 0), .int .i64 (ds.getD k 0)]) ∧ Below w.heap.size w w' := by
  obtain ⟨b0, o0, y, hb0, hidx0, hcell0, _, hy⟩ := h0.idx k0 c0
  obtain ⟨b1, o1, m, hb1, hidx1, hcell1, _, hm⟩ := h1.idx k1 c1
  obtain ⟨b2, o2, d, hb2, hidx2, hcell2, _, hd⟩ := h2.idx k2 c2
  rw [← hy.out, ← hm.out, ← hd.out]
  clear hy hm hd h0 h1 h2
  go_enter Try.func16, Try.ntmps16
  go_wp2
  go_region
  go_wp2
  refine bodyPost_ret (v := .agg #[.int .i64 y, .int .i64 m, .int .i64 d]) (by simp [results, Try.results16, go_sem]) rfl ⟨rfl, ?_⟩
  repeat (first | exact Below.refl _ _ | apply Below.drew | refine Below.setCell ?_ (by simp) _ | refine Below.alloc ?_ (by simp) _)

end Go.Proofs.Qxb6001755a
