/-
  '==' on dates.
-/
import Derived.Test.Qxb6001755aPlainD
namespace Go.Proofs.Qxb6001755a
open Go.RowKit

set_option maxRecDepth 100000 in
theorem run_eq28 (W : World) (a b c a' b' c' : Int) :
    (binOp .eql 28 (.agg #[.int .i64 a, .int .i64 b, .int .i64 c]) (.agg #[.int .i64 a', .int .i64 b', .int .i64 c'])).run Try.prog W = .ok (.bool (decide ((a, b, c) = (a', b', c')))) W := by
  by_cases h1 : a = a'
  · subst h1
    by_cases h2 : b = b'
    · subst h2
      by_cases h3 : c = c'
      · subst h3
        go_simp
      · have e : decide ((a, b, c) = (a, b, c')) = false := by simp [h3]
        rw [e]
        have hb : (c == c') = false := by simp [h3]
        go_simp
    · have e : decide ((a, b, c) = (a, b', c')) = false := by simp [h2]
      rw [e]
      have hb : (b == b') = false := by simp [h2]
      go_simp
  · have e : decide ((a, b, c) = (a', b', c')) = false := by simp [h1]
    rw [e]
    have hb : (a == a') = false := by simp [h1]
    go_simp

end Go.Proofs.Qxb6001755a
