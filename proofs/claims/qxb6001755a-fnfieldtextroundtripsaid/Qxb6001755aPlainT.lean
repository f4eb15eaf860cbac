/-
  The plain laws of a text of fields: no Go in sight.
-/
import Derived.Test.Qxb6001755aFields
namespace Go.Proofs.Qxb6001755a

theorem join_snoc (xs : List (List UInt8)) (x sep : List UInt8) : Lib.join (xs ++ [x]) sep = if xs = [] then x else Lib.join xs sep ++ sep ++ x := by
  cases xs with
  | nil => simp [Lib.join_one]
  | cons a r =>
    rw [if_neg (by simp), List.cons_append, Lib.join_cons, Lib.join_cons]
    simp [Lib.joinTail]

/-- the bytes of the word at place j -/
def wL (ns vs : List ByteArray) (j : Nat) : List UInt8 := (ns.getD j ByteArray.empty).data.toList ++ 61 :: (vs.getD j ByteArray.empty).data.toList
theorem wC_wL (ns vs : List ByteArray) (f j : Nat) : (wC ns vs f j).data.toList = wL ns vs (f + j) := by
  unfold wC wL
  rw [word_size]

theorem textL_zero (ns vs : List ByteArray) (f : Nat) : textL ns vs f 0 = [] := rfl
theorem textL_succ (ns vs : List ByteArray) (f n : Nat) : textL ns vs f (n + 1) = if n = 0 then wL ns vs f else textL ns vs f n ++ 32 :: wL ns vs (f + n) := by
  unfold textL
  rw [List.range_succ, List.map_append, List.map_singleton, join_snoc, wC_wL]
  by_cases h : n = 0
  · subst h
    rw [if_pos (by simp), if_pos rfl]
    rfl
  · rw [if_neg (by simp [h]), if_neg h]
    simp

/-- what 'want' holds before round k -/
def wantTo (ns vs : List ByteArray) : Nat → Nat
  | 0 => 0
  | k + 1 => wantTo ns vs k + ((ns.getD k ByteArray.empty).size + 1 + (vs.getD k ByteArray.empty).size)

theorem wL_length (ns vs : List ByteArray) (j : Nat) : (wL ns vs j).length = (ns.getD j ByteArray.empty).size + 1 + (vs.getD j ByteArray.empty).size := by
  unfold wL
  rw [List.length_append, List.length_cons]
  have e1 : (ns.getD j ByteArray.empty).data.toList.length = (ns.getD j ByteArray.empty).size := rfl
  have e2 : (vs.getD j ByteArray.empty).data.toList.length = (vs.getD j ByteArray.empty).size := rfl
  rw [e1, e2]
  omega

theorem textL_length (ns vs : List ByteArray) : ∀ n : Nat, (textL ns vs 0 n).length = wantTo ns vs n + (n - 1)
  | 0 => rfl
  | n + 1 => by
    rw [textL_succ]
    have ih := textL_length ns vs n
    by_cases h : n = 0
    · subst h
      rw [if_pos rfl, wL_length]
      simp [wantTo]
    · rw [if_neg h, List.length_append, List.length_cons, ih, Nat.zero_add, wL_length]
      simp only [wantTo]
      omega

theorem wantTo_le {ns vs : List ByteArray} {n : Nat} (h : Short ns vs 0 n) : ∀ k : Nat, k ≤ n → wantTo ns vs k ≤ k * 2097153
  | 0, _ => by simp [wantTo]
  | k + 1, hk => by
    have ih := wantTo_le h k (by omega)
    have := h k (by omega)
    rw [Nat.zero_add] at this
    simp only [wantTo]
    omega

theorem lenTo_mem (ss : List ByteArray) : ∀ {k i : Nat}, i < k → (ss.getD i ByteArray.empty).size ≤ lenTo ss k
  | 0, i, h => by omega
  | k + 1, i, h => by
    simp only [lenTo]
    by_cases e : i = k
    · subst e; omega
    · have := lenTo_mem ss (k := k) (i := i) (by omega)
      omega
theorem getD_out {ss : List ByteArray} {i : Nat} (h : ss.length ≤ i) : (ss.getD i ByteArray.empty).size = 0 := by
  rw [List.getD, List.getElem?_eq_none h]
  rfl
/-- out of the sum's bound: every string is short -/
theorem short_of_sum {ns vs : List ByteArray} (h : ns.length + lenTo ns ns.length + vs.length + lenTo vs vs.length ≤ 1048576) (f n : Nat) : Short ns vs f n := by
  intro j _
  have one : ∀ ss : List ByteArray, lenTo ss ss.length ≤ 1048576 → (ss.getD (f + j) ByteArray.empty).size ≤ 1048576 := by
    intro ss hs
    by_cases e : f + j < ss.length
    · have := lenTo_mem ss e
      omega
    · rw [getD_out (by omega)]; omega
  exact ⟨one ns (by omega), one vs (by omega)⟩

end Go.Proofs.Qxb6001755a
