/-
  A map[string]bool that the call makes, as a set of keys; small bridges for the laws' own walks.
-/
import Derived.Test.Qxb6000019aAt
import Derived.Test.Qxb6000019aMeet
namespace Go.Proofs.Qxb6000019a
open Go.RowKit Go.Maps

def SetIn (w : World) (b n : Nat) (p : Ky → Bool) : Prop := ∃ D, w.ownsMap Try.prog 9 (plainElem (H := Unit) Try.prog 4) b n D ∧ (∀ k, Maps.has D k = true → ∃ l : Ky, k = .string l) ∧ ∀ l : Ky, Maps.has D (.string l) = p l

theorem SetIn.made (w : World) : SetIn (w.alloc (.map #[] 0)) w.heap.size 0 (fun _ => false) := ⟨.map [], World.ownsMap_made _ _ _ _, fun k h => by simp [Maps.has] at h, fun _ => rfl⟩
theorem SetIn.kept {w w' : World} {b n : Nat} {p : Ky → Bool} {row : Option Nat} (h : SetIn w b n p) (hg : w.grownBy w' row) (hne : some b ≠ row) : SetIn w' b n p := h.elim fun D h => ⟨D, h.1.kept hg hne, h.2⟩
theorem SetIn.congr {w : World} {b n : Nat} {p q : Ky → Bool} (h : SetIn w b n p) (e : ∀ k, p k = q k) : SetIn w b n q := by rw [← (funext e : p = q)]; exact h

theorem SetIn.put {w : World} {b n : Nat} {p : Ky → Bool} (h : SetIn w b n p) (hn : n < maxLen) {s : ByteArray} (hs : s.size ≤ maxLen) :
    ∃ w', (Instr.mapUpdate 32 (.map (some b)) (.string s) (.bool true)).run Try.prog w = .ok () w' ∧ SetIn w' b (n + 1) (fun k => p k || decide (k = ky s)) ∧ w.grownBy w' (some b) := by
  obtain ⟨D, hown, h1, h2⟩ := h
  obtain ⟨w', hrun, g1, g2⟩ := hown.update law9 Try.underlying32 hn (keyOf9 hs) (plainElem_bool (H := Unit) Try.underlying4 true)
  refine ⟨w', hrun, ⟨_, g1, fun x hx => ?_, fun l => ?_⟩, g2⟩
  · by_cases e : x = .string (ky s)
    · exact ⟨_, e⟩
    · rw [has_put_other e] at hx; exact h1 x hx
  · by_cases e : l = ky s
    · subst e
      rw [has_put_same hown.isMap (isKey _)]
      simp
    · rw [has_put_other (fun x => e (by injection x)), h2]
      simp [e]

theorem SetIn.size {w : World} {b n : Nat} {p : Ky → Bool} (h : SetIn w b n p) : ∃ m : Nat, SizeIs p m ∧ m ≤ n ∧ ∀ ty, (Builtin.len_ #[32] ty #[.map (some b)]).run Try.prog w = .ok (.int .i64 m) w := by
  obtain ⟨D, hown, h1, h2⟩ := h
  exact ⟨Maps.size D, size_keys (hown.canon law9) h1 h2, hown.size_le, fun ty => hown.len Try.underlying32 ty⟩

theorem wp_add (w : World) {ops : Array Oper} {rest : List Oper} {o : Oper} {a : Act} {Q : Exit → Act → World → Prop} (hg : o.guard = none) (m x y : Operand) (hop : o.op = Op.mapUpdate 32 m x y) (b n : Nat) (p : Ky → Bool) (hm : a.eval m = .map (some b)) (h : SetIn w b n p) (hn : n < maxLen) (s : ByteArray) (hx : a.eval x = .string s) (hs : s.size ≤ maxLen)
    (hy : a.eval y = .bool true)
    (hK : ∀ w', SetIn w' b (n + 1) (fun k => p k || decide (k = ky s)) → w.grownBy w' (some b) → wpList Try.prog ops Q rest (a.put o.dst undef) w') : wpList Try.prog ops Q (o :: rest) a w := by
  refine wpList_plain hg fun K' hK' => ?_
  obtain ⟨w', hrun, r1, r2⟩ := h.put hn hs
  unfold Oper.wp
  simp [execOp, hop, hm, hx, hy, hrun, Result.andThen]
  exact hK' _ _ (hK w' r1 r2)

theorem Below.next {w w1 w2 : World} (h : Below w.heap.size w w1) (h2 : Below w1.heap.size w1 w2) : Below w.heap.size w w2 := h.trans (h2.mono h.size)

/-- the keys of the first k strings -/
def inTake (ss : List ByteArray) (k : Nat) : Ky → Bool := fun x => decide (x ∈ (ss.map ky).take k)
theorem inTake_zero (ss : List ByteArray) (x : Ky) : inTake ss 0 x = false := by simp [inTake]
theorem inTake_step {ss : List ByteArray} {k : Nat} (hk : k < ss.length) {s : ByteArray} (hs : s = ss.getD k ByteArray.empty) (x : Ky) : (inTake ss k x || decide (x = ky s)) = inTake ss (k + 1) x := by
  have e : (ss.map ky).take (k + 1) = (ss.map ky).take k ++ [ky s] := by
    rw [List.take_succ_eq_append_getElem (by simpa using hk), hs]
    simp [List.getD, List.getElem?_eq_getElem hk]
  unfold inTake
  rw [e]
  simp
theorem mkF_inTake {ss : List ByteArray} {zs : List Int} {n : Nat} (hn : n ≤ ss.length) (x : Ky) : (mkF (ss.map ky) zs n x).isSome = inTake ss n x := mkF_some _ _ _ (by simpa using hn) _

theorem SetIn.mono {w : World} {b n n' : Nat} {p : Ky → Bool} (h : SetIn w b n p) (hn : n ≤ n') : SetIn w b n' p := h.elim fun D h => ⟨D, h.1.mono hn, h.2⟩

/-- both values are above zero -/
def both (f g : Fn) (x : Ky) : Bool := decide (0 < val f x) && decide (0 < val g x)
theorem both_step {ss : List ByteArray} {k : Nat} (hk : k < ss.length) {s : ByteArray} (hs : s = ss.getD k ByteArray.empty) {f g : Fn} (h1 : 0 < val f (ky s)) (h2 : 0 < val g (ky s)) (x : Ky) :
    (inTake ss k x && both f g x || decide (x = ky s)) = (inTake ss (k + 1) x && both f g x) := by
  rw [← inTake_step hk hs x]
  by_cases e : x = ky s
  · subst e
    simp [both, h1, h2]
  · simp [e]
theorem both_skip {ss : List ByteArray} {k : Nat} (hk : k < ss.length) {s : ByteArray} (hs : s = ss.getD k ByteArray.empty) {f g : Fn} (h : ¬ (0 < val f (ky s) ∧ 0 < val g (ky s))) (x : Ky) :
    (inTake ss k x && both f g x) = (inTake ss (k + 1) x && both f g x) := by
  rw [← inTake_step hk hs x]
  by_cases e : x = ky s
  · subst e
    have hb : both f g (ky s) = false := by
      unfold both
      by_cases a : 0 < val f (ky s)
      · by_cases b : 0 < val g (ky s)
        · exact absurd ⟨a, b⟩ h
        · simp [b]
      · simp [a]
    simp [hb]
  · simp [e]
theorem both_in {ss : List ByteArray} {zs : List Int} {n : Nat} (hn : n ≤ ss.length) {g : Fn} {x : Ky} (h : both (mkF (ss.map ky) zs n) g x = true) : inTake ss n x = true := by
  rw [← mkF_inTake (zs := zs) hn]
  cases hf : mkF (ss.map ky) zs n x with
  | none => simp [both, val_none hf] at h
  | some c => rfl

end Go.Proofs.Qxb6000019a
