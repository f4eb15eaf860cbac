/-
  The walk of Meet.
-/
import Derived.Test.Qxb6000019aJoin
namespace Go.Proofs.Qxb6000019a
open Go.RowKit Go.Maps

/-- gg holds just those entries of the meet that are no longer to come -/
def Met (f g gg : Fn) (left : Ky → Bool) : Prop := ∀ k, gg k = if left k then none else meetF f g k

theorem Met.start (f g : Fn) : Met f g emp (fun k => (f k).isSome) := by
  intro k
  show emp k = if (f k).isSome = true then none else meetF f g k
  cases h : f k with
  | none => simp [meetF, h, emp]
  | some c => rfl
theorem Met.put {f g gg : Fn} {left : Ky → Bool} (h : Met f g gg left) {x : Ky} {c l : Int} (hf : f x = some c) (hl : l = mn c (val g x)) (h0 : 0 < l) : Met f g (upd gg x l) (fun k => left k && !decide (k = x)) := by
  intro k
  by_cases e : k = x
  · subst e
    have : 0 < mn c (val g k) := by rw [← hl]; exact h0
    simp [upd, meetF, hf, hl, this]
  · simp [upd, e]
    exact h k
theorem Met.skip {f g gg : Fn} {left : Ky → Bool} (h : Met f g gg left) {x : Ky} {c l : Int} (hx : left x = true) (hf : f x = some c) (hl : l = mn c (val g x)) (h0 : ¬ 0 < l) : Met f g gg (fun k => left k && !decide (k = x)) := by
  intro k
  by_cases e : k = x
  · subst e
    have : ¬ 0 < mn c (val g k) := by rw [← hl]; exact h0
    have e2 : gg k = none := by rw [h k, if_pos hx]
    rw [e2]
    simp [meetF, hf, this]
  · simp [e]
    exact h k
theorem Met.done {f g gg : Fn} {left : Ky → Bool} (h : Met f g gg left) (hl : ∀ k, left k = false) : gg = meetF f g := by
  funext k
  rw [h k, hl k]
  rfl

def InM (w wi : World) (v : Value) (n1 : Nat) (f g : Fn) : Prop :=
  ∃ (left : Ky → Bool) (cnt m : Nat) (gg : Fn), RangeV wi v (w.heap.size + 1) n1 f left cnt ∧ VerIn wi w.heap.size m gg ∧ m + cnt ≤ n1 ∧ Met f g gg left ∧ Below w.heap.size w wi

set_option maxRecDepth 100000 in
set_option maxHeartbeats 1000000 in
theorem meet_any {v o : Value} {n1 n2 : Nat} {f g : Fn} {w : World} (hv : VerAt w v n1 f) (ho : VerAt w o n2 g) (h1 : n1 ≤ 1048576) :
    Calls Try.prog 20 #[v, o] w fun e w' => MadeV w n1 (meetF f g) e w' := by
  have hmm := @run_makeMap Try.prog
  have hap : ∀ b, v = .map (some b) → b ≠ w.heap.size := by
    obtain ⟨r, rfl⟩ := hv.shape
    exact hv.apart
  have hv0 : VerAt (w.alloc (.map #[] 0)) v n1 f := hv.below ((Below.refl _ _).alloc (Nat.le_refl _) _)
  have e1 : (w.alloc (.map #[] 0)).heap.size = w.heap.size + 1 := by simp
  go_enter Try.func20, Try.ntmps20
  go_wp2_with (first
    | (at_range; refine wp_range _ rfl _ rfl _ _ _ rfl hv0 ?_; intro w0 cnt0 hrg0 hcnt0 hg0 hs0)
    | go_in)
  go_frame
  rw [e1] at hrg0 hs0 ⊢
  clear hmm hv0 e1
  go_loopw [6] (fun _ wi => InM w wi v n1 f g) (fun _ wi => leftV wi v (w.heap.size + 1))
  case atStart => exact ⟨_, cnt0, 0, emp, hrg0, (VerIn.made w).kept hg0 (by simp), by omega, Met.start _ _, ((Below.refl _ _).alloc (Nat.le_refl _) _).grown hg0 (by simp) (fun j hj => by cases hj)⟩
  case round =>
    obtain ⟨left, cnt, m, gg, hrg, hvi, hmc, hM, hbel⟩ := hrel
    clear hrg0 hg0 hs0
    go_wp2_with (first
      | (at_next; refine wp_next _ rfl _ rfl _ _ _ _ _ _ rfl hrg ?_ ?_)
      | go_in)
    · intro hl
      go_wp2
      go_ret
      exact ⟨_, rfl, by rw [← hM.done hl]; exact (hvi.mono (by omega)).at, hbel⟩
    · intro s c w1 cnt1 hsz hlk hf hwf hrg1 hlt1 hg1 hs1 hen
      have hvi1 := hvi.kept hg1 (fun e => by have := Option.some.inj e; omega)
      have hbel1 : Below w.heap.size w w1 := hbel.grown hg1 hbel.size (fun j hj => by cases hj; omega)
      have hlook := (ho.below hbel1).look hsz false
      simp only [Bool.false_eq_true, if_false] at hlook
      have hwy := ho.wf.val (ky s)
      have hpos := wf_u64 hwf
      have hposy := wf_u64 hwy
      have HM : Hid (∀ l : Int, l = mn c (val g (ky s)) → 0 < l → Met f g (upd gg (ky s) l) (fun k => left k && !decide (k = ky s))) := fun l hl h0 => hM.put (x := ky s) (c := c) (l := l) hf hl h0
      have HS : Hid (∀ l : Int, l = mn c (val g (ky s)) → ¬ 0 < l → Met f g gg (fun k => left k && !decide (k = ky s))) := fun l hl h0 => hM.skip (x := ky s) (c := c) (l := l) hlk hf hl h0
      clear hs1 hM hvi hbel hg1
      generalize hy : val g (ky s) = y at *
      clear hy
      by_cases hlt : y < c
      · by_cases h0 : 0 < y
        · go_wp2_with (first
            | (at_mapUpdate; refine wp_put _ rfl _ _ _ rfl _ _ _ rfl hvi1 (by unfold maxLen; omega) _ rfl hsz _ rfl hwy ?_; intro w2 hv2 hg2; go_frame)
            | go_in)
          have hrg2 := hrg1.kept hg2 (Or.inr rfl) (by omega) hap
          go_roundw
          case rel => exact ⟨_, cnt1, m + 1, _, hrg2, hv2, by omega, HM.out _ (by unfold mn; rw [if_pos hlt]) h0, hbel1.grown hg2 hbel1.size (fun j hj => by cases hj; omega)⟩
          case measure => rw [hrg2.left_eq, hrg.left_eq]; exact hlt1
        · go_wp2
          go_roundw
          case rel => exact ⟨_, cnt1, m, _, hrg1, hvi1, by omega, HS.out y (by unfold mn; rw [if_pos hlt]) h0, hbel1⟩
          case measure => rw [hrg1.left_eq, hrg.left_eq]; exact hlt1
      · by_cases h0 : 0 < c
        · go_wp2_with (first
            | (at_mapUpdate; refine wp_put _ rfl _ _ _ rfl _ _ _ rfl hvi1 (by unfold maxLen; omega) _ rfl hsz _ rfl hwf ?_; intro w2 hv2 hg2; go_frame)
            | go_in)
          have hrg2 := hrg1.kept hg2 (Or.inr rfl) (by omega) hap
          go_roundw
          case rel => exact ⟨_, cnt1, m + 1, _, hrg2, hv2, by omega, HM.out _ (by unfold mn; rw [if_neg hlt]) h0, hbel1.grown hg2 hbel1.size (fun j hj => by cases hj; omega)⟩
          case measure => rw [hrg2.left_eq, hrg.left_eq]; exact hlt1
        · go_wp2
          go_roundw
          case rel => exact ⟨_, cnt1, m, _, hrg1, hvi1, by omega, HS.out c (by unfold mn; rw [if_neg hlt]) h0, hbel1⟩
          case measure => rw [hrg1.left_eq, hrg.left_eq]; exact hlt1

end Go.Proofs.Qxb6000019a
