/-
  The walks of Join and Meet.
-/
import Derived.Test.Qxb6000019aMk
namespace Go.Proofs.Qxb6000019a
open Go.RowKit Go.Maps

/-- g is g0 with those entries of f joined in that are no longer to come -/
def Joined (g0 f g : Fn) (left : Ky → Bool) : Prop := ∀ k, g k = if left k then g0 k else joinF g0 f k

theorem Joined.start (g0 f : Fn) : Joined g0 f g0 (fun k => (f k).isSome) := by
  intro k
  cases h : f k with
  | none => simp [joinF, h]
  | some c => show g0 k = if (f k).isSome = true then g0 k else joinF g0 f k; rw [h]; rfl
theorem Joined.step {g0 f g : Fn} {left : Ky → Bool} (h : Joined g0 f g left) {x : Ky} {c : Int} (hx : left x = true) (hf : f x = some c) {d : Int} (hd : d = mx (val g x) c) : Joined g0 f (upd g x d) (fun k => left k && !decide (k = x)) := by
  intro k
  by_cases e : k = x
  · subst e
    have : g k = g0 k := by rw [h k, if_pos hx]
    simp [upd, joinF, hf, hd, val, this]
  · simp [upd, e]
    exact h k
theorem Joined.done {g0 f g : Fn} {left : Ky → Bool} (h : Joined g0 f g left) (hl : ∀ k, left k = false) : g = joinF g0 f := by
  funext k
  rw [h k, hl k]
  rfl

theorem VerAt.shape {w : World} {v : Value} {n : Nat} {f : Fn} (h : VerAt w v n f) : ∃ r : Option Nat, v = .map r := by
  rcases h with ⟨rfl, _⟩ | ⟨b, rfl, _⟩
  · exact ⟨none, rfl⟩
  · exact ⟨some b, rfl⟩

def jn (f g : Fn) : Nat → Fn
  | 0 => emp
  | 1 => joinF emp f
  | _ => joinF (joinF emp f) g
def jc (n1 n2 : Nat) : Nat → Nat
  | 0 => 0
  | 1 => n1
  | _ => n1 + n2
def jr (r1 r2 : Option Nat) : Nat → Option Nat
  | 0 => r1
  | _ => r2

/-- what the k-th round of the outer loop meets -/
theorem jn_meets {r1 r2 : Option Nat} {n1 n2 : Nat} {f g : Fn} {w : World} (hv : VerAt w (.map r1) n1 f) (ho : VerAt w (.map r2) n2 g) {k : Nat} (hk : k < 2) :
    ∃ nr h, VerAt w (.map (jr r1 r2 k)) nr h ∧ joinF (jn f g k) h = jn f g (k + 1) ∧ jc n1 n2 k + nr = jc n1 n2 (k + 1) := by
  rcases k with _ | _ | k
  · exact ⟨n1, f, hv, rfl, by simp [jc]⟩
  · exact ⟨n2, g, ho, rfl, by simp [jc]⟩
  · omega

theorem VerAt.apart {w : World} {r : Option Nat} {n : Nat} {f : Fn} (h : VerAt w (.map r) n f) : ∀ b, Value.map r = .map (some b) → b ≠ w.heap.size := by
  intro b e
  rcases h with ⟨e', _⟩ | ⟨b', e', h⟩
  · rw [e'] at e; cases e
  · rw [e'] at e
    cases e
    have := h.lt
    omega

/-- the state of Join between two rounds of either loop, besides what ranges -/
def Mid (w wr : World) (r1 r2 : Option Nat) : Prop :=
  (∀ k, k < 2 → wr.cell? ⟨w.heap.size + 1, k, none⟩ = some (.map (jr r1 r2 k))) ∧ Below w.heap.size w wr ∧ w.heap.size + 2 ≤ wr.heap.size

theorem Mid.grown {w wr w' : World} {r1 r2 : Option Nat} (h : Mid w wr r1 r2) {row : Option Nat} (hg : wr.grownBy w' row) (hr : ∀ j, row = some j → w.heap.size ≤ j ∧ j ≠ w.heap.size + 1) : Mid w w' r1 r2 := by
  obtain ⟨h1, h2, h3⟩ := h
  refine ⟨fun k hk => ?_, h2.grown hg h2.size (fun j hj => (hr j hj).1), Nat.le_trans h3 hg.size⟩
  exact hg.cell (h1 k hk) (fun e => (hr _ e.symm).2 rfl)

/-- the inner loop under way -/
def InJ (w wi : World) (r r1 r2 : Option Nat) (R nr : Nat) (h : Fn) (tot : Nat) (g0 : Fn) : Prop :=
  ∃ (left : Ky → Bool) (cnt m : Nat) (gg : Fn), RangeV wi (.map r) R nr h left cnt ∧ VerIn wi w.heap.size m gg ∧ m + cnt ≤ tot ∧ Joined g0 h gg left ∧ Mid w wi r1 r2

set_option maxRecDepth 100000 in
set_option maxHeartbeats 1000000 in
theorem join_any {v o : Value} {n1 n2 : Nat} {f g : Fn} {w : World} (hv : VerAt w v n1 f) (ho : VerAt w o n2 g) (h1 : n1 ≤ 1048576) (h2 : n2 ≤ 1048576) :
    Calls Try.prog 14 #[v, o] w fun e w' => MadeV w (n1 + n2) (joinF f g) e w' := by
  have hmm := @run_makeMap Try.prog
  obtain ⟨r1, rfl⟩ := hv.shape
  obtain ⟨r2, rfl⟩ := ho.shape
  go_enter Try.func14, Try.ntmps14
  go_wp2
  clear hmm
  go_loopw [15] (fun i wr => ∃ k : Nat, k ≤ 2 ∧ i = .int .i64 k ∧ VerIn wr w.heap.size (jc n1 n2 k) (jn f g k) ∧ Mid w wr r1 r2) (fun i _ => 2 - (intOf i).toNat)
  case atStart =>
    refine ⟨0, Nat.zero_le _, rfl, (VerIn.made w).kept (World.grownBy_alloc _ _ none) (by simp), ?_, ((Below.refl _ _).alloc (Nat.le_refl _) _).alloc (by simp) _, by simp⟩
    intro k hk
    have hh := (MapKept.heap_alloc (w.alloc (.map #[] 0)) (.cells #[Value.map r1, Value.map r2] 29)).1
    have e1 : (w.alloc (.map #[] 0)).heap.size = w.heap.size + 1 := by simp
    rw [e1] at hh
    unfold World.cell?
    rw [hh]
    rcases k with _ | _ | k
    · rfl
    · rfl
    · omega
  case round =>
    obtain ⟨k, hk, rfl, hver, hmid⟩ := hrel
    by_cases hlt : k < 2
    · obtain ⟨nr, h, hx0, hjn, hjc⟩ := jn_meets hv ho hlt
      have hcell := hmid.1 k hlt
      have hx := hx0.below hmid.2.1
      have hap := hx0.apart
      have hjc' : jc n1 n2 k + nr ≤ 2097152 := by
        rw [hjc]
        rcases k with _ | _ | k
        · simp [jc]; omega
        · simp [jc]; omega
        · omega
      have HJ : Hid (joinF (jn f g k) h = jn f g (k + 1)) := hjn
      have HC : Hid (jc n1 n2 k + nr = jc n1 n2 (k + 1)) := hjc
      clear hjn hjc hx0 hv ho
      generalize jr r1 r2 k = r at hcell hx hap
      go_wp2_with (first
        | (at_range; refine wp_range _ rfl _ rfl _ _ _ rfl hx ?_; intro w0 cnt0 hrg0 hcnt0 hg0 hs0)
        | go_in)
      go_frame
      have hmid0 : Mid w w0 r1 r2 := hmid.grown hg0 (fun j hj => by cases hj)
      have hver0 := hver.kept hg0 (by simp)
      have hRB : wr.heap.size ≠ w.heap.size := by have := hmid.2.2; omega
      have hRB1 : wr.heap.size ≠ w.heap.size + 1 := by have := hmid.2.2; omega
      have hRge : w.heap.size ≤ wr.heap.size := by have := hmid.2.2; omega
      clear hver hmid hcell hx hg0 hs0
      go_loopw [8] (fun _ wi => InJ w wi r r1 r2 wr.heap.size nr h (jc n1 n2 k + nr) (jn f g k)) (fun _ wi => leftV wi (.map r) wr.heap.size)
      case atStart => exact ⟨_, cnt0, _, _, hrg0, hver0, by omega, Joined.start _ _, hmid0⟩
      case round =>
        obtain ⟨left, cnt, m, gg, hrg, hvi, hmc, hJ, hmi⟩ := hrel
        clear hrg0 hver0 hmid0
        go_wp2_with (first
          | (at_next; refine wp_next _ rfl _ rfl _ _ _ _ _ _ rfl hrg ?_ ?_)
          | go_in)
        · intro hl
          go_wp2
          go_roundw
          case rel => exact ⟨k + 1, by omega, by go_num, by rw [← HJ.out, ← hJ.done hl]; exact hvi.mono (by rw [← HC.out]; omega), hmi⟩
          case measure => simp [intOf]; omega
        · intro s c w1 cnt1 hsz hlk hf hwf hrg1 hlt1 hg1 hs1 hen
          have hvi1 := hvi.kept hg1 (fun e => hRB (Option.some.inj e).symm)
          have hmi1 := hmi.grown hg1 (fun j hj => by cases hj; exact ⟨hRge, hRB1⟩)
          have hlook := hvi1.at.look hsz false
          simp only [Bool.false_eq_true, if_false] at hlook
          have hwx := hvi1.wf.val (ky s)
          clear hs1
          go_wp2_with (first
            | (at_mapUpdate; refine wp_put _ rfl _ _ _ rfl _ _ _ rfl hvi1 (by unfold maxLen; omega) _ rfl hsz _ rfl (by split <;> assumption) ?_; intro w2 hv2 hg2; go_frame; have hrg2 := hrg1.kept hg2 (Or.inr rfl) hRB hap)
            | go_in)
          all_goals
            go_roundw
            case rel => exact ⟨_, cnt1, m + 1, _, hrg2, hv2, by omega, hJ.step hlk hf rfl, hmi1.grown hg2 (fun j hj => by cases hj; exact ⟨Nat.le_refl _, by omega⟩)⟩
            case measure => rw [hrg2.left_eq, hrg.left_eq]; exact hlt1
    · have hk2 : k = 2 := by omega
      have hnn := hv.wf.nn
      subst hk2
      go_wp2
      go_ret
      refine ⟨_, rfl, ?_, hmid.2.1⟩
      have e : jn f g 2 = joinF f g := by show joinF (joinF emp f) g = _; rw [join_emp_left hnn]
      rw [← e]
      exact hver.at

end Go.Proofs.Qxb6000019a
