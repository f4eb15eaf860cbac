/-
  The plain mathematics of versions: a version is a finite map from byte strings to numbers, absent keys told apart. No Go in sight.
-/
namespace Go.Proofs.Qxb6000019a

abbrev Ky := List UInt8
abbrev Fn := Ky → Option Int

def emp : Fn := fun _ => none
def upd (f : Fn) (k : Ky) (c : Int) : Fn := fun x => if x = k then some c else f x
/-- no value is below zero -/
def NN (f : Fn) : Prop := ∀ k c, f k = some c → 0 ≤ c
def val (f : Fn) (k : Ky) : Int := (f k).getD 0

def mx (a c : Int) : Int := if c > a then c else a
def mn (a c : Int) : Int := if c < a then c else a

def joinF (g f : Fn) : Fn := fun k => match f k with
  | none => g k
  | some c => some (mx (val g k) c)

def meetF (v o : Fn) : Fn := fun k => match v k with
  | none => none
  | some c => if 0 < mn c (val o k) then some (mn c (val o k)) else none

def posF (v : Fn) : Fn := fun k => match v k with
  | none => none
  | some c => if 0 < c then some c else none

theorem mx_max (a c : Int) : mx a c = max a c := by
  unfold mx
  by_cases h : c > a
  · rw [if_pos h]; omega
  · rw [if_neg h]; omega
theorem mn_min (a c : Int) : mn a c = min a c := by
  unfold mn
  by_cases h : c < a
  · rw [if_pos h]; omega
  · rw [if_neg h]; omega

theorem NN_emp : NN emp := fun _ _ h => by cases h
theorem NN_upd {f : Fn} {k : Ky} {c : Int} (h : NN f) (hc : 0 ≤ c) : NN (upd f k c) := by
  intro x d hd
  unfold upd at hd
  split at hd
  · cases hd; exact hc
  · exact h x d hd
theorem NN_join {g f : Fn} (hg : NN g) (hf : NN f) : NN (joinF g f) := by
  intro k c h
  unfold joinF at h
  split at h
  · exact hg k c h
  · rename_i d hd
    have := hf k d hd
    cases h
    rw [mx_max]
    omega
theorem NN_meet (v o : Fn) : NN (meetF v o) := by
  intro k c h
  unfold meetF at h
  split at h
  · cases h
  · split at h
    · cases h; omega
    · cases h

theorem val_nn {f : Fn} (h : NN f) (k : Ky) : 0 ≤ val f k := by
  unfold val
  cases hf : f k with
  | none => simp
  | some c => simpa using h k c hf
theorem val_none {f : Fn} {k : Ky} (h : f k = none) : val f k = 0 := by simp [val, h]
theorem val_some {f : Fn} {k : Ky} {c : Int} (h : f k = some c) : val f k = c := by simp [val, h]

theorem join_none {f g : Fn} {k : Ky} (h : g k = none) : joinF f g k = f k := by simp [joinF, h]
theorem join_some' {f g : Fn} {k : Ky} {c : Int} (h : g k = some c) : joinF f g k = some (max (val f k) c) := by simp [joinF, h, mx_max]
theorem join_both {f g : Fn} (hf : NN f) (hg : NN g) (k : Ky) : joinF f g k = if (f k).isSome || (g k).isSome then some (max (val f k) (val g k)) else none := by
  have a := val_nn hf k
  have b := val_nn hg k
  cases h2 : g k with
  | none =>
    rw [join_none h2]
    rw [val_none h2] at *
    cases h1 : f k with
    | none => simp
    | some c => rw [val_some h1] at *; simp only [Option.isSome_some, Bool.true_or, if_true, Option.some.injEq]; omega
  | some c => rw [join_some' h2, val_some h2]; simp

theorem join_emp_left {f : Fn} (h : NN f) : joinF emp f = f := by
  funext k
  rw [join_both NN_emp h]
  cases hf : f k with
  | none => rfl
  | some c =>
    have := h k c hf
    rw [val_some hf, val_none (show emp k = none from rfl)]
    simp only [Option.isSome_some, Bool.or_true, if_true, Option.some.injEq]; omega
theorem join_emp_right (f : Fn) : joinF f emp = f := rfl

theorem join_comm {f g : Fn} (hf : NN f) (hg : NN g) : joinF f g = joinF g f := by
  funext k
  rw [join_both hf hg, join_both hg hf, Bool.or_comm, Int.max_comm]

theorem val_join {f g : Fn} (hf : NN f) (k : Ky) : val (joinF f g) k = max (val f k) (val g k) := by
  have h1 := val_nn hf k
  cases h2 : g k with
  | none =>
    rw [val_none h2]
    have e : val (joinF f g) k = val f k := by simp only [val, join_none h2]
    rw [e]; omega
  | some c => rw [val_some h2, val_some (join_some' h2)]

theorem join_some (f g : Fn) (k : Ky) : (joinF f g k).isSome = ((f k).isSome || (g k).isSome) := by
  unfold joinF
  cases h : g k <;> simp

theorem join_assoc {f g h : Fn} (hf : NN f) (hg : NN g) (hh : NN h) : joinF (joinF f g) h = joinF f (joinF g h) := by
  funext k
  rw [join_both (NN_join hf hg) hh, join_both hf (NN_join hg hh), join_some, join_some, val_join hf, val_join hg, Bool.or_assoc, Int.max_assoc]

theorem join_idem {f : Fn} (hf : NN f) : joinF f f = f := by
  funext k
  rw [join_both hf hf]
  cases h1 : f k with
  | none => rfl
  | some c => rw [val_some h1]; simp

/-- what a meet holds at a key: by the two values alone -/
theorem meet_by_val {f g : Fn} (hg : NN g) (k : Ky) : meetF f g k = if 0 < min (val f k) (val g k) then some (min (val f k) (val g k)) else none := by
  have b := val_nn hg k
  unfold meetF
  cases h1 : f k with
  | none =>
    rw [val_none h1, if_neg]
    omega
  | some c =>
    simp only [val_some h1, mn_min]

theorem meet_comm {f g : Fn} (hf : NN f) (hg : NN g) : meetF f g = meetF g f := by
  funext k
  rw [meet_by_val hg, meet_by_val hf, Int.min_comm]

theorem val_meet {f g : Fn} (hf : NN f) (hg : NN g) (k : Ky) : val (meetF f g) k = min (val f k) (val g k) := by
  have h1 := val_nn hf k
  have h2 := val_nn hg k
  by_cases h : 0 < min (val f k) (val g k)
  · rw [val_some (show meetF f g k = some (min (val f k) (val g k)) by rw [meet_by_val hg, if_pos h])]
  · rw [val_none (show meetF f g k = none by rw [meet_by_val hg, if_neg h])]; omega

theorem meet_assoc {f g h : Fn} (hf : NN f) (hg : NN g) (hh : NN h) : meetF (meetF f g) h = meetF f (meetF g h) := by
  funext k
  rw [meet_by_val hh, meet_by_val (NN_meet g h), val_meet hf hg, val_meet hg hh, Int.min_assoc]

theorem pos_by_val (f : Fn) (k : Ky) : posF f k = if 0 < val f k then some (val f k) else none := by
  unfold posF val
  cases h1 : f k with
  | none => rfl
  | some c => rfl

theorem meet_idem {f : Fn} (hf : NN f) : meetF f f = posF f := by
  funext k
  rw [meet_by_val hf, pos_by_val, Int.min_self]

theorem absorb_join {f g : Fn} (hf : NN f) (hg : NN g) : joinF f (meetF f g) = f := by
  funext k
  rw [join_both hf (NN_meet f g), val_meet hf hg]
  cases h1 : f k with
  | none =>
    have e : meetF f g k = none := by simp [meetF, h1]
    rw [e]; rfl
  | some c =>
    rw [val_some h1]
    have := hf k c h1
    simp only [Option.isSome_some, Bool.true_or, if_true, Option.some.injEq]; omega

theorem absorb_meet {f g : Fn} (hf : NN f) (hg : NN g) : meetF f (joinF f g) = posF f := by
  funext k
  rw [meet_by_val (NN_join hf hg), pos_by_val, val_join hf]
  have e : min (val f k) (max (val f k) (val g k)) = val f k := by omega
  rw [e]

theorem meet_some {f g : Fn} (hg : NN g) (k : Ky) : (meetF f g k).isSome = (decide (0 < val f k) && decide (0 < val g k)) := by
  rw [meet_by_val hg]
  by_cases h : 0 < min (val f k) (val g k)
  · rw [if_pos h]; simp; omega
  · rw [if_neg h]; simp only [Option.isSome_none]; symm; simp; omega

/-! ### a version built out of pairs -/
def mkF (ks : List Ky) (vs : List Int) : Nat → Fn
  | 0 => emp
  | i + 1 => upd (mkF ks vs i) (ks.getD i []) (vs.getD i 0)

theorem mkF_some (ks : List Ky) (vs : List Int) (n : Nat) (hn : n ≤ ks.length) (k : Ky) : (mkF ks vs n k).isSome = decide (k ∈ ks.take n) := by
  induction n with
  | zero => simp [mkF, emp]
  | succ n ih =>
    have ih := ih (by omega)
    rw [List.take_succ_eq_append_getElem (by omega)]
    simp only [mkF, upd]
    have e : ks.getD n [] = ks[n] := by simp [List.getD, List.getElem?_eq_getElem (show n < ks.length by omega)]
    rw [e]
    by_cases h : k = ks[n]
    · rw [if_pos h, h]; simp only [Option.isSome_some]; symm; rw [decide_eq_true_iff]; exact List.mem_append_right _ (List.mem_singleton.2 rfl)
    · rw [if_neg h, ih, decide_eq_decide, List.mem_append, List.mem_singleton]
      exact ⟨Or.inl, fun x => x.resolve_right h⟩

theorem mkF_nn {ks : List Ky} {vs : List Int} (h : ∀ c ∈ vs, 0 ≤ c) (n : Nat) : NN (mkF ks vs n) := by
  induction n with
  | zero => exact NN_emp
  | succ n ih =>
    refine NN_upd ih ?_
    by_cases hn : n < vs.length
    · rw [List.getD, List.getElem?_eq_getElem hn]; exact h _ (List.getElem_mem hn)
    · rw [List.getD, List.getElem?_eq_none (by omega)]; simp

/-! ### how many keys -/
def SizeIs (p : Ky → Bool) (m : Nat) : Prop := ∃ l : List Ky, l.Nodup ∧ (∀ k, k ∈ l ↔ p k = true) ∧ l.length = m

theorem SizeIs.uniq {p q : Ky → Bool} {m n : Nat} (h : SizeIs p m) (h' : SizeIs q n) (e : ∀ k, p k = q k) : m = n := by
  obtain ⟨l, hd, hm, rfl⟩ := h
  obtain ⟨l', hd', hm', rfl⟩ := h'
  exact ((List.perm_ext_iff_of_nodup hd hd').2 (fun k => by rw [hm, hm', e])).length_eq

end Go.Proofs.Qxb6000019a
