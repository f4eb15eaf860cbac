/-
  A value of type Version in memory, as a map from keys to optional numbers: 'VerAt'; the laws at the operations that touch it (look-up, store, len, range, the step), nil or not.
-/
import Derived.Test.Qxb6000019aRows
import Derived.Test.Qxb6000019aPlain
import Derived.WalkKit
import Derived.WalkSpells
import Derived.Maps.Ext
import Derived.Maps.RangeWalk
namespace Go.Proofs.Qxb6000019a
open Go.RowKit Go.Maps Go.WideMaps

theorem law9 : Keyed Try.prog 9 := string_keyed Try.underlying9
theorem zero36 (w : World) : (zeroValue 36).run Try.prog w = .ok (.int .u64 0) w := by kernel_rfl

/-- the key that a Go string is -/
def ky (s : ByteArray) : Ky := s.data.toList
theorem keyOf9 {s : ByteArray} (hs : s.size ≤ maxLen) : keyOf Try.prog 9 (.string s) = some (.string (ky s)) := keyOf_string_mk Try.underlying9 hs
theorem keyOf9_inv {key : Value} {kl : Lit} (h : keyOf Try.prog 9 key = some kl) : ∃ s : ByteArray, key = .string s ∧ kl = .string (ky s) ∧ s.size ≤ maxLen := by
  cases key <;> simp [keyOf, Try.underlying9, mapKey] at h
  rename_i s
  exact ⟨s, rfl, h.2.symm, h.1⟩

theorem isKey (k : Ky) : WideAt.IsKeyLit (.string k) := trivial
theorem same_ky (a b : Ky) : (Lit.string a).sameKey (.string b) = decide (a = b) := by
  show (a == b) = _
  by_cases h : a = b
  · simp [h]
  · simp [h]

theorem wf_u64 {c : Int} (h : (Lit.int .u64 c).wf = true) : 0 ≤ c ∧ c < 18446744073709551616 := by
  have e1 : IntKind.u64.min = 0 := by decide
  have e2 : IntKind.u64.max = 18446744073709551615 := by decide
  simp [Lit.wf, e1, e2] at h
  omega
theorem wf_mk {c : Int} (h0 : 0 ≤ c) (h1 : c < 18446744073709551616) : (Lit.int .u64 c).wf = true := by
  have e1 : IntKind.u64.min = 0 := by decide
  have e2 : IntKind.u64.max = 18446744073709551615 := by decide
  simp [Lit.wf, e1, e2]
  omega

/-- every value is a uint64's -/
def Wf (f : Fn) : Prop := ∀ k c, f k = some c → (Lit.int .u64 c).wf = true
theorem Wf.nn {f : Fn} (h : Wf f) : NN f := fun k c e => (wf_u64 (h k c e)).1
theorem wf_zero : (Lit.int .u64 0).wf = true := by decide
theorem Wf.val {f : Fn} (h : Wf f) (k : Ky) : (Lit.int .u64 (val f k)).wf = true := by
  cases hf : f k with
  | none => rw [val_none hf]; exact wf_zero
  | some c => rw [val_some hf]; exact h k c hf
theorem Wf_emp : Wf emp := fun _ _ h => by cases h
theorem Wf_upd {f : Fn} {k : Ky} {c : Int} (h : Wf f) (hc : (Lit.int .u64 c).wf = true) : Wf (upd f k c) := by
  intro x d hd
  unfold upd at hd
  split at hd
  · cases hd; exact hc
  · exact h x d hd

def Rep (D : DataW Unit) (f : Fn) : Prop :=
  (∀ k, Maps.has D k = true → ∃ l : Ky, k = .string l) ∧ (∀ l : Ky, Maps.has D (.string l) = (f l).isSome) ∧ (∀ (l : Ky) (c : Int), f l = some c → ∀ z, D.atKey (.string l) z = .lit (.int .u64 c)) ∧ Wf f

def VerIn (w : World) (b n : Nat) (f : Fn) : Prop := ∃ D, w.ownsMap Try.prog 9 (plainElem (H := Unit) Try.prog 36) b n D ∧ Rep D f
def VerAt (w : World) (v : Value) (n : Nat) (f : Fn) : Prop := (v = .map none ∧ f = emp) ∨ ∃ b, v = .map (some b) ∧ VerIn w b n f

theorem Rep_emp : Rep (.map []) emp := ⟨fun k h => by simp [Maps.has] at h, fun _ => rfl, fun l c h => by simp [emp] at h, Wf_emp⟩

theorem Rep_put {D : DataW Unit} {f : Fn} (h : Rep D f) (hm : IsMap D) (k : Ky) {c : Int} (hc : (Lit.int .u64 c).wf = true) : Rep (D.put (.string k) (.lit (.int .u64 c))) (upd f k c) := by
  obtain ⟨h1, h2, h3, h4⟩ := h
  refine ⟨fun x hx => ?_, fun l => ?_, fun l d hd z => ?_, Wf_upd h4 hc⟩
  · by_cases e : x = .string k
    · exact ⟨k, e⟩
    · rw [has_put_other e] at hx; exact h1 x hx
  · by_cases e : l = k
    · subst e
      rw [has_put_same hm (isKey l)]
      simp [upd]
    · rw [has_put_other (fun x => e (by injection x))]
      simp only [upd, if_neg e]
      exact h2 l
  · by_cases e : l = k
    · subst e
      rw [atKey_put_same hm (isKey l)]
      simp [upd] at hd
      rw [hd]
    · rw [atKey_put_other (fun x => e (by injection x))]
      simp only [upd, if_neg e] at hd
      exact h3 l d hd z

def litKy : Lit → Ky
  | .string b => b
  | _ => []

theorem nodup_keys : ∀ es : List (Lit × DataW Unit), es.Pairwise (fun p q => p.1 ≠ q.1) → (∀ q ∈ es, ∃ l : Ky, q.1 = .string l) → (es.map (fun q => litKy q.1)).Nodup
  | [], _, _ => List.nodup_nil
  | a :: r, hp, hs => by
    obtain ⟨h1, h2⟩ := List.pairwise_cons.1 hp
    rw [List.map_cons, List.nodup_cons]
    refine ⟨fun hm => ?_, nodup_keys r h2 (fun q hq => hs q (by simp [hq]))⟩
    obtain ⟨b, hb, e⟩ := List.mem_map.1 hm
    obtain ⟨la, ea⟩ := hs a (by simp)
    obtain ⟨lb, eb⟩ := hs b (by simp [hb])
    have hab := h1 b hb
    rw [ea, eb] at hab e
    exact hab (by rw [show lb = la from e])

/-- how many keys a map of strings has, whatever its elements -/
theorem size_keys {D : DataW Unit} {p : Ky → Bool} (hc : Canon D) (h1 : ∀ k, Maps.has D k = true → ∃ l : Ky, k = .string l) (h2 : ∀ l : Ky, Maps.has D (.string l) = p l) : SizeIs p (Maps.size D) := by
  obtain ⟨es, rfl, hp, hk⟩ := hc
  have hap := apart_of_rising hp
  have hs : ∀ q ∈ es, ∃ l : Ky, q.1 = .string l := fun q hq => h1 q.1 (List.any_eq_true.2 ⟨q, hq, WideAt.sameKey_self (hk q hq)⟩)
  refine ⟨es.map (fun q => litKy q.1), ?_, fun k => ?_, by simp [Maps.size]⟩
  · exact nodup_keys es hap hs
  · rw [← h2, List.mem_map]
    constructor
    · rintro ⟨q, hq, rfl⟩
      obtain ⟨l, e⟩ := hs q hq
      exact List.any_eq_true.2 ⟨q, hq, by rw [e]; exact WideAt.sameKey_self (isKey l)⟩
    · intro h
      obtain ⟨q, hq, e⟩ := List.any_eq_true.1 h
      exact ⟨q, hq, by rw [WideAt.sameKey_eq e]; rfl⟩

theorem VerIn.size {w : World} {b n : Nat} {f : Fn} (h : VerIn w b n f) : ∃ m : Nat, SizeIs (fun k => (f k).isSome) m ∧ m ≤ n ∧ ∀ ty, (Builtin.len_ #[29] ty #[.map (some b)]).run Try.prog w = .ok (.int .i64 m) w := by
  obtain ⟨D, hown, h1, h2, _, _⟩ := h
  exact ⟨Maps.size D, size_keys (hown.canon law9) h1 h2, hown.size_le, fun ty => hown.len Try.underlying29 ty⟩

theorem VerAt.size {w : World} {v : Value} {n : Nat} {f : Fn} (h : VerAt w v n f) : ∃ m : Nat, SizeIs (fun k => (f k).isSome) m ∧ m ≤ n ∧ ∀ ty, (Builtin.len_ #[29] ty #[v]).run Try.prog w = .ok (.int .i64 m) w := by
  rcases h with ⟨rfl, rfl⟩ | ⟨b, rfl, h⟩
  · exact ⟨0, ⟨[], List.nodup_nil, fun k => by simp [emp], rfl⟩, Nat.zero_le _, fun ty => Maps.len_nil Try.underlying29 ty⟩
  · exact h.size

theorem VerIn.wf {w : World} {b n : Nat} {f : Fn} (h : VerIn w b n f) : Wf f := h.elim fun _ h => h.2.2.2.2
theorem VerAt.wf {w : World} {v : Value} {n : Nat} {f : Fn} (h : VerAt w v n f) : Wf f := by
  rcases h with ⟨rfl, rfl⟩ | ⟨b, rfl, h⟩
  · exact Wf_emp
  · exact h.wf

theorem VerIn.at {w : World} {b n : Nat} {f : Fn} (h : VerIn w b n f) : VerAt w (.map (some b)) n f := Or.inr ⟨b, rfl, h⟩
theorem VerIn.lt {w : World} {b n : Nat} {f : Fn} (h : VerIn w b n f) : b < w.heap.size := h.elim fun _ h => h.1.lt
theorem VerIn.mono {w : World} {b n n' : Nat} {f : Fn} (h : VerIn w b n f) (hn : n ≤ n') : VerIn w b n' f := h.elim fun D h => ⟨D, h.1.mono hn, h.2⟩
theorem VerIn.kept {w w' : World} {b n : Nat} {f : Fn} {row : Option Nat} (h : VerIn w b n f) (hg : w.grownBy w' row) (hne : some b ≠ row) : VerIn w' b n f := h.elim fun D h => ⟨D, h.1.kept hg hne, h.2⟩
theorem VerAt.mono {w : World} {v : Value} {n n' : Nat} {f : Fn} (h : VerAt w v n f) (hn : n ≤ n') : VerAt w v n' f := by
  rcases h with h | ⟨b, rfl, h⟩
  · exact Or.inl h
  · exact (h.mono hn).at
/-- a value of the map's own block below B stays what it is while only blocks from B on turn -/
theorem below_grown {w w' : World} (h : Below w.heap.size w w') : w.grownBy w' none := ⟨h.os, h.tape, h.output, h.size, fun i hi _ => h.block i hi⟩
theorem VerIn.below {w w' : World} {b n : Nat} {f : Fn} (h : VerIn w b n f) (hb : Below w.heap.size w w') : VerIn w' b n f := h.kept (below_grown hb) (by simp)
theorem VerAt.below {w w' : World} {v : Value} {n : Nat} {f : Fn} (h : VerAt w v n f) (hb : Below w.heap.size w w') : VerAt w' v n f := by
  rcases h with h | ⟨b, rfl, h⟩
  · exact Or.inl h
  · exact (h.below hb).at

theorem VerIn.made (w : World) : VerIn (w.alloc (.map #[] 0)) w.heap.size 0 emp := ⟨.map [], World.ownsMap_made _ _ _ _, Rep_emp⟩

/-- 'm[k]' -/
theorem VerAt.look {w : World} {v : Value} {n : Nat} {f : Fn} (h : VerAt w v n f) {s : ByteArray} (hs : s.size ≤ maxLen) (c : Bool) :
    (Instr.lookup 29 v (.string s) c).run Try.prog w = .ok (if c then .tuple #[.int .u64 (val f (ky s)), .bool (f (ky s)).isSome] else .int .u64 (val f (ky s))) w := by
  rcases h with ⟨rfl, rfl⟩ | ⟨b, rfl, D, hown, h1, h2, h3, h4⟩
  · exact Maps.look_nil c law9 Try.underlying29 (zero36 _) (keyOf9 hs)
  · have hat : D.atKey (.string (ky s)) (.lit (.int .u64 0)) = .lit (.int .u64 (val f (ky s))) := by
      cases hf : f (ky s) with
      | none => rw [val_none hf]; exact atKey_of_not_has (by rw [h2, hf]; rfl) _
      | some d => rw [val_some hf]; exact h3 _ _ hf _
    cases c with
    | false =>
      obtain ⟨d, hrun, hd, _⟩ := hown.lookup_int law9 Try.underlying29 Try.underlying36 (zero36 _) (keyOf9 hs)
      rw [hat] at hd
      simp only [DataW.lit.injEq, Lit.int.injEq, true_and] at hd
      rw [hrun, hd]; rfl
    | true =>
      obtain ⟨u, ps, hrun, hu⟩ := hown.look_ok law9 Try.underlying29 (zero36 _) (plainElem_int Try.underlying36 wf_zero) (keyOf9 hs)
      obtain ⟨d, rfl, hd, _⟩ := plainElem_int_inv Try.underlying36 hu
      simp only [Prod.mk.injEq, hat, DataW.lit.injEq, Lit.int.injEq, true_and] at hd
      rw [hrun, h2, ← hd.1]; rfl

/-- 'm[k] = c' -/
theorem VerIn.put {w : World} {b n : Nat} {f : Fn} (h : VerIn w b n f) (hn : n < maxLen) {s : ByteArray} (hs : s.size ≤ maxLen) {c : Int} (hc : (Lit.int .u64 c).wf = true) :
    ∃ w', (Instr.mapUpdate 29 (.map (some b)) (.string s) (.int .u64 c)).run Try.prog w = .ok () w' ∧ VerIn w' b (n + 1) (upd f (ky s) c) ∧ w.grownBy w' (some b) := by
  obtain ⟨D, hown, hr⟩ := h
  obtain ⟨w', hrun, h1, h2⟩ := hown.update law9 Try.underlying29 hn (keyOf9 hs) (plainElem_int (H := Unit) Try.underlying36 hc)
  exact ⟨w', hrun, ⟨_, h1, Rep_put hr hown.isMap _ hc⟩, h2⟩

/-! ### a range under way -/
def RangeV (w : World) (v : Value) (r n : Nat) (f : Fn) (left : Ky → Bool) (cnt : Nat) : Prop :=
  (v = .map none ∧ f = emp ∧ (∀ k, left k = false) ∧ cnt = 0 ∧ w.heap[r]? = some (.mapIter none 0 #[] 0)) ∨
  ∃ b D lft, v = .map (some b) ∧ w.ranges Try.prog 9 (plainElem (H := Unit) Try.prog 36) b r n D lft cnt ∧ Rep D f ∧ ∀ l : Ky, left l = lft (.string l)

def leftV (w : World) (v : Value) (r : Nat) : Nat := match v with
  | .map (some b) => w.rangeLeft b r
  | _ => 0

theorem RangeV.left_eq {w : World} {v : Value} {r n : Nat} {f : Fn} {left : Ky → Bool} {cnt : Nat} (h : RangeV w v r n f left cnt) : leftV w v r = cnt := by
  rcases h with ⟨rfl, _, _, rfl, _⟩ | ⟨b, D, lft, rfl, h, _⟩
  · rfl
  · exact h.left_eq
theorem RangeV.at {w : World} {v : Value} {r n : Nat} {f : Fn} {left : Ky → Bool} {cnt : Nat} (h : RangeV w v r n f left cnt) : VerAt w v n f := by
  rcases h with ⟨rfl, rfl, _⟩ | ⟨b, D, lft, rfl, h, hr, _⟩
  · exact Or.inl ⟨rfl, rfl⟩
  · exact Or.inr ⟨b, rfl, D, h.owns, hr⟩
theorem RangeV.lt {w : World} {v : Value} {r n : Nat} {f : Fn} {left : Ky → Bool} {cnt : Nat} (h : RangeV w v r n f left cnt) : r < w.heap.size := by
  rcases h with ⟨_, _, _, _, h⟩ | ⟨b, D, lft, rfl, h, hr, _⟩
  · exact (Array.getElem?_eq_some_iff.1 h).1
  · exact h.lt
/-- .. while another block than the map's and the iterator's is written -/
theorem RangeV.kept {w w' : World} {v : Value} {r n B : Nat} {f : Fn} {left : Ky → Bool} {cnt : Nat} {row : Option Nat} (h : RangeV w v r n f left cnt) (hg : w.grownBy w' row)
    (hrow : row = none ∨ row = some B) (hr : r ≠ B) (hb : ∀ b, v = .map (some b) → b ≠ B) : RangeV w' v r n f left cnt := by
  have hlt := h.lt
  rcases h with ⟨rfl, rfl, h1, h2, h3⟩ | ⟨b, D, lft, rfl, h, hrep, hl⟩
  · refine Or.inl ⟨rfl, rfl, h1, h2, ?_⟩
    rw [hg.block r hlt (by rcases hrow with rfl | rfl <;> simp [hr])]; exact h3
  · exact Or.inr ⟨b, D, lft, rfl, h.kept hg (by rcases hrow with rfl | rfl <;> simp [hb b rfl]) (by rcases hrow with rfl | rfl <;> simp [hr]), hrep, hl⟩

theorem VerAt.range {w : World} {v : Value} {n : Nat} {f : Fn} (h : VerAt w v n f) :
    ∃ w' cnt, (Instr.range 29 v).run Try.prog w = .ok (.pointer (some ⟨w.heap.size, 0, none⟩)) w' ∧ RangeV w' v w.heap.size n f (fun k => (f k).isSome) cnt ∧ cnt ≤ n ∧ w.grownBy w' none ∧ w'.heap.size = w.heap.size + 1 := by
  rcases h with ⟨rfl, rfl⟩ | ⟨b, rfl, D, hown, hr⟩
  · exact ⟨_, 0, run_range_nilMap w 29 9 36 Try.underlying29, Or.inl ⟨rfl, rfl, fun _ => rfl, rfl, (MapKept.heap_alloc w _).1⟩, Nat.zero_le _, World.grownBy_alloc w _ none, by simp⟩
  · obtain ⟨w', hrun, h1, h2, h3⟩ := hown.range law9 Try.underlying29
    exact ⟨w', Maps.size D, hrun, Or.inr ⟨b, D, _, rfl, h1, hr, fun l => (hr.2.1 l).symm⟩, hown.size_le, h2, h3⟩

theorem run_next_none (w : World) (ty : TypeId) (r : Nat) (h : w.heap[r]? = some (.mapIter none 0 #[] 0)) : (Instr.next (.pointer (some ⟨r, 0, none⟩)) false ty).run Try.prog w = .ok (.tuple #[.bool false]) w := by
  simp only [Instr.next, getObj, Sem.run_bind, Sem.run, h, Result.andThen]
  rfl

theorem RangeV.next {w : World} {v : Value} {r n : Nat} {f : Fn} {left : Ky → Bool} {cnt : Nat} (h : RangeV w v r n f left cnt) (ty : TypeId) :
    ((∀ k, left k = false) ∧ (Instr.next (.pointer (some ⟨r, 0, none⟩)) false ty).run Try.prog w = .ok (.tuple #[.bool false]) w) ∨
    ∃ (s : ByteArray) (c : Int) (w' : World) (cnt' : Nat), s.size ≤ maxLen ∧ left (ky s) = true ∧ f (ky s) = some c ∧ (Lit.int .u64 c).wf = true ∧
      (Instr.next (.pointer (some ⟨r, 0, none⟩)) false ty).run Try.prog w = .ok (.tuple #[.bool true, .string s, .int .u64 c]) w' ∧
      RangeV w' v r n f (fun k => left k && !decide (k = ky s)) cnt' ∧ cnt' < cnt ∧ w.grownBy w' (some r) ∧ w'.heap.size = w.heap.size ∧
      (Instr.entry (.pointer (some ⟨r, 0, none⟩))).run Try.prog w' = .ok (.tuple #[.string s, .int .u64 c]) w' := by
  rcases h with ⟨rfl, rfl, h1, h2, h3⟩ | ⟨b, D, lft, rfl, h, hrep, hl⟩
  · exact Or.inl ⟨h1, run_next_none w ty r h3⟩
  · rcases h.next law9 ty with ⟨h0, hl0, hrun⟩ | ⟨key, u, kl, y, w', cnt', hkey, hlk, hv, hat, hrun, hrg, hlt, hgr, hsz, hen⟩
    · exact Or.inl ⟨fun k => by rw [hl]; exact hl0 _, hrun⟩
    · obtain ⟨s, rfl, rfl, hs⟩ := keyOf9_inv hkey
      obtain ⟨c, rfl, rfl, hc⟩ := plainElem_int_inv Try.underlying36 hv
      have hsome : (f (ky s)).isSome = true := by rw [← hrep.2.1, has_true_of_atKey hat]
      obtain ⟨d, hd⟩ := Option.isSome_iff_exists.1 hsome
      have hdc : d = c := by
        have := hrep.2.2.1 _ _ hd (.nil)
        rw [hat] at this
        simp only [DataW.lit.injEq, Lit.int.injEq, true_and] at this
        exact this.symm
      refine Or.inr ⟨s, c, w', cnt', hs, by rw [hl]; exact hlk, by rw [hd, hdc], hc, hrun, Or.inr ⟨b, D, _, rfl, hrg, hrep, fun l => ?_⟩, hlt, hgr, hsz, hen⟩
      simp only [hl, same_ky]

/-! ### at the operations, for the walk -/
section
variable (w : World) {ops : Array Oper} {rest : List Oper} {o : Oper} {a : Act} {Q : Exit → Act → World → Prop}

theorem wp_look (hg : o.guard = none) (m x : Operand) (hop : o.op = Op.lookup 29 m x false) (v : Value) (n : Nat) (f : Fn) (hm : a.eval m = v) (h : VerAt w v n f) (s : ByteArray) (hx : a.eval x = .string s) (hs : s.size ≤ maxLen)
    (hK : wpList Try.prog ops Q rest (a.put o.dst (.int .u64 (val f (ky s)))) w) : wpList Try.prog ops Q (o :: rest) a w := by
  refine wpList_plain hg fun K' hK' => ?_
  unfold Oper.wp
  simp [execOp, hop, hm, hx, h.look hs false, Result.andThen]
  exact hK' _ _ hK

theorem wp_lookok (hg : o.guard = none) (m x : Operand) (hop : o.op = Op.lookup 29 m x true) (v : Value) (n : Nat) (f : Fn) (hm : a.eval m = v) (h : VerAt w v n f) (s : ByteArray) (hx : a.eval x = .string s) (hs : s.size ≤ maxLen)
    (hK : wpList Try.prog ops Q rest (a.put o.dst (.tuple #[.int .u64 (val f (ky s)), .bool (f (ky s)).isSome])) w) : wpList Try.prog ops Q (o :: rest) a w := by
  refine wpList_plain hg fun K' hK' => ?_
  unfold Oper.wp
  simp [execOp, hop, hm, hx, h.look hs true, Result.andThen]
  exact hK' _ _ hK

theorem wp_put (hg : o.guard = none) (m x y : Operand) (hop : o.op = Op.mapUpdate 29 m x y) (b n : Nat) (f : Fn) (hm : a.eval m = .map (some b)) (h : VerIn w b n f) (hn : n < maxLen) (s : ByteArray) (hx : a.eval x = .string s) (hs : s.size ≤ maxLen)
    (c : Int) (hy : a.eval y = .int .u64 c) (hc : (Lit.int .u64 c).wf = true)
    (hK : ∀ w', VerIn w' b (n + 1) (upd f (ky s) c) → w.grownBy w' (some b) → wpList Try.prog ops Q rest (a.put o.dst undef) w') : wpList Try.prog ops Q (o :: rest) a w := by
  refine wpList_plain hg fun K' hK' => ?_
  obtain ⟨w', hrun, r1, r2⟩ := h.put hn hs hc
  unfold Oper.wp
  simp [execOp, hop, hm, hx, hy, hrun, Result.andThen]
  exact hK' _ _ (hK w' r1 r2)

theorem wp_range (hg : o.guard = none) (m : Operand) (hop : o.op = Op.range 29 m) (v : Value) (n : Nat) (f : Fn) (hm : a.eval m = v) (h : VerAt w v n f)
    (hK : ∀ w' cnt, RangeV w' v w.heap.size n f (fun k => (f k).isSome) cnt → cnt ≤ n → w.grownBy w' none → w'.heap.size = w.heap.size + 1 → wpList Try.prog ops Q rest (a.put o.dst (.pointer (some ⟨w.heap.size, 0, none⟩))) w') :
    wpList Try.prog ops Q (o :: rest) a w := by
  refine wpList_plain hg fun K' hK' => ?_
  obtain ⟨w', cnt, hrun, r1, r2, r3, r4⟩ := h.range
  unfold Oper.wp
  simp [execOp, hop, hm, hrun, Result.andThen]
  exact hK' _ _ (hK w' cnt r1 r2 r3 r4)

theorem wp_next (hg : o.guard = none) (it : Operand) (hop : o.op = Op.next it false) (v : Value) (r n : Nat) (f : Fn) (left : Ky → Bool) (cnt : Nat) (hit : a.eval it = .pointer (some ⟨r, 0, none⟩)) (h : RangeV w v r n f left cnt)
    (hDone : (∀ k, left k = false) → wpList Try.prog ops Q rest (a.put o.dst (.tuple #[.bool false])) w)
    (hMore : ∀ (s : ByteArray) (c : Int) (w' : World) (cnt' : Nat), s.size ≤ maxLen → left (ky s) = true → f (ky s) = some c → (Lit.int .u64 c).wf = true → RangeV w' v r n f (fun k => left k && !decide (k = ky s)) cnt' → cnt' < cnt →
      w.grownBy w' (some r) → w'.heap.size = w.heap.size → (Instr.entry (.pointer (some ⟨r, 0, none⟩))).run Try.prog w' = .ok (.tuple #[.string s, .int .u64 c]) w' → wpList Try.prog ops Q rest (a.put o.dst (.tuple #[.bool true, .string s, .int .u64 c])) w') :
    wpList Try.prog ops Q (o :: rest) a w := by
  refine wpList_plain hg fun K' hK' => ?_
  unfold Oper.wp
  rcases h.next o.type with ⟨hl, hrun⟩ | ⟨s, c, w', cnt', hs, hlk, hf, hc, hrun, hrg, hlt, hgr, hsz, hen⟩
  · simp [execOp, hop, hit, hrun, Result.andThen]
    exact hK' _ _ (hDone hl)
  · simp [execOp, hop, hit, hrun, Result.andThen]
    exact hK' _ _ (hMore s c w' cnt' hs hlk hf hc hrg hlt hgr hsz hen)

theorem wp_len (hg : o.guard = none) (m : Operand) (hop : o.op = Op.call { callee := Callee.builtin Builtin.len, args := #[m], argTypes := #[29] }) (v : Value) (n : Nat) (f : Fn) (hm : a.eval m = v) (h : VerAt w v n f)
    (hK : ∀ k : Nat, SizeIs (fun k => (f k).isSome) k → k ≤ n → wpList Try.prog ops Q rest (a.put o.dst (.int .i64 k)) w) : wpList Try.prog ops Q (o :: rest) a w := by
  refine wpList_plain hg fun K' hK' => ?_
  obtain ⟨k, h1, h2, hrun⟩ := h.size
  unfold Oper.wp
  simp [execOp, hop, resolve, invoke, builtin, hm, hrun, Result.andThen]
  exact hK' _ _ (hK k h1 h2)
end

end Go.Proofs.Qxb6000019a
