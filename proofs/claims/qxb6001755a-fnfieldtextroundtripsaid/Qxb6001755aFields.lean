/-
  The walks of fieldsOf, fieldText, textOf.
-/
import Derived.Test.Qxb6001755aLens
import Derived.Test.Qxb6001755aShelf
namespace Go.Proofs.Qxb6001755a
open Go.RowKit

theorem Try.info52 : (Try.prog.info? 52).map (fun i => (i.zero, i.size, i.bytes)) = some (some (.agg #[.string ByteArray.empty, .string ByteArray.empty]), 2, 32) := by kernel_rfl

theorem made35 (n : Nat) (h : n ≤ 131072) : ∃ z : Array Value, ∀ W : World, (Instr.makeSlice 35 (.int .i64 (n : Int)) (.int .i64 (n : Int))).run Try.prog W = .ok (.slice (some ⟨W.heap.size, 0, none⟩) n n) (W.alloc (.cells (madeCells z (n * 2)) 52)) := by
  obtain ⟨i, hi, hz0, hz1, hz2⟩ := info_parts Try.info52
  refine ⟨(Value.agg #[.string ByteArray.empty, .string ByteArray.empty]).cells, fun W => ?_⟩
  have := run_make (P := Try.prog) W 35 52 i _ Try.underlying35 hi hz0 .i64 .i64 n n (by omega) (by omega) (by rw [hz2]; omega) (by omega)
  rw [hz1] at this
  simpa using this

theorem idx35 (a : Addr) (len cap k : Nat) (hk : k < len) (W : World) : (Instr.indexAt 35 (.slice (some a) len cap) (.int .i64 (k : Int))).run Try.prog W = .ok (.pointer (some (a.add (k * 2)))) W := by
  have hs : ∀ W, (sizeOf (Try.prog.elem 35)).run Try.prog W = .ok 2 W := fun W => by kernel_rfl
  rw [run_indexAt_slice W 35 a len cap .i64 k (by kernel_rfl), if_pos (by omega), hs]
  simp [Result.andThen]

/-- the cells of the fields from 'f' on -/
def fC (ns vs : List ByteArray) (f j : Nat) : Value := match j % 2 with
  | 0 => .string (ns.getD (f + j / 2) ByteArray.empty)
  | _ => .string (vs.getD (f + j / 2) ByteArray.empty)
theorem fC0 (ns vs : List ByteArray) (f k : Nat) : fC ns vs f (k * 2) = .string (ns.getD (f + k) ByteArray.empty) := by
  have h1 : (k * 2) % 2 = 0 := by omega
  have h2 : (k * 2) / 2 = k := by omega
  simp only [fC, h1, h2]
theorem fC1 (ns vs : List ByteArray) (f k : Nat) : fC ns vs f (k * 2 + 1) = .string (vs.getD (f + k) ByteArray.empty) := by
  have h1 : (k * 2 + 1) % 2 = 1 := by omega
  have h2 : (k * 2 + 1) / 2 = k := by omega
  simp only [fC, h1, h2]

theorem Filled.below {w w' : World} {B n k : Nat} {g : Nat → Value} (h : Filled w B n k g) (hb : Below w.heap.size w w') : Filled w' B n k g := by
  obtain ⟨h1, h2, h3, h4⟩ := h
  exact ⟨fun j hj => by rw [hb.cell (by exact h4)]; exact h1 j hj, fun j hj => by rw [hb.frozen (by exact h4)]; exact h2 j hj, fun j hj => by rw [hb.cell (by exact h4)]; exact h3 j hj, Nat.lt_of_lt_of_le h4 hb.size⟩

set_option maxRecDepth 100000 in
set_option maxHeartbeats 1000000 in
theorem fields_any (a0 a1 : Option Addr) (ns vs : List ByteArray) (c0 c1 f d : Nat) (t : Int) (w : World) (h0 : StrsAt w a0 ns) (h1 : StrsAt w a1 vs) (k0 : f + d ≤ ns.length) (k1 : f + d ≤ vs.length) (hn : f + d ≤ 131072) (ht : t = ((f + d : Nat) : Int)) :
    Calls Try.prog 24 #[.slice a0 ns.length c0, .slice a1 vs.length c1, .int .i64 (f : Int), .int .i64 t] w fun e w' =>
      e = .returned (.slice (some ⟨w.heap.size, 0, none⟩) d d) ∧ Filled w' w.heap.size (d * 2) (d * 2) (fC ns vs f) ∧ Below w.heap.size w w' := by
  obtain ⟨z, hmk0⟩ := made35 d (by omega)
  have hmk : ∀ W : World, (Instr.makeSlice 35 (.int .i64 (t - (f : Int))) (.int .i64 (t - (f : Int)))).run Try.prog W = .ok (.slice (some ⟨W.heap.size, 0, none⟩) d d) (W.alloc (.cells (madeCells z (d * 2)) 52)) := by
    rw [show t - (f : Int) = (d : Int) by omega]; exact hmk0
  have ht1 : 0 ≤ t := by omega
  have ht2 : t ≤ 131072 := by omega
  have HT : Hid (t = ((f + d : Nat) : Int)) := ht
  clear ht hmk0
  go_enter Try.func24, Try.ntmps24
  go_wp2
  go_loopw [10] (fun i wr => ∃ k : Nat, k ≤ d ∧ i = .int .i64 ((f : Int) + (k : Int)) ∧ Filled wr w.heap.size (d * 2) (k * 2) (fC ns vs f) ∧ Below w.heap.size w wr) (fun i _ => (t - intOf i).toNat)
  case atStart => exact ⟨0, Nat.zero_le _, by simp, by rw [Nat.zero_mul]; exact Filled.made _ _ _ _ _, (Below.refl _ _).alloc (Nat.le_refl _) _⟩
  case round =>
    obtain ⟨k, hk, rfl, hfill, hbel⟩ := hrel
    clear hmk
    by_cases hlt : k < d
    · obtain ⟨b0, o0, s, hb0, hidx0, hcell0', _, hs⟩ := h0.idx (k := f + k) (by omega) c0
      obtain ⟨b1, o1, v, hb1, hidx1, hcell1', _, hv⟩ := h1.idx (k := f + k) (by omega) c1
      have hcell0 : wr.cell? ⟨b0, o0, none⟩ = some (.string s) := by rw [hbel.cell (by exact hb0)]; exact hcell0'
      have hcell1 : wr.cell? ⟨b1, o1, none⟩ = some (.string v) := by rw [hbel.cell (by exact hb1)]; exact hcell1'
      obtain ⟨v0, e0⟩ := hfill.1 (k * 2) (by omega)
      obtain ⟨v1, e1⟩ := hfill.1 (k * 2 + 1) (by omega)
      have z0 := hfill.2.1 (k * 2) (by omega)
      have z1 := hfill.2.1 (k * 2 + 1) (by omega)
      have hltt : (f : Int) + (k : Int) < t := by have := HT.out; omega
      have hidx : ∀ W : World, (Instr.indexAt 35 (.slice (some ⟨w.heap.size, 0, none⟩) d d) (.int .i64 (k : Int))).run Try.prog W = .ok (.pointer (some ⟨w.heap.size, k * 2, none⟩)) W := fun W => by rw [idx35 _ _ _ _ hlt]; simp [Addr.add_lit]
      have F := (hfill.step (by omega) (v := .string s) (by rw [fC0, hs.out])).step (by omega) (v := .string v) (by rw [fC1, hv.out])
      have B := (hbel.setCell (p := ⟨w.heap.size, k * 2, none⟩) (Nat.le_refl _) (.string s)).setCell (p := ⟨w.heap.size, k * 2 + 1, none⟩) (Nat.le_refl _) (.string v)
      have hidxB : ∀ W : World, (Instr.indexAt 35 (.slice (some ⟨w.heap.size, 0, none⟩) d d) (.int .i64 ((f : Int) + (k : Int) - (f : Int)))).run Try.prog W = .ok (.pointer (some ⟨w.heap.size, k * 2, none⟩)) W := by
        rw [show (f : Int) + (k : Int) - (f : Int) = (k : Int) by omega]; exact hidx
      simp only [Int.natCast_add] at hidx0 hidx1
      clear h0 h1 hb0 hb1 hcell0' hcell1' hs hv hfill hbel
      go_wp2
      go_region
      all_goals
        go_wp2
        go_roundw
        case rel => exact ⟨k + 1, by omega, by go_num, by rw [show (k + 1) * 2 = k * 2 + 1 + 1 by omega]; exact F, B.drew⟩
        case measure => simp [intOf]; omega
    · have hkl : k = d := by omega
      subst hkl
      have hlt' : ¬ (f : Int) + (k : Int) < t := by have := HT.out; omega
      go_wp2
      go_ret
      exact ⟨rfl, hfill, hbel⟩

/-- a field's word -/
def word (s v : ByteArray) : ByteArray := s ++ ⟨#[61]⟩ ++ v
/-- the words of the fields from 'f' on -/
def wC (ns vs : List ByteArray) (f j : Nat) : ByteArray := word (ns.getD (f + j) ByteArray.empty) (vs.getD (f + j) ByteArray.empty)

theorem Filled.other {wr : World} {B n k : Nat} {g : Nat → Value} (h : Filled wr B n k g) {a : Addr} (ha : a.block ≠ B) (v : Value) : Filled (wr.setCell a v) B n k g := by
  obtain ⟨h1, h2, h3, h4⟩ := h
  have e : ∀ j, (wr.setCell a v).cell? ⟨B, j, none⟩ = wr.cell? ⟨B, j, none⟩ := fun j => World.cell?_setCell_other _ _ _ _ (by intro h; rw [h] at ha; exact ha rfl)
  exact ⟨fun j hj => by rw [e]; exact h1 j hj, fun j hj => by rw [World.frozen?_setCell]; exact h2 j hj, fun j hj => by rw [e]; exact h3 j hj, by simpa using h4⟩

theorem joinTail_len (sep : List UInt8) (m : Nat) : ∀ r : List (List UInt8), (∀ x ∈ r, x.length ≤ m) → (Lib.joinTail sep r).length ≤ r.length * (sep.length + m)
  | [], _ => by simp [Lib.joinTail]
  | x :: r, h => by
    have ih := joinTail_len sep m r (fun y hy => h y (by simp [hy]))
    have hx := h x (by simp)
    simp only [Lib.joinTail, List.map_cons, List.flatten_cons, List.length_append, List.length_cons] at ih ⊢
    rw [Nat.add_mul]
    omega
theorem join_len (sep : List UInt8) (m : Nat) (xs : List (List UInt8)) (h : ∀ x ∈ xs, x.length ≤ m) : (Lib.join xs sep).length ≤ xs.length * (sep.length + m) := by
  cases xs with
  | nil => simp [Lib.join_nil]
  | cons x r =>
    have ih := joinTail_len sep m r (fun y hy => h y (by simp [hy]))
    have hx := h x (by simp)
    rw [Lib.join_cons, List.length_append, List.length_cons, Nat.add_mul]
    omega

/-- the text of the n fields from 'f' on -/
def textL (ns vs : List ByteArray) (f n : Nat) : List UInt8 := Lib.join ((List.range n).map (fun j => (wC ns vs f j).data.toList)) [32]
def RetT (l : List UInt8) (e : Ending) : Prop := e = .returned (.string ⟨l.toArray⟩)
/-- the first n names and values from 'f' on are short -/
def Short (ns vs : List ByteArray) (f n : Nat) : Prop := ∀ j, j < n → (ns.getD (f + j) ByteArray.empty).size ≤ 1048576 ∧ (vs.getD (f + j) ByteArray.empty).size ≤ 1048576

theorem word_size (a b : ByteArray) : (word a b).data.toList = a.data.toList ++ 61 :: b.data.toList := by
  simp [word, ByteArray.data_append]

theorem text_len {ns vs : List ByteArray} {f n : Nat} (h : Short ns vs f n) (hn : n ≤ 131072) : (textL ns vs f n).length ≤ 140737488355328 := by
  have := join_len [32] 2097153 ((List.range n).map (fun j => (wC ns vs f j).data.toList)) (by
    intro x hx
    obtain ⟨j, hj, rfl⟩ := List.mem_map.1 hx
    have := h j (by simpa using hj)
    unfold wC
    rw [word_size]
    have e1 : (ns.getD (f + j) ByteArray.empty).data.toList.length = (ns.getD (f + j) ByteArray.empty).size := rfl
    have e2 : (vs.getD (f + j) ByteArray.empty).data.toList.length = (vs.getD (f + j) ByteArray.empty).size := rfl
    rw [List.length_append, List.length_cons, e1, e2]
    omega)
  unfold textL
  simp only [List.length_map, List.length_range, List.length_cons, List.length_nil] at this
  omega

set_option maxRecDepth 100000 in
set_option maxHeartbeats 1000000 in
theorem ftext_any (B n f : Nat) (ns vs : List ByteArray) (q y m d : Int) (s : ByteArray) (w : World) (hf : Filled w B (n * 2) (n * 2) (fC ns vs f)) (hn : n ≤ 131072) (hsh : Short ns vs f n) :
    Calls Try.prog 31 #[.agg #[.int .i64 q, .int .i64 y, .int .i64 m, .int .i64 d, .string s, .slice (some ⟨B, 0, none⟩) n n]] w fun e w' => RetT (textL ns vs f n) e ∧ Below w.heap.size w w' := by
  obtain ⟨z, hmk⟩ := made38 n hn
  go_enter Try.func31, Try.ntmps31
  go_wp2
  clear hmk
  go_loopw [13] (fun i wr => ∃ k : Nat, k ≤ n ∧ i = .int .i64 k ∧ Filled wr (w.heap.size + 1) n k (fun j => .string (wC ns vs f j)) ∧ Below w.heap.size w wr) (fun i _ => n - (intOf i).toNat)
  case atStart =>
    refine ⟨0, Nat.zero_le _, rfl, ?_, ((Below.refl _ _).alloc (Nat.le_refl _) _).alloc (by simp) _⟩
    have := Filled.made (w.alloc (.cells #[.int .i64 q, .int .i64 y, .int .i64 m, .int .i64 d, .string s, .slice (some ⟨B, 0, none⟩) n n] 37)) z n 9 (fun j => .string (wC ns vs f j))
    have e : (w.alloc (.cells #[.int .i64 q, .int .i64 y, .int .i64 m, .int .i64 d, .string s, .slice (some ⟨B, 0, none⟩) n n] 37)).heap.size = w.heap.size + 1 := by simp
    rw [e] at this
    exact this
  case round =>
    obtain ⟨k, hk, rfl, hfill, hbel⟩ := hrel
    by_cases hlt : k < n
    · have f0 := hf.below hbel
      have e0 := f0.2.2.1 (k * 2) (by omega)
      have e1 := f0.2.2.1 (k * 2 + 1) (by omega)
      rw [fC0] at e0
      rw [fC1] at e1
      obtain ⟨ha, hb⟩ := hsh k hlt
      have hw : Hid (wC ns vs f k = word (ns.getD (f + k) ByteArray.empty) (vs.getD (f + k) ByteArray.empty)) := rfl
      generalize ns.getD (f + k) ByteArray.empty = a at e0 hw ha
      generalize vs.getD (f + k) ByteArray.empty = b at e1 hw hb
      have hidx : ∀ W : World, (Instr.indexAt 35 (.slice (some ⟨B, 0, none⟩) n n) (.int .i64 (k : Int))).run Try.prog W = .ok (.pointer (some ⟨B, k * 2, none⟩)) W := fun W => by rw [idx35 _ _ _ _ hlt]; simp [Addr.add_lit]
      have hidx2 : ∀ W : World, (Instr.indexAt 38 (.slice (some ⟨w.heap.size + 1, 0, none⟩) n n) (.int .i64 (k : Int))).run Try.prog W = .ok (.pointer (some ⟨w.heap.size + 1, k, none⟩)) W := fun W => by rw [idx38 _ _ _ _ hlt]; simp [Addr.add_lit]
      obtain ⟨v0, p0⟩ := hfill.1 k hlt
      have z0 := hfill.2.1 k hlt
      have g1 : w.heap.size + 1 < wr.heap.size := hfill.2.2.2
      have F : Filled ((wr.setCell ⟨w.heap.size + 1, k, none⟩ (.string (a ++ ⟨#[61]⟩ ++ b))).alloc (.cells #[.string a, .string b] 52)) (w.heap.size + 1) n (k + 1) (fun j => .string (wC ns vs f j)) := (hfill.step hlt (by show Value.string _ = Value.string _; rw [hw.out]; rfl)).below ((Below.refl _ _).alloc (Nat.le_refl _) _)
      have Bl : Below w.heap.size w ((wr.setCell ⟨w.heap.size + 1, k, none⟩ (.string (a ++ ⟨#[61]⟩ ++ b))).alloc (.cells #[.string a, .string b] 52)) := (hbel.setCell (Nat.le_succ _) _).alloc (by simp; omega) _
      clear hfill hbel f0 hf hsh hw
      go_wp2
      go_roundw
      case rel => exact ⟨k + 1, by omega, by go_num, F, Bl⟩
      case measure => simp [intOf]; omega
    · have hkl : k = n := by omega
      subst hkl
      have hc := Try.strings_Join (w.heap.size + 1) 0 k ((List.range k).map (wC ns vs f)) ⟨#[32]⟩ wr (by
        intro j x hx
        rw [List.getElem?_map] at hx
        rw [Nat.zero_add]
        by_cases hj : j < k
        · rw [List.getElem?_range hj] at hx
          simp only [Option.map_some, Option.some.injEq] at hx
          rw [← hx]
          exact hfill.2.2.1 j hj
        · rw [List.getElem?_eq_none (by simpa using hj)] at hx
          cases hx) hfill.2.2.2 (by simp; omega) (by simp) (by
          have := text_len hsh hn
          unfold textL at this
          rw [List.map_map]
          exact this)
      rw [List.length_map, List.length_range] at hc
      go_wp2_with fail
      refine hc.mono ?_
      rintro e w1 ⟨rfl, hb1⟩
      have Bl : Below w.heap.size w w1 := hbel.trans (hb1.mono hbel.size)
      clear hc hfill hf hsh
      go_wp2_with fail
      go_ret
      exact ⟨by unfold RetT textL; exact rfl, Bl⟩

set_option maxRecDepth 100000 in
set_option maxHeartbeats 1000000 in
theorem zztext_any (B n f : Nat) (ns vs : List ByteArray) (q y m d : Int) (s : ByteArray) (w : World) (hf : Filled w B (n * 2) (n * 2) (fC ns vs f)) (hn : n ≤ 131072) (hsh : Short ns vs f n) :
    Calls Try.prog 29 #[.agg #[.int .i64 q, .int .i64 y, .int .i64 m, .int .i64 d, .string s, .slice (some ⟨B, 0, none⟩) n n]] w fun e w' => RetT (textL ns vs f n) e ∧ Below w.heap.size w w' := by
  have b0 : Below w.heap.size w (w.alloc (.cells #[.int .i64 q, .int .i64 y, .int .i64 m, .int .i64 d, .string s, .slice (some ⟨B, 0, none⟩) n n] 37)) := (Below.refl _ _).alloc (Nat.le_refl _) _
  have hf1 := hf.below b0
  go_enter Try.func29, Try.ntmps29
  go_wp2_with fail
  refine (ftext_any B n f ns vs q y m d s _ hf1 hn hsh).mono ?_
  rintro e w1 ⟨he, hb1⟩
  unfold RetT at he
  subst he
  have b1 := Below.next b0 hb1
  clear hf hf1 hsh b0 hb1
  go_wp2_with fail
  go_ret
  exact ⟨rfl, b1⟩

set_option maxRecDepth 100000 in
set_option maxHeartbeats 1000000 in
theorem textOf_any (B n f : Nat) (ns vs : List ByteArray) (w : World) (hf : Filled w B (n * 2) (n * 2) (fC ns vs f)) (hn : n ≤ 131072) (hsh : Short ns vs f n) :
    Calls Try.prog 23 #[.slice (some ⟨B, 0, none⟩) n n] w fun e w' => RetT (textL ns vs f n) e ∧ Below w.heap.size w w' := by
  go_enter Try.func23, Try.ntmps23
  go_wp2_with fail
  refine (zztext_any B n f ns vs _ _ _ _ _ _ hf hn hsh).mono ?_
  rintro e w1 ⟨he, hb1⟩
  unfold RetT at he
  subst he
  clear hf hsh
  go_wp2_with fail
  go_ret
  exact ⟨rfl, hb1⟩

end Go.Proofs.Qxb6001755a
