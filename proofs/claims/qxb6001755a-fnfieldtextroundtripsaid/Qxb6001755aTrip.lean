/-
  What a text of fields is, place by place; the walk of hasByte. The runs of an index and of a cut of a string.
-/
import Derived.Test.Qxb6001755aConcatLaw
import Derived.Deep.QuietTactic
import Derived.BigQuiet
namespace Go.Proofs.Qxb6001755a
open Go.RowKit

/-! ### runs -/
theorem run_at (W : World) (s : ByteArray) (p : Nat) {c : UInt8} (hc : s.data.toList[p]? = some c) : (Instr.index 9 (.string s) (.int .i64 (p : Int))).run Try.prog W = .ok (.int .u8 (c.toNat : Int)) W := by
  obtain ⟨hp, e⟩ := List.getElem?_eq_some_iff.1 hc
  have hp' : p < s.size := hp
  rw [run_index_string W 9 s .i64 (p : Int) Try.underlying9, dif_pos (by omega)]
  have e2 : s[((p : Nat) : Int).toNat]'(by simpa using hp') = c := by
    rw [← e]
    simp only [Int.toNat_natCast]
    rfl
  rw [e2]
theorem size_list (s : ByteArray) : s.data.toList.length = s.size := rfl
theorem bytes_ext {a b : ByteArray} (h : a.data.toList = b.data.toList) : a = b := by
  apply ByteArray.ext
  exact Array.toList_inj.1 h
theorem run_cut (W : World) (s t : ByteArray) (a b : Nat) (hab : a ≤ b) (hb : b ≤ s.size) (ht : t.data.toList = (s.data.toList.drop a).take (b - a)) : (Instr.slice 9 (.string s) (some (.int .i64 (a : Int))) (some (.int .i64 (b : Int))) none).run Try.prog W = .ok (.string t) W := by
  rw [run_slice_string W 9 s .i64 .i64 a b Try.underlying9 (by omega) (by omega) (by omega)]
  have e : s.extract (a : Int).toNat (b : Int).toNat = t := by
    apply bytes_ext
    rw [ht]
    simp [ByteArray.data_extract]
  rw [e]
theorem run_to (W : World) (s t : ByteArray) (b : Nat) (hb : b ≤ s.size) (ht : t.data.toList = s.data.toList.take b) : (Instr.slice 9 (.string s) none (some (.int .i64 (b : Int))) none).run Try.prog W = .ok (.string t) W := by
  rw [run_slice_string_to_if W 9 s .i64 b Try.underlying9, if_pos (by omega)]
  have e : s.extract 0 (b : Int).toNat = t := by
    apply bytes_ext
    rw [ht]
    simp [ByteArray.data_extract]
  rw [e]
theorem run_from (W : World) (s t : ByteArray) (a : Nat) (ha : a ≤ s.size) (ht : t.data.toList = s.data.toList.drop a) : (Instr.slice 9 (.string s) (some (.int .i64 (a : Int))) none none).run Try.prog W = .ok (.string t) W := by
  rw [run_slice_string_from_if W 9 s .i64 a Try.underlying9, if_pos (by omega)]
  have e : s.extract (a : Int).toNat s.size = t := by
    apply bytes_ext
    rw [ht]
    simp [ByteArray.data_extract]
    exact List.take_of_length_le (by rw [List.length_drop]; exact Nat.le_refl _)
  rw [e]

/-! ### hasByte -/
def hasB (s : ByteArray) (c : UInt8) : Bool := decide (c ∈ s.data.toList)

theorem byte_ne {a c : UInt8} (h : a ≠ c) : (((a.toNat : Nat) : Int) == ((c.toNat : Nat) : Int)) = false := by
  rw [beq_eq_false_iff_ne]
  intro e
  exact h (UInt8.toNat_inj.1 (by omega))

set_option maxRecDepth 100000 in
set_option maxHeartbeats 1000000 in
theorem has_any (s : ByteArray) (c : UInt8) (x : Int) (hx : x = (c.toNat : Int)) (w : World) (hs : s.size ≤ maxLen) :
    Calls Try.prog 27 #[.string s, .int .u8 x] w fun e w' => e = .returned (.bool (hasB s c)) ∧ w' = w := by
  unfold maxLen at hs
  subst hx
  go_enter Try.func27, Try.ntmps27
  go_wp2
  go_loop [5] (fun i => ∃ k : Nat, k ≤ s.size ∧ i = .int .i64 k ∧ Hid (∀ j, j < k → s.data.toList[j]? ≠ some c)) (fun i => s.size - (intOf i).toNat)
  case atStart => exact ⟨0, Nat.zero_le _, rfl, fun j hj => by omega⟩
  case round =>
    obtain ⟨k, hk, rfl, hno⟩ := hrel
    by_cases hlt : k < s.size
    · obtain ⟨a, ha⟩ : ∃ a, s.data.toList[k]? = some a := ⟨_, List.getElem?_eq_getElem hlt⟩
      have hidx := fun W => run_at W s k ha
      have HA : Hid (s.data.toList[k]? = some a) := ha
      clear ha
      by_cases e : a = c
      · subst e
        have hyes : Hid (hasB s a = true) := by
          show hasB s a = true
          unfold hasB
          rw [decide_eq_true_iff]
          exact List.mem_of_getElem? HA.out
        go_wp2
        go_ret
        exact ⟨by rw [hyes.out]; exact rfl, rfl⟩
      · have hne := byte_ne e
        have hno' : Hid (∀ j, j < k + 1 → s.data.toList[j]? ≠ some c) := by
          intro j hj
          by_cases ej : j = k
          · subst ej
            rw [HA.out]
            intro h
            exact e (Option.some.inj h)
          · exact hno.out j (by omega)
        clear e
        go_wp2
        go_round
        case rel => exact ⟨k + 1, by omega, by go_num, hno'⟩
        case measure => simp [intOf]; omega
    · have hyes : Hid (hasB s c = false) := by
        show hasB s c = false
        unfold hasB
        rw [decide_eq_false_iff_not]
        intro hm
        obtain ⟨j, hj⟩ := List.getElem?_of_mem hm
        have hjl : j < s.size := (List.getElem?_eq_some_iff.1 hj).1
        exact hno.out j (by omega) hj
      go_wp2
      go_ret
      exact ⟨by rw [hyes.out]; exact rfl, rfl⟩

/-! ### the text, place by place -/
/-- where the k-th word begins -/
def posT (ns vs : List ByteArray) : Nat → Nat
  | 0 => 0
  | k + 1 => posT ns vs k + (wL ns vs k).length + 1

theorem posT_end (ns vs : List ByteArray) : ∀ n : Nat, (textL ns vs 0 (n + 1)).length + 1 = posT ns vs (n + 1)
  | 0 => by
    rw [textL_succ, if_pos rfl]
    simp [posT]
  | n + 1 => by
    have ih := posT_end ns vs n
    rw [textL_succ, if_neg (by omega), List.length_append, List.length_cons, Nat.zero_add, posT]
    omega

theorem text_split (ns vs : List ByteArray) : ∀ n i : Nat, i < n → ∃ A S, textL ns vs 0 n = A ++ (wL ns vs i ++ S) ∧ A.length = posT ns vs i ∧ ((i + 1 = n ∧ S = []) ∨ (i + 1 < n ∧ ∃ S', S = 32 :: S'))
  | 0, i, h => by omega
  | n + 1, i, h => by
    by_cases e : i = n
    · subst e
      by_cases h0 : i = 0
      · subst h0
        refine ⟨[], [], ?_, rfl, Or.inl ⟨rfl, rfl⟩⟩
        rw [textL_succ, if_pos rfl]
        simp
      · obtain ⟨m, rfl⟩ : ∃ m, i = m + 1 := ⟨i - 1, by omega⟩
        refine ⟨textL ns vs 0 (m + 1) ++ [32], [], ?_, ?_, Or.inl ⟨rfl, rfl⟩⟩
        · rw [textL_succ, if_neg h0, Nat.zero_add]
          simp
        · rw [List.length_append, List.length_singleton, posT_end]
    · obtain ⟨A, S, h1, h2, h3⟩ := text_split ns vs n i (by omega)
      refine ⟨A, S ++ 32 :: wL ns vs n, ?_, h2, Or.inr ⟨by omega, ?_⟩⟩
      · rw [textL_succ, if_neg (by omega), h1, Nat.zero_add]
        simp
      · rcases h3 with ⟨_, rfl⟩ | ⟨_, S', rfl⟩
        · exact ⟨wL ns vs n, rfl⟩
        · exact ⟨S' ++ 32 :: wL ns vs n, by simp⟩

/-- inside the i-th word -/
theorem text_in {ns vs : List ByteArray} {n i p : Nat} (hi : i < n) (h1 : posT ns vs i ≤ p) (h2 : p < posT ns vs i + (wL ns vs i).length) : ∃ c, (textL ns vs 0 n)[p]? = some c ∧ c ∈ wL ns vs i := by
  obtain ⟨A, S, e, hA, _⟩ := text_split ns vs n i hi
  have hlt : p - posT ns vs i < (wL ns vs i).length := by omega
  refine ⟨(wL ns vs i)[p - posT ns vs i], ?_, List.getElem_mem hlt⟩
  rw [e, List.getElem?_append_right (by omega), hA, List.getElem?_append_left hlt, List.getElem?_eq_getElem hlt]
/-- behind it: a space, or the end -/
theorem text_behind {ns vs : List ByteArray} {n i : Nat} (hi : i < n) : (i + 1 = n ∧ (textL ns vs 0 n).length = posT ns vs i + (wL ns vs i).length) ∨ (i + 1 < n ∧ posT ns vs i + (wL ns vs i).length < (textL ns vs 0 n).length ∧ (textL ns vs 0 n)[posT ns vs i + (wL ns vs i).length]? = some 32) := by
  obtain ⟨A, S, e, hA, h3⟩ := text_split ns vs n i hi
  rcases h3 with ⟨h, rfl⟩ | ⟨h, S', rfl⟩
  · refine Or.inl ⟨h, ?_⟩
    rw [e, List.length_append, List.length_append, hA]
    simp
  · refine Or.inr ⟨h, ?_, ?_⟩
    · rw [e, List.length_append, List.length_append, hA, List.length_cons]
      omega
    · rw [e, List.getElem?_append_right (by omega), hA, List.getElem?_append_right (by omega)]
      simp
/-- the cut is the word -/
theorem text_cut {ns vs : List ByteArray} {n i : Nat} (hi : i < n) : ((textL ns vs 0 n).drop (posT ns vs i)).take (wL ns vs i).length = wL ns vs i := by
  obtain ⟨A, S, e, hA, _⟩ := text_split ns vs n i hi
  rw [e, ← hA, List.drop_left, List.take_left]
theorem text_le {ns vs : List ByteArray} {n i : Nat} (hi : i < n) : posT ns vs i + (wL ns vs i).length ≤ (textL ns vs 0 n).length := by
  rcases text_behind (ns := ns) (vs := vs) hi with ⟨_, h⟩ | ⟨_, h, _⟩ <;> omega

end Go.Proofs.Qxb6001755a
