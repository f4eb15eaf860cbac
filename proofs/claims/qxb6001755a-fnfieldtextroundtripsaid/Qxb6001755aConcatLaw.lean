/-
  The walk of FnFieldTextConcat.
-/
import Derived.Test.Qxb6001755aLenLaw
namespace Go.Proofs.Qxb6001755a
open Go.RowKit

theorem textL_add (ns vs : List ByteArray) {k : Nat} (hk : 0 < k) : ∀ d : Nat, textL ns vs 0 (k + (d + 1)) = textL ns vs 0 k ++ 32 :: textL ns vs k (d + 1)
  | 0 => by
    rw [show k + (0 + 1) = k + 1 by omega, textL_succ, if_neg (by omega), textL_succ ns vs k 0, if_pos rfl, Nat.zero_add]
  | d + 1 => by
    have ih := textL_add ns vs hk d
    rw [show k + (d + 1 + 1) = (k + (d + 1)) + 1 by omega, textL_succ, if_neg (by omega), ih, textL_succ ns vs k (d + 1), if_neg (by omega), Nat.zero_add]
    simp

def txt (ns vs : List ByteArray) (f n : Nat) : ByteArray := ⟨(textL ns vs f n).toArray⟩
theorem txt_add (ns vs : List ByteArray) {k d : Nat} (hk : 0 < k) (hd : 0 < d) : txt ns vs 0 (k + d) = txt ns vs 0 k ++ ⟨#[32]⟩ ++ txt ns vs k d := by
  obtain ⟨d, rfl⟩ : ∃ e, d = e + 1 := ⟨d - 1, by omega⟩
  unfold txt
  rw [textL_add ns vs hk d]
  apply ByteArray.ext
  simp [ByteArray.data_append]
theorem txt_size {ns vs : List ByteArray} {f n : Nat} (h : Short ns vs f n) (hn : n ≤ 131072) : (txt ns vs f n).size ≤ 140737488355328 := by
  have := text_len h hn
  show ((textL ns vs f n).toArray).size ≤ _
  rw [List.size_toArray]
  exact this

set_option maxRecDepth 100000 in
set_option maxHeartbeats 1000000 in
theorem concatLaw_any (a0 a1 : Option Addr) (ns vs : List ByteArray) (c0 c1 : Nat) (k : Int) (w : World) (h0 : StrsAt w a0 ns) (h1 : StrsAt w a1 vs) :
    Calls Try.prog 7 #[.slice a0 ns.length c0, .slice a1 vs.length c1, .int .i64 k] w fun e w' => FinT w e w' := by
  go_enter Try.func7, Try.ntmps7
  go_wp2_with fail
  refine (bytes25_any a0 a1 ns vs c0 c1 k _ h0 h1).mono ?_
  rintro e w' ⟨⟨bb, rfl, hsum⟩, rfl⟩
  cases bb with
  | false =>
    clear hsum
    go_wp2_with fail
    go_ret
    exact ⟨rfl, Below.refl _ _⟩
  | true =>
    have hsh : ∀ f n, Short ns vs f n := fun f n => short_of_sum (hsum rfl) f n
    have HSH : Hid (∀ f n, Short ns vs f n) := hsh
    clear hsum hsh
    go_wp2_with fail
    refine (big20_any a0 a1 ns vs c0 c1 _ h0 h1).mono ?_
    rintro e w' ⟨⟨bb, rfl, hbb⟩, rfl⟩
    cases bb with
    | true =>
      clear hbb
      go_wp2_with fail
      go_ret
      exact ⟨rfl, Below.refl _ _⟩
    | false =>
      obtain ⟨l0, l1⟩ := hbb rfl
      clear hbb
      go_wp2_with fail
      refine (min2_any ns.length vs.length _).mono ?_
      rintro e w' ⟨rfl, rfl⟩
      generalize hn : min ns.length vs.length = n
      have n0 : n ≤ ns.length := by omega
      have n1 : n ≤ vs.length := by omega
      clear hn
      by_cases hk0 : k < 0
      · have hb : decide (k < 0) = true := by simp; omega
        go_wp2_with fail
        go_ret
        exact ⟨rfl, Below.refl _ _⟩
      by_cases hk1 : (n : Int) < k
      · have hb : decide ((n : Int) < k) = true := by simp; omega
        go_wp2_with fail
        go_ret
        exact ⟨rfl, Below.refl _ _⟩
      obtain ⟨k, rfl⟩ := Int.eq_ofNat_of_zero_le (show 0 ≤ k by omega)
      obtain ⟨d, rfl⟩ : ∃ d, n = k + d := ⟨n - k, by omega⟩
      clear hk1 hk0
      go_wp2_with fail
      refine (copyS_any a0 ns c0 _ h0 l0).mono ?_
      rintro e w1 ⟨a0', c0', rfl, k0, b1⟩
      clear h0
      replace h1 := h1.below b1
      go_wp2_with fail
      refine (copyS_any a1 vs c1 _ h1 l1).mono ?_
      rintro e w2 ⟨a1', c1', rfl, k1, b2⟩
      clear h1
      replace k0 := k0.below b2
      replace b2 := Below.next b1 b2
      clear b1
      go_wp2_with fail
      refine (fields_any a0' a1' ns vs c0' c1' 0 (k + d) ((k : Int) + (d : Int)) _ k0 k1 (by omega) (by omega) (by omega) (by omega)).mono ?_
      rintro e w3 ⟨rfl, hev, b3⟩
      replace k0 := k0.below b3
      replace k1 := k1.below b3
      replace b3 := Below.next b2 b3
      clear b2
      go_wp2_with fail
      refine (textOf_any _ (k + d) 0 ns vs _ hev (by omega) (HSH.out 0 (k + d))).mono ?_
      rintro e w4 ⟨he, b4⟩
      unfold RetT at he
      subst he
      replace k0 := k0.below b4
      replace k1 := k1.below b4
      replace b4 := Below.next b3 b4
      clear b3 hev
      generalize hT : (⟨(textL ns vs 0 (k + d)).toArray⟩ : ByteArray) = T
      have HT : Hid (txt ns vs 0 (k + d) = T) := hT
      have sT : T.size ≤ 140737488355328 := by rw [← hT]; exact txt_size (HSH.out 0 (k + d)) (by omega)
      clear hT
      go_wp2_with fail
      refine (fields_any a0' a1' ns vs c0' c1' 0 k (k : Int) _ k0 k1 (by omega) (by omega) (by omega) (by omega)).mono ?_
      rintro e w5 ⟨rfl, hev, b5⟩
      replace k0 := k0.below b5
      replace k1 := k1.below b5
      replace b5 := Below.next b4 b5
      clear b4
      go_wp2_with fail
      refine (textOf_any _ k 0 ns vs _ hev (by omega) (HSH.out 0 k)).mono ?_
      rintro e w6 ⟨he, b6⟩
      unfold RetT at he
      subst he
      replace k0 := k0.below b6
      replace k1 := k1.below b6
      replace b6 := Below.next b5 b6
      clear b5 hev
      generalize hA : (⟨(textL ns vs 0 k).toArray⟩ : ByteArray) = A
      have HA : Hid (txt ns vs 0 k = A) := hA
      have sA : A.size ≤ 140737488355328 := by rw [← hA]; exact txt_size (HSH.out 0 k) (by omega)
      clear hA
      go_wp2_with fail
      refine (fields_any a0' a1' ns vs c0' c1' k d ((k : Int) + (d : Int)) _ k0 k1 (by omega) (by omega) (by omega) (by omega)).mono ?_
      rintro e w7 ⟨rfl, hev, b7⟩
      replace k0 := k0.below b7
      replace k1 := k1.below b7
      replace b7 := Below.next b6 b7
      clear b6
      go_wp2_with fail
      refine (textOf_any _ d k ns vs _ hev (by omega) (HSH.out k d)).mono ?_
      rintro e w8 ⟨he, b8⟩
      unfold RetT at he
      subst he
      replace k0 := k0.below b8
      replace k1 := k1.below b8
      replace b8 := Below.next b7 b8
      clear b7 hev
      generalize hB : (⟨(textL ns vs k d).toArray⟩ : ByteArray) = B
      have HB : Hid (txt ns vs k d = B) := hB
      have sB : B.size ≤ 140737488355328 := by rw [← hB]; exact txt_size (HSH.out k d) (by omega)
      clear hB
      by_cases e0 : k = 0
      · subst e0
        have hTB : Hid (T = B) := by
          have h1 := HT.out
          rw [Nat.zero_add] at h1
          exact h1.symm.trans HB.out
        have hb : (((0 : Nat) : Int) == 0) = true := rfl
        go_wp2_with fail
        go_ret
        exact ⟨ret_true (by rw [beq_iff_eq]; exact congrArg ByteArray.toList hTB.out), b8⟩
      · have hb : ((k : Int) == 0) = false := by simp; omega
        by_cases e1 : d = 0
        · subst e1
          have hTA : Hid (T = A) := HT.out.symm.trans HA.out
          go_wp2_with fail
          go_ret
          exact ⟨ret_true (by rw [beq_iff_eq]; exact congrArg ByteArray.toList hTA.out), b8⟩
        · have hb1 : ((k : Int) == (k : Int) + (d : Int)) = false := by simp; omega
          have hTAB : Hid (T = A ++ ⟨#[32]⟩ ++ B) := by
            have h1 := HT.out
            rw [txt_add ns vs (by omega) (by omega), HA.out, HB.out] at h1
            exact h1.symm
          clear HT HA HB
          go_wp2_with fail
          go_ret
          exact ⟨ret_true (by rw [beq_iff_eq]; exact congrArg ByteArray.toList hTAB.out), b8⟩

end Go.Proofs.Qxb6001755a
