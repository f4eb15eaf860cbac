/-
  The walk of FnFieldTextLength.
-/
import Derived.Test.Qxb6001755aPlainT
namespace Go.Proofs.Qxb6001755a
open Go.RowKit

def FinT (w : World) (e : Ending) (w' : World) : Prop := e = .returned (.bool true) ∧ Below w.heap.size w w'

theorem ret_true {b : Bool} (h : b = true) : Ending.returned (.bool b) = .returned (.bool true) := by rw [h]

set_option maxRecDepth 100000 in
set_option maxHeartbeats 1000000 in
theorem lenLaw_any (a0 a1 : Option Addr) (ns vs : List ByteArray) (c0 c1 : Nat) (w : World) (h0 : StrsAt w a0 ns) (h1 : StrsAt w a1 vs) :
    Calls Try.prog 6 #[.slice a0 ns.length c0, .slice a1 vs.length c1] w fun e w' => FinT w e w' := by
  go_enter Try.func6, Try.ntmps6
  go_wp2_with fail
  refine (bytes19_any a0 a1 ns vs c0 c1 _ h0 h1).mono ?_
  rintro e w' ⟨⟨bb, rfl, hsum⟩, rfl⟩
  cases bb with
  | false =>
    clear hsum
    go_wp2_with fail
    go_ret
    exact ⟨rfl, Below.refl _ _⟩
  | true =>
    have hsh : ∀ f n, Short ns vs f n := fun f n => short_of_sum (hsum rfl) f n
    have HSH : Hid (∀ f n, Short ns vs f n) := hsh
    clear hsum hsh
    go_wp2_with fail
    refine (big20_any a0 a1 ns vs c0 c1 _ h0 h1).mono ?_
    rintro e w' ⟨⟨bb, rfl, hbb⟩, rfl⟩
    cases bb with
    | true =>
      clear hbb
      go_wp2_with fail
      go_ret
      exact ⟨rfl, Below.refl _ _⟩
    | false =>
      obtain ⟨l0, l1⟩ := hbb rfl
      clear hbb
      go_wp2_with fail
      refine (copyS_any a0 ns c0 _ h0 l0).mono ?_
      rintro e w1 ⟨a0', c0', rfl, k0, b1⟩
      clear h0
      replace h1 := h1.below b1
      go_wp2_with fail
      refine (copyS_any a1 vs c1 _ h1 l1).mono ?_
      rintro e w2 ⟨a1', c1', rfl, k1, b2⟩
      clear h1
      replace k0 := k0.below b2
      replace b2 := Below.next b1 b2
      clear b1
      go_wp2_with fail
      refine (min2_any ns.length vs.length _).mono ?_
      rintro e w2 ⟨rfl, rfl⟩
      generalize hn : min ns.length vs.length = n
      have n0 : n ≤ ns.length := by omega
      have n1 : n ≤ vs.length := by omega
      clear hn
      go_wp2_with fail
      refine (fields_any a0' a1' ns vs c0' c1' 0 n (n : Int) _ k0 k1 (by omega) (by omega) (by omega) (by omega)).mono ?_
      rintro e w3 ⟨rfl, hev, b3⟩
      replace k0 := k0.below b3
      replace k1 := k1.below b3
      replace b3 := Below.next b2 b3
      clear b2
      go_wp2_with fail
      refine (textOf_any _ n 0 ns vs _ hev (by omega) (HSH.out 0 n)).mono ?_
      rintro e w4 ⟨he, b4⟩
      unfold RetT at he
      subst he
      replace k0 := k0.below b4
      replace k1 := k1.below b4
      replace b4 := Below.next b3 b4
      clear b3 hev
      have hlen := textL_length ns vs n
      have hsz : (⟨(textL ns vs 0 n).toArray⟩ : ByteArray).size = wantTo ns vs n + (n - 1) := by
        rw [← hlen]; exact List.size_toArray
      generalize (⟨(textL ns vs 0 n).toArray⟩ : ByteArray) = T at hsz ⊢
      have HZ : Hid (T.size = wantTo ns vs n + (n - 1)) := hsz
      clear hlen hsz
      go_wp2_with fail
      go_loopw [7, 8] (fun t i wr => ∃ k : Nat, k ≤ n ∧ i = .int .i64 k ∧ t = .int .i64 ((wantTo ns vs k : Nat) : Int) ∧ Below w4.heap.size w4 wr) (fun _ i _ => n - (intOf i).toNat)
      case atStart => exact ⟨0, Nat.zero_le _, rfl, rfl, Below.refl _ _⟩
      case round =>
        obtain ⟨k, hk, rfl, rfl, hbel⟩ := hrel
        have hwk := wantTo_le (HSH.out 0 n) k hk
        by_cases hlt : k < n
        · obtain ⟨b0, o0, s, hb0, hidx0, hcell0', _, hs⟩ := (k0.below hbel).idx (k := k) (by omega) c0'
          obtain ⟨b1, o1, v, hb1, hidx1, hcell1', _, hv⟩ := (k1.below hbel).idx (k := k) (by omega) c1'
          have hss := HSH.out k 1 0 (by omega)
          rw [Nat.add_zero, ← hs.out, ← hv.out] at hss
          obtain ⟨hs1, hs2⟩ := hss
          have hst : Hid (wantTo ns vs (k + 1) = wantTo ns vs k + (s.size + 1 + v.size)) := by show _ = _; rw [hs.out, hv.out]; exact rfl
          clear hs hv
          go_wp2_with fail
          go_region
          go_wp2
          go_roundw
          case rel => exact ⟨k + 1, by omega, by go_num, by rw [hst.out]; go_num, hbel.drew⟩
          case measure => simp [intOf]; omega
        · have hkl : k = n := by omega
          subst hkl
          by_cases hpos : 0 < k
          · go_wp2_with fail
            go_ret
            exact ⟨ret_true (by have := HZ.out; rw [beq_iff_eq]; omega), Below.next b4 hbel⟩
          · go_wp2_with fail
            go_ret
            exact ⟨ret_true (by have := HZ.out; rw [beq_iff_eq]; omega), Below.next b4 hbel⟩

end Go.Proofs.Qxb6001755a
