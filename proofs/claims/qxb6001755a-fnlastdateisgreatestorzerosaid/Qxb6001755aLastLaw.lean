/-
  The walk of FnLastDateIsGreatestOrZero.
-/
import Derived.Test.Qxb6001755aEq
namespace Go.Proofs.Qxb6001755a
open Go.RowKit

def FinD (w : World) (e : Ending) (w' : World) : Prop := e = .returned (.bool true) ∧ Below w.heap.size w w'

set_option maxRecDepth 100000 in
set_option maxHeartbeats 1000000 in
theorem lastLaw_any (a0 a1 a2 : Option Addr) (ys ms ds : List Int) (c0 c1 c2 : Nat) (w : World) (h0 : IntsAt w a0 ys) (h1 : IntsAt w a1 ms) (h2 : IntsAt w a2 ds) :
    Calls Try.prog 3 #[.slice a0 ys.length c0, .slice a1 ms.length c1, .slice a2 ds.length c2] w fun e w' => FinD w e w' := by
  go_enter Try.func3, Try.ntmps3
  go_wp2_with fail
  refine (bytes9_any a0 a1 a2 _ c0 _ c1 _ c2 _ h0.2.2 h1.2.2 h2.2.2).mono ?_
  rintro e w' ⟨⟨bb, rfl⟩, rfl⟩
  cases bb with
  | false =>
    go_wp2_with fail
    go_ret
    exact ⟨rfl, Below.refl _ _⟩
  | true =>
    go_wp2_with fail
    refine (tooBig3_any a0 a1 a2 _ c0 _ c1 _ c2 _ h0.2.2 h1.2.2 h2.2.2).mono ?_
    rintro e w' ⟨⟨bb, rfl, hbb⟩, rfl⟩
    cases bb with
    | true =>
      clear hbb
      go_wp2_with fail
      go_ret
      exact ⟨rfl, Below.refl _ _⟩
    | false =>
      obtain ⟨l0, l1, l2⟩ := hbb rfl
      clear hbb
      go_wp2_with fail
      refine (copyI_any a0 ys c0 _ h0 l0).mono ?_
      rintro e w1 ⟨a0', c0', rfl, k0, b1⟩
      clear h0
      replace h1 := h1.below b1
      replace h2 := h2.below b1
      go_wp2_with fail
      refine (copyI_any a1 ms c1 _ h1 l1).mono ?_
      rintro e w2 ⟨a1', c1', rfl, k1, b2⟩
      clear h1
      replace h2 := h2.below b2
      replace k0 := k0.below b2
      replace b2 := Below.next b1 b2
      clear b1
      go_wp2_with fail
      refine (copyI_any a2 ds c2 _ h2 l2).mono ?_
      rintro e w3 ⟨a2', c2', rfl, k2, b3⟩
      clear h2
      replace k0 := k0.below b3
      replace k1 := k1.below b3
      replace b3 := Below.next b2 b3
      clear b2
      go_wp2_with fail
      refine (min3_any ys.length ms.length ds.length _).mono ?_
      rintro e w3 ⟨rfl, rfl⟩
      generalize hn : min ys.length (min ms.length ds.length) = n
      have n0 : n ≤ ys.length := by omega
      have n1 : n ≤ ms.length := by omega
      have n2 : n ≤ ds.length := by omega
      clear hn
      go_wp2_with fail
      refine (events_any a0' a1' a2' ys ms ds c0' c1' c2' n _ k0 k1 k2 n0 n1 n2 (by omega)).mono ?_
      rintro e w4 ⟨rfl, hev, b4⟩
      replace k0 := k0.below b4
      replace k1 := k1.below b4
      replace k2 := k2.below b4
      replace b4 := Below.next b3 b4
      clear b3
      go_wp2_with fail
      refine (lastOf_any _ n ys ms ds _ hev (by omega)).mono ?_
      rintro e w5 ⟨he, b5⟩
      unfold RetD at he
      subst he
      replace k0 := k0.below b5
      replace k1 := k1.below b5
      replace k2 := k2.below b5
      replace b5 := Below.next b4 b5
      clear b4 hev
      have hz := last_zero ys ms ds n
      have hall : ∀ k, k < n → ltD (lastTo ys ms ds n) (dk ys ms ds k) = false := fun k hk => last_all ys ms ds hk
      have hend := found_end ys ms ds n
      generalize lastTo ys ms ds n = r at *
      obtain ⟨ry, rm, rd⟩ := r
      have HA : Hid (∀ k, k < n → ltD (ry, rm, rd) (dk ys ms ds k) = false) := hall
      have HE : Hid (foundTo ys ms ds (ry, rm, rd) n = true) := hend
      clear hall hend
      go_wp2_with fail
      refine (before_any ry rm rd 0 0 0 _).mono ?_
      rintro e w6 ⟨rfl, b6⟩
      rw [hz]
      clear hz
      have e1 : (w5.alloc (.cells #[.int .i64 ry, .int .i64 rm, .int .i64 rd] 28)).heap.size = w5.heap.size + 1 := by simp
      have hR := ((Filled.new3 w5 (.int .i64 ry) (.int .i64 rm) (.int .i64 rd) 28 (dC (ry, rm, rd)) rfl rfl rfl).below ((Below.refl _ _).alloc (Nat.le_refl _) (.cells #[.int .i64 0, .int .i64 0, .int .i64 0] 28))).below b6
      have hZ := (Filled.new3 (w5.alloc (.cells #[.int .i64 ry, .int .i64 rm, .int .i64 rd] 28)) (.int .i64 0) (.int .i64 0) (.int .i64 0) 28 (dC (0, 0, 0)) rfl rfl rfl).below b6
      rw [e1] at hZ
      have b56 : Below w5.heap.size w5 w6 := (((Below.refl _ _).alloc (Nat.le_refl _) _).alloc (by simp) _).trans (b6.mono (by simp; omega))
      clear b6 e1
      replace k0 := k0.below b56
      replace k1 := k1.below b56
      replace k2 := k2.below b56
      replace b5 := Below.next b5 b56
      clear b56
      generalize w5.heap.size = R at *
      have r0 := hR.2.2.1 0 (by omega)
      have r1 := hR.2.2.1 1 (by omega)
      have r2 := hR.2.2.1 2 (by omega)
      have z0 := hZ.2.2.1 0 (by omega)
      have z1 := hZ.2.2.1 1 (by omega)
      have z2 := hZ.2.2.1 2 (by omega)
      simp only [dC] at r0 r1 r2 z0 z1 z2
      have hEq := fun W => run_eq28 W ry rm rd 0 0 0
      generalize hF0 : decide ((ry, rm, rd) = ((0 : Int), (0 : Int), (0 : Int))) = f0 at hEq
      have HF0 : Hid (foundTo ys ms ds (ry, rm, rd) 0 = f0) := hF0
      clear hF0
      go_wp2_with fail
      clear hEq z0 z1 z2 hZ r0 r1 r2
      go_loopw [10, 11] (fun fd i wr => ∃ k : Nat, k ≤ n ∧ i = .int .i64 k ∧ fd = .bool (foundTo ys ms ds (ry, rm, rd) k) ∧ Below w6.heap.size w6 wr) (fun _ i _ => n - (intOf i).toNat)
      case atStart => exact ⟨0, Nat.zero_le _, rfl, by rw [HF0.out], Below.refl _ _⟩
      case round =>
        obtain ⟨k, hk, rfl, rfl, hbel⟩ := hrel
        by_cases hlt : k < n
        · have j0 := k0.below hbel
          have j1 := k1.below hbel
          have j2 := k2.below hbel
          have hR1 := hR.below hbel
          go_wp2_with fail
          refine (dateAt_any a0' a1' a2' ys ms ds c0' c1' c2' k _ j0 j1 j2 (by omega) (by omega) (by omega)).mono ?_
          rintro e w7 ⟨rfl, b7⟩
          have hd := HA.out k hlt
          have hst : foundTo ys ms ds (ry, rm, rd) (k + 1) = (foundTo ys ms ds (ry, rm, rd) k || decide (dk ys ms ds k = (ry, rm, rd))) := rfl
          unfold dk at hd hst
          generalize ys.getD k 0 = y at hd hst ⊢
          generalize ms.getD k 0 = m at hd hst ⊢
          generalize ds.getD k 0 = d at hd hst ⊢
          have HD : Hid (ltD (ry, rm, rd) (y, m, d) = false) := hd
          have HS : Hid (foundTo ys ms ds (ry, rm, rd) (k + 1) = (foundTo ys ms ds (ry, rm, rd) k || decide ((y, m, d) = (ry, rm, rd)))) := hst
          clear hd hst
          have hR2 := hR1.below b7
          have r0 := hR2.2.2.1 0 (by omega)
          have r1 := hR2.2.2.1 1 (by omega)
          have r2 := hR2.2.2.1 2 (by omega)
          simp only [dC] at r0 r1 r2
          have hRlt : R < w7.heap.size := hR2.2.2.2
          have b67 : Below w6.heap.size w6 w7 := Below.next hbel b7
          clear hbel b7 j0 j1 j2 hR1
          go_wp2_with fail
          refine (before_any ry rm rd y m d _).mono ?_
          rintro e w8 ⟨rfl, b8⟩
          rw [HD.out]
          have hN := (Filled.new3 w7 (.int .i64 y) (.int .i64 m) (.int .i64 d) 28 (dC (y, m, d)) rfl rfl rfl).below b8
          have hR3 := (hR2.below ((Below.refl _ _).alloc (Nat.le_refl _) (.cells #[.int .i64 y, .int .i64 m, .int .i64 d] 28))).below b8
          have b78 : Below w7.heap.size w7 w8 := ((Below.refl _ _).alloc (Nat.le_refl _) _).trans (b8.mono (by simp))
          have b68 : Below w6.heap.size w6 w8 := Below.next b67 b78
          clear b67 b78 b8 r0 r1 r2 hR2 hRlt
          have r0 := hR3.2.2.1 0 (by omega)
          have r1 := hR3.2.2.1 1 (by omega)
          have r2 := hR3.2.2.1 2 (by omega)
          have n0' := hN.2.2.1 0 (by omega)
          have n1' := hN.2.2.1 1 (by omega)
          have n2' := hN.2.2.1 2 (by omega)
          simp only [dC] at r0 r1 r2 n0' n1' n2'
          have hEq := fun W => run_eq28 W y m d ry rm rd
          by_cases hc : (y, m, d) = (ry, rm, rd)
          · have hf : Hid (foundTo ys ms ds (ry, rm, rd) (k + 1) = true) := by
              have := HS.out
              rw [decide_eq_true hc, Bool.or_true] at this
              exact this
            rw [decide_eq_true hc] at hEq
            clear hc HS HD HA HE HF0 hR3 hN
            go_wp2_with fail
            go_roundw
            case rel => exact ⟨k + 1, by omega, by go_num, by rw [hf.out], b68⟩
            case measure => simp [intOf]; omega
          · have hf : Hid (foundTo ys ms ds (ry, rm, rd) (k + 1) = foundTo ys ms ds (ry, rm, rd) k) := by
              have := HS.out
              rw [decide_eq_false hc, Bool.or_false] at this
              exact this
            rw [decide_eq_false hc] at hEq
            clear hc HS HD HA HE HF0 hR3 hN
            go_wp2_with fail
            go_roundw
            case rel => exact ⟨k + 1, by omega, by go_num, by rw [hf.out], b68⟩
            case measure => simp [intOf]; omega
        · have hkl : k = n := by omega
          subst hkl
          go_wp2_with fail
          go_ret
          exact ⟨by show Ending.returned (Value.bool _) = _; rw [HE.out], Below.next b5 hbel⟩

end Go.Proofs.Qxb6001755a
