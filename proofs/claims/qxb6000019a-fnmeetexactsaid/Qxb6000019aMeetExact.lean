/-
  The walk of FnMeetExact.
-/
import Derived.Test.Qxb6000019aSet
namespace Go.Proofs.Qxb6000019a
open Go.RowKit Go.Maps

def FinM (w : World) (e : Ending) (w' : World) : Prop := e = .returned (.bool true) ∧ Below w.heap.size w w'

set_option maxRecDepth 100000 in
set_option maxHeartbeats 1000000 in
theorem meetExact_any (a0 a1 a2 a3 : Option Addr) (s0 s2 : List ByteArray) (z1 z3 : List Int) (c0 c1 c2 c3 : Nat) (w : World) (h0 : StrsAt w a0 s0) (h1 : IntsAt w a1 z1) (h2 : StrsAt w a2 s2) (h3 : IntsAt w a3 z3) :
    Calls Try.prog 5 #[.slice a0 s0.length c0, .slice a1 z1.length c1, .slice a2 s2.length c2, .slice a3 z3.length c3] w fun e w' => FinM w e w' := by
  go_enter Try.func5, Try.ntmps5
  go_wp2_with fail
  refine (bytes19_any a0 a1 a2 a3 s0 s2 c0 _ c1 c2 _ c3 _ h0 h1.2.2 h2 h3.2.2).mono ?_
  rintro e w' ⟨⟨bb, rfl⟩, rfl⟩
  cases bb with
  | false =>
    go_wp2_with fail
    go_ret
    exact ⟨rfl, Below.refl _ _⟩
  | true =>
    by_cases g0 : 65536 < s0.length
    · have hb : decide ((65536 : Int) < (s0.length : Int)) = true := by simp; omega
      go_wp2_with fail
      go_ret
      exact ⟨rfl, Below.refl _ _⟩
    by_cases g1 : 65536 < z1.length
    · have hb : decide ((65536 : Int) < (z1.length : Int)) = true := by simp; omega
      go_wp2_with fail
      go_ret
      exact ⟨rfl, Below.refl _ _⟩
    by_cases g2 : 65536 < s2.length
    · have hb : decide ((65536 : Int) < (s2.length : Int)) = true := by simp; omega
      go_wp2_with fail
      go_ret
      exact ⟨rfl, Below.refl _ _⟩
    by_cases g3 : 65536 < z3.length
    · have hb : decide ((65536 : Int) < (z3.length : Int)) = true := by simp; omega
      go_wp2_with fail
      go_ret
      exact ⟨rfl, Below.refl _ _⟩
    have l0 : s0.length ≤ 65536 := by omega
    have l1 : z1.length ≤ 65536 := by omega
    have l2 : s2.length ≤ 65536 := by omega
    have l3 : z3.length ≤ 65536 := by omega
    clear g0 g1 g2 g3
    go_wp2_with fail
    refine (zbytes_any a0 a1 s0 c0 _ c1 _ h0 h1.2.2).mono ?_
    rintro e w' ⟨⟨t1, rfl, t10, t11⟩, rfl⟩
    go_wp2_with fail
    refine (zbytes_any a2 a3 s2 c2 _ c3 _ h2 h3.2.2).mono ?_
    rintro e w' ⟨⟨t2, rfl, t20, t21⟩, rfl⟩
    by_cases gt : 1048576 < t1 + t2
    · go_wp2_with fail
      go_ret
      exact ⟨rfl, Below.refl _ _⟩
    go_wp2_with fail
    refine (cloneS_any a0 s0 c0 _ h0 l0).mono ?_
    rintro e w1 ⟨a0', c0', rfl, h0', b1⟩
    replace h1 := h1.below b1
    replace h2 := h2.below b1
    replace h3 := h3.below b1
    clear h0
    go_wp2_with fail
    refine (cloneU_any a1 z1 c1 _ h1 l1).mono ?_
    rintro e w2 ⟨a1', c1', rfl, h1', b2⟩
    replace h0' := h0'.below b2
    replace h2 := h2.below b2
    replace h3 := h3.below b2
    replace b2 := Below.next b1 b2
    clear h1 b1
    go_wp2_with fail
    refine (cloneS_any a2 s2 c2 _ h2 l2).mono ?_
    rintro e w3 ⟨a2', c2', rfl, h2', b3⟩
    replace h0' := h0'.below b3
    replace h1' := h1'.below b3
    replace h3 := h3.below b3
    replace b3 := Below.next b2 b3
    clear h2 b2
    go_wp2_with fail
    refine (cloneU_any a3 z3 c3 _ h3 l3).mono ?_
    rintro e w4 ⟨a3', c3', rfl, h3', b4⟩
    replace h0' := h0'.below b4
    replace h1' := h1'.below b4
    replace h2' := h2'.below b4
    replace b4 := Below.next b3 b4
    clear h3 b3
    go_wp2_with fail
    refine (mk_any a0' a1' s0 z1 c0' c1' _ h0' h1' l0 l1).mono ?_
    rintro e w5 ⟨v, rfl, hv, b5⟩
    replace h0' := h0'.below b5
    replace h2' := h2'.below b5
    replace h3' := h3'.below b5
    replace b5 := Below.next b4 b5
    clear h1' b4
    go_wp2_with fail
    refine (mk_any a2' a3' s2 z3 c2' c3' _ h2' h3' l2 l3).mono ?_
    rintro e w6 ⟨o, rfl, ho, b6⟩
    replace h0' := h0'.below b6
    replace h2' := h2'.below b6
    replace hv := hv.below b6
    replace b6 := Below.next b5 b6
    clear h3' b5
    go_wp2_with fail
    refine (meet_any hv ho (by omega)).mono ?_
    rintro e w7 ⟨m, rfl, hm, b7⟩
    replace h0' := h0'.below b7
    replace h2' := h2'.below b7
    replace hv := hv.below b7
    replace ho := ho.below b7
    replace b7 := Below.next b6 b7
    clear b6 w2 w3
    have hmm := @run_makeMap Try.prog
    generalize hF : mkF (s0.map ky) z1 (min s0.length z1.length) = F at *
    generalize hG : mkF (s2.map ky) z3 (min s2.length z3.length) = G at *
    have HF : Hid (mkF (s0.map ky) z1 (min s0.length z1.length) = F) := hF
    have HG : Hid (mkF (s2.map ky) z3 (min s2.length z3.length) = G) := hG
    clear hF hG
    go_wp2_with (go_at_call 15; refine (pairs_any _ _ _ _ _ _ _).mono ?_; rintro e w' ⟨rfl, rfl⟩)
    clear hmm
    go_loopw [14] (fun i wr => ∃ k : Nat, k ≤ min s0.length z1.length ∧ i = .int .i64 k ∧ SetIn wr w7.heap.size k (fun x => inTake s0 k x && both F G x) ∧ Below w7.heap.size w7 wr) (fun i _ => min s0.length z1.length - (intOf i).toNat)
    case atStart => exact ⟨0, Nat.zero_le _, rfl, (SetIn.made w7).congr (fun x => by rw [inTake_zero s0 x]; rfl), (Below.refl _ _).alloc (Nat.le_refl _) _⟩
    case round =>
      obtain ⟨k, hk, rfl, hset, hbel⟩ := hrel
      by_cases hlt : k < min s0.length z1.length
      · have hka := h0'.below hbel
        obtain ⟨b, q, s, hb, hidx, hcell, hsz, hs'⟩ := hka.idx (k := k) (by omega) c0'
        have hm' := hm.below hbel
        have hv' := hv.below hbel
        have ho' := ho.below hbel
        have hlv := hv'.look hsz false
        have hlo := ho'.look hsz false
        simp only [Bool.false_eq_true, if_false] at hlv hlo
        by_cases hp : 0 < val F (ky s)
        · by_cases hq : 0 < val G (ky s)
          · go_wp2_with (first
              | (go_at_call 21; refine (meetAt_any hm' hv' ho' hsz).mono ?_; rintro e w' ⟨rfl, rfl⟩)
              | (at_mapUpdate; refine wp_add _ rfl _ _ _ rfl _ _ _ rfl hset (by unfold maxLen; omega) _ rfl hsz rfl ?_; intro wn hsetn hgn))
            go_roundw
            case rel => exact ⟨k + 1, by omega, by go_num, hsetn.congr (both_step (by omega) hs'.out hp hq), hbel.grown hgn hbel.size (fun j hj => by cases hj; exact Nat.le_refl _)⟩
            case measure => simp [intOf]; omega
          · go_wp2_with (go_at_call 21; refine (meetAt_any hm' hv' ho' hsz).mono ?_; rintro e w' ⟨rfl, rfl⟩)
            go_roundw
            case rel => exact ⟨k + 1, by omega, by go_num, (hset.mono (by omega)).congr (both_skip (by omega) hs'.out (fun h => by have := h.2; omega)), hbel⟩
            case measure => simp [intOf]; omega
        · go_wp2_with (go_at_call 21; refine (meetAt_any hm' hv' ho' hsz).mono ?_; rintro e w' ⟨rfl, rfl⟩)
          go_roundw
          case rel => exact ⟨k + 1, by omega, by go_num, (hset.mono (by omega)).congr (both_skip (by omega) hs'.out (fun h => by have := h.1; omega)), hbel⟩
          case measure => simp [intOf]; omega
      · have hkl : k = min s0.length z1.length := by omega
        have HK : Hid (k = min s0.length z1.length) := hkl
        clear hkl
        go_wp2_with (go_at_call 15; refine (pairs_any _ _ _ _ _ _ _).mono ?_; rintro e w' ⟨rfl, rfl⟩)
        go_loopw [17] (fun i wr => ∃ k2 : Nat, k2 ≤ min s2.length z3.length ∧ i = .int .i64 k2 ∧ SetIn wr w7.heap.size (k + k2) (fun x => (inTake s0 k x && both F G x) || (inTake s2 k2 x && both F G x)) ∧ Below w7.heap.size w7 wr) (fun i _ => min s2.length z3.length - (intOf i).toNat)
        case atStart => exact ⟨0, Nat.zero_le _, rfl, hset.congr (fun x => by rw [inTake_zero s2 x, Bool.false_and, Bool.or_false]), hbel⟩
        case round =>
          clear hset hbel
          obtain ⟨k2, hk2, rfl, hset, hbel⟩ := hrel
          by_cases hlt2 : k2 < min s2.length z3.length
          · have hka := h2'.below hbel
            obtain ⟨b, q, s, hb, hidx, hcell, hsz, hs'⟩ := hka.idx (k := k2) (by omega) c2'
            have hm' := hm.below hbel
            have hv' := hv.below hbel
            have ho' := ho.below hbel
            have hlv := hv'.look hsz false
            have hlo := ho'.look hsz false
            simp only [Bool.false_eq_true, if_false] at hlv hlo
            by_cases hp : 0 < val F (ky s)
            · by_cases hq : 0 < val G (ky s)
              · go_wp2_with (first
                  | (go_at_call 21; refine (meetAt_any hm' hv' ho' hsz).mono ?_; rintro e w' ⟨rfl, rfl⟩)
                  | (at_mapUpdate; refine wp_add _ rfl _ _ _ rfl _ _ _ rfl hset (by unfold maxLen; omega) _ rfl hsz rfl ?_; intro wn hsetn hgn))
                go_roundw
                case rel => exact ⟨k2 + 1, by omega, by go_num, hsetn.congr (fun x => by rw [Bool.or_assoc, both_step (by omega) hs'.out hp hq]), hbel.grown hgn hbel.size (fun j hj => by cases hj; exact Nat.le_refl _)⟩
                case measure => simp [intOf]; omega
              · go_wp2_with (go_at_call 21; refine (meetAt_any hm' hv' ho' hsz).mono ?_; rintro e w' ⟨rfl, rfl⟩)
                go_roundw
                case rel => exact ⟨k2 + 1, by omega, by go_num, (hset.mono (by omega)).congr (fun x => by rw [both_skip (by omega) hs'.out (fun h => by have := h.2; omega)]), hbel⟩
                case measure => simp [intOf]; omega
            · go_wp2_with (go_at_call 21; refine (meetAt_any hm' hv' ho' hsz).mono ?_; rintro e w' ⟨rfl, rfl⟩)
              go_roundw
              case rel => exact ⟨k2 + 1, by omega, by go_num, (hset.mono (by omega)).congr (fun x => by rw [both_skip (by omega) hs'.out (fun h => by have := h.1; omega)]), hbel⟩
              case measure => simp [intOf]; omega
          · obtain ⟨m1, hm1, _, hlen1⟩ := (hm.below hbel).size
            obtain ⟨m2, hm2, _, hlen2⟩ := hset.size
            have e : m1 = m2 := hm1.uniq hm2 (fun x => by
              rw [meet_some ho.wf.nn]
              show both F G x = _
              cases hbo : both F G x with
              | false => simp
              | true =>
                have hin : inTake s0 k x = true := by
                  rw [HK.out]
                  exact both_in (zs := z1) (Nat.min_le_left _ _) (by rw [HF.out]; exact hbo)
                rw [hin]; simp)
            have B := Below.next b7 hbel
            subst e
            clear hm1 hm2 hset
            go_wp2
            go_ret
            exact ⟨by simp, B⟩

end Go.Proofs.Qxb6000019a
