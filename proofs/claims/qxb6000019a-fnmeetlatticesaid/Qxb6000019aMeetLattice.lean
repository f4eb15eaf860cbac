/-
  The walk of FnMeetLattice.
-/
import Derived.Test.Qxb6000019aSet
import Derived.Test.Qxb6000019aSlices6
namespace Go.Proofs.Qxb6000019a
open Go.RowKit Go.Maps

def FinML (w : World) (e : Ending) (w' : World) : Prop := e = .returned (.bool true) ∧ Below w.heap.size w w'

/-- the positive entries of F at the first k keys -/
def pvF (ss : List ByteArray) (F : Fn) (k : Nat) : Fn := fun x => if inTake ss k x then posF F x else none
theorem pvF_zero (ss : List ByteArray) (F : Fn) : pvF ss F 0 = emp := by
  funext x
  simp [pvF, inTake_zero, emp]
theorem pvF_put {ss : List ByteArray} {F : Fn} {k : Nat} (hk : k < ss.length) {s : ByteArray} (hs : s = ss.getD k ByteArray.empty) (h : 0 < val F (ky s)) : upd (pvF ss F k) (ky s) (val F (ky s)) = pvF ss F (k + 1) := by
  funext x
  unfold upd pvF
  rw [← inTake_step hk hs x]
  by_cases e : x = ky s
  · subst e
    rw [pos_by_val]
    simp [h]
  · simp [e]
theorem pvF_skip {ss : List ByteArray} {F : Fn} {k : Nat} (hk : k < ss.length) {s : ByteArray} (hs : s = ss.getD k ByteArray.empty) (h : ¬ 0 < val F (ky s)) : pvF ss F k = pvF ss F (k + 1) := by
  funext x
  unfold pvF
  rw [← inTake_step hk hs x]
  by_cases e : x = ky s
  · subst e
    rw [pos_by_val, if_neg h]
    simp
  · simp [e]
theorem pvF_end {ss : List ByteArray} {zs : List Int} {n : Nat} (hn : n ≤ ss.length) {F : Fn} (hF : mkF (ss.map ky) zs n = F) : pvF ss F n = posF F := by
  funext x
  unfold pvF
  rw [← mkF_inTake (zs := zs) hn, hF]
  cases h : F x with
  | none => simp [posF, h]
  | some c => simp

set_option maxRecDepth 100000 in
set_option maxHeartbeats 2000000 in
theorem meetLattice_any (a0 a1 a2 a3 a4 a5 : Option Addr) (s0 s2 s4 : List ByteArray) (z1 z3 z5 : List Int) (c0 c1 c2 c3 c4 c5 : Nat) (w : World) (h0 : StrsAt w a0 s0) (h1 : IntsAt w a1 z1) (h2 : StrsAt w a2 s2) (h3 : IntsAt w a3 z3) (h4 : StrsAt w a4 s4) (h5 : IntsAt w a5 z5) :
    Calls Try.prog 6 #[.slice a0 s0.length c0, .slice a1 z1.length c1, .slice a2 s2.length c2, .slice a3 z3.length c3, .slice a4 s4.length c4, .slice a5 z5.length c5] w fun e w' => FinML w e w' := by
  go_enter Try.func6, Try.ntmps6
  go_wp2_with fail
  refine (bytes22_any a0 a1 a2 a3 a4 a5 s0 s2 s4 c0 _ c1 c2 _ c3 c4 _ c5 _ h0 h1.2.2 h2 h3.2.2 h4 h5.2.2).mono ?_
  rintro e w' ⟨⟨bb, rfl⟩, rfl⟩
  cases bb with
  | false =>
    go_wp2_with fail
    go_ret
    exact ⟨rfl, Below.refl _ _⟩
  | true =>
    by_cases g0 : 65536 < s0.length
    · have hb : decide ((65536 : Int) < (s0.length : Int)) = true := by simp; omega
      go_wp2_with fail
      go_ret
      exact ⟨rfl, Below.refl _ _⟩
    by_cases g1 : 65536 < z1.length
    · have hb : decide ((65536 : Int) < (z1.length : Int)) = true := by simp; omega
      go_wp2_with fail
      go_ret
      exact ⟨rfl, Below.refl _ _⟩
    by_cases g2 : 65536 < s2.length
    · have hb : decide ((65536 : Int) < (s2.length : Int)) = true := by simp; omega
      go_wp2_with fail
      go_ret
      exact ⟨rfl, Below.refl _ _⟩
    by_cases g3 : 65536 < z3.length
    · have hb : decide ((65536 : Int) < (z3.length : Int)) = true := by simp; omega
      go_wp2_with fail
      go_ret
      exact ⟨rfl, Below.refl _ _⟩
    by_cases g4 : 65536 < s4.length
    · have hb : decide ((65536 : Int) < (s4.length : Int)) = true := by simp; omega
      go_wp2_with fail
      go_ret
      exact ⟨rfl, Below.refl _ _⟩
    by_cases g5 : 65536 < z5.length
    · have hb : decide ((65536 : Int) < (z5.length : Int)) = true := by simp; omega
      go_wp2_with fail
      go_ret
      exact ⟨rfl, Below.refl _ _⟩
    have l0 : s0.length ≤ 65536 := by omega
    have l1 : z1.length ≤ 65536 := by omega
    have l2 : s2.length ≤ 65536 := by omega
    have l3 : z3.length ≤ 65536 := by omega
    have l4 : s4.length ≤ 65536 := by omega
    have l5 : z5.length ≤ 65536 := by omega
    clear g0 g1 g2 g3 g4 g5
    go_wp2_with fail
    refine (zbytes_any a0 a1 s0 c0 _ c1 _ h0 h1.2.2).mono ?_
    rintro e w' ⟨⟨t1, rfl, t10, t11⟩, rfl⟩
    go_wp2_with fail
    refine (zbytes_any a2 a3 s2 c2 _ c3 _ h2 h3.2.2).mono ?_
    rintro e w' ⟨⟨t2, rfl, t20, t21⟩, rfl⟩
    go_wp2_with fail
    refine (zbytes_any a4 a5 s4 c4 _ c5 _ h4 h5.2.2).mono ?_
    rintro e w' ⟨⟨t3, rfl, t30, t31⟩, rfl⟩
    by_cases gt : 1048576 < t1 + t2 + t3
    · go_wp2_with fail
      go_ret
      exact ⟨rfl, Below.refl _ _⟩
    go_wp2_with fail
    refine (cloneS_any a0 s0 c0 _ h0 l0).mono ?_
    rintro e w1 ⟨a0', c0', rfl, k0, b1⟩
    clear h0
    replace h1 := h1.below b1
    replace h2 := h2.below b1
    replace h3 := h3.below b1
    replace h4 := h4.below b1
    replace h5 := h5.below b1
    go_wp2_with fail
    refine (cloneU_any a1 z1 c1 _ h1 l1).mono ?_
    rintro e w2 ⟨a1', c1', rfl, k1, b2⟩
    clear h1
    replace h2 := h2.below b2
    replace h3 := h3.below b2
    replace h4 := h4.below b2
    replace h5 := h5.below b2
    replace k0 := k0.below b2
    replace b2 := Below.next b1 b2
    clear b1
    go_wp2_with fail
    refine (cloneS_any a2 s2 c2 _ h2 l2).mono ?_
    rintro e w3 ⟨a2', c2', rfl, k2, b3⟩
    clear h2
    replace h3 := h3.below b3
    replace h4 := h4.below b3
    replace h5 := h5.below b3
    replace k0 := k0.below b3
    replace k1 := k1.below b3
    replace b3 := Below.next b2 b3
    clear b2
    go_wp2_with fail
    refine (cloneU_any a3 z3 c3 _ h3 l3).mono ?_
    rintro e w4 ⟨a3', c3', rfl, k3, b4⟩
    clear h3
    replace h4 := h4.below b4
    replace h5 := h5.below b4
    replace k0 := k0.below b4
    replace k1 := k1.below b4
    replace k2 := k2.below b4
    replace b4 := Below.next b3 b4
    clear b3
    go_wp2_with fail
    refine (cloneS_any a4 s4 c4 _ h4 l4).mono ?_
    rintro e w5 ⟨a4', c4', rfl, k4, b5⟩
    clear h4
    replace h5 := h5.below b5
    replace k0 := k0.below b5
    replace k1 := k1.below b5
    replace k2 := k2.below b5
    replace k3 := k3.below b5
    replace b5 := Below.next b4 b5
    clear b4
    go_wp2_with fail
    refine (cloneU_any a5 z5 c5 _ h5 l5).mono ?_
    rintro e w6 ⟨a5', c5', rfl, k5, b6⟩
    clear h5
    replace k0 := k0.below b6
    replace k1 := k1.below b6
    replace k2 := k2.below b6
    replace k3 := k3.below b6
    replace k4 := k4.below b6
    replace b6 := Below.next b5 b6
    clear b5
    go_wp2_with fail
    refine (mk_any a0' a1' s0 z1 c0' c1' _ k0 k1 l0 l1).mono ?_
    rintro e w7 ⟨v, rfl, hv, b7⟩
    clear k1
    replace k0 := k0.below b7
    replace k2 := k2.below b7
    replace k3 := k3.below b7
    replace k4 := k4.below b7
    replace k5 := k5.below b7
    replace b7 := Below.next b6 b7
    clear b6
    go_wp2_with fail
    refine (mk_any a2' a3' s2 z3 c2' c3' _ k2 k3 l2 l3).mono ?_
    rintro e w8 ⟨o, rfl, ho, b8⟩
    clear k3
    replace k0 := k0.below b8
    replace k2 := k2.below b8
    replace k4 := k4.below b8
    replace k5 := k5.below b8
    replace hv := hv.below b8
    replace b8 := Below.next b7 b8
    clear b7
    go_wp2_with fail
    refine (mk_any a4' a5' s4 z5 c4' c5' _ k4 k5 l4 l5).mono ?_
    rintro e w9 ⟨c, rfl, hc, b9⟩
    clear k5
    replace k0 := k0.below b9
    replace k2 := k2.below b9
    replace k4 := k4.below b9
    replace hv := hv.below b9
    replace ho := ho.below b9
    replace b9 := Below.next b8 b9
    clear b8
    generalize hEv : mkF (s0.map ky) z1 (min s0.length z1.length) = Fv at *
    have HEv : Hid (mkF (s0.map ky) z1 (min s0.length z1.length) = Fv) := hEv
    clear hEv
    have nv := hv.wf.nn
    generalize hEo : mkF (s2.map ky) z3 (min s2.length z3.length) = Fo at *
    have HEo : Hid (mkF (s2.map ky) z3 (min s2.length z3.length) = Fo) := hEo
    clear hEo
    have no := ho.wf.nn
    generalize hEc : mkF (s4.map ky) z5 (min s4.length z5.length) = Fc at *
    have HEc : Hid (mkF (s4.map ky) z5 (min s4.length z5.length) = Fc) := hEc
    clear hEc
    have nc := hc.wf.nn
    have hmm := @run_makeMap Try.prog
    go_wp2_with (go_at_call 15; refine (pairs_any _ _ _ _ _ _ _).mono ?_; rintro e w' ⟨rfl, rfl⟩)
    clear hmm
    go_loopw [18] (fun i wr => ∃ k : Nat, k ≤ min s0.length z1.length ∧ i = .int .i64 k ∧ VerIn wr w9.heap.size k (pvF s0 Fv k) ∧ Below w9.heap.size w9 wr) (fun i _ => min s0.length z1.length - (intOf i).toNat)
    case atStart => exact ⟨0, Nat.zero_le _, rfl, by rw [pvF_zero]; exact VerIn.made w9, (Below.refl _ _).alloc (Nat.le_refl _) _⟩
    case round =>
      obtain ⟨k, hk, rfl, hpv, hbel⟩ := hrel
      by_cases hlt : k < min s0.length z1.length
      · have hka := k0.below hbel
        obtain ⟨b, q, s, hb, hidx, hcell, hsz, hs'⟩ := hka.idx (k := k) (by omega) c0'
        have hv' := hv.below hbel
        have hlv := hv'.look hsz false
        have hwv := hv'.wf.val (ky s)
        simp only [Bool.false_eq_true, if_false] at hlv
        by_cases hp : 0 < val Fv (ky s)
        · have HP : Hid (0 < val Fv (ky s)) := hp
          go_wp2_with (first
            | (at_mapUpdate; refine wp_put _ rfl _ _ _ rfl _ _ _ rfl hpv (by unfold maxLen; omega) _ rfl hsz _ rfl hwv ?_; intro wn hpvn hgn))
          go_roundw
          case rel => exact ⟨k + 1, by omega, by go_num, pvF_put (by omega) hs'.out HP.out ▸ hpvn, hbel.grown hgn hbel.size (fun j hj => by cases hj; exact Nat.le_refl _)⟩
          case measure => simp [intOf]; omega
        · go_wp2_with fail
          go_roundw
          case rel => exact ⟨k + 1, by omega, by go_num, pvF_skip (by omega) hs'.out (by omega) ▸ (hpv.mono (by omega)), hbel⟩
          case measure => simp [intOf]; omega
      · have hkl : k = min s0.length z1.length := by omega
        have hpos : pvF s0 Fv k = posF Fv := by rw [hkl]; exact pvF_end (Nat.min_le_left _ _) HEv.out
        rw [hpos] at hpv
        have HK : Hid (k = min s0.length z1.length) := hkl
        clear hkl hpos
        have hpv := hpv.at
        replace k0 := k0.below hbel
        replace k2 := k2.below hbel
        replace k4 := k4.below hbel
        replace hv := hv.below hbel
        replace ho := ho.below hbel
        replace hc := hc.below hbel
        replace hbel := Below.next b9 hbel
        clear b9
        go_wp2_with fail
        refine (meet_any hv ho (by omega)).mono ?_
        rintro e w10 ⟨p1, rfl, hp1, b10⟩
        replace k0 := k0.below b10
        replace k2 := k2.below b10
        replace k4 := k4.below b10
        replace hv := hv.below b10
        replace ho := ho.below b10
        replace hc := hc.below b10
        replace hpv := hpv.below b10
        replace b10 := Below.next hbel b10
        clear hbel
        go_wp2_with fail
        refine (meet_any ho hv (by omega)).mono ?_
        rintro e w11 ⟨p2, rfl, hp2, b11⟩
        replace k0 := k0.below b11
        replace k2 := k2.below b11
        replace k4 := k4.below b11
        replace hv := hv.below b11
        replace ho := ho.below b11
        replace hc := hc.below b11
        replace hpv := hpv.below b11
        replace hp1 := hp1.below b11
        replace b11 := Below.next b10 b11
        clear b10
        go_wp2_with fail
        refine (eqOn_any hp1 (meet_comm no nv ▸ hp2) k0 k2 k4).mono ?_
        rintro e w11 ⟨rfl, rfl⟩
        clear hp1 hp2
        go_wp2_with fail
        refine (meet_any hv ho (by omega)).mono ?_
        rintro e w12 ⟨p3, rfl, hp3, b12⟩
        replace k0 := k0.below b12
        replace k2 := k2.below b12
        replace k4 := k4.below b12
        replace hv := hv.below b12
        replace ho := ho.below b12
        replace hc := hc.below b12
        replace hpv := hpv.below b12
        replace b12 := Below.next b11 b12
        clear b11
        go_wp2_with fail
        refine (meet_any hp3 hc (by omega)).mono ?_
        rintro e w13 ⟨p4, rfl, hp4, b13⟩
        replace k0 := k0.below b13
        replace k2 := k2.below b13
        replace k4 := k4.below b13
        replace hv := hv.below b13
        replace ho := ho.below b13
        replace hc := hc.below b13
        replace hpv := hpv.below b13
        replace hp3 := hp3.below b13
        replace b13 := Below.next b12 b13
        clear b12
        go_wp2_with fail
        refine (meet_any ho hc (by omega)).mono ?_
        rintro e w14 ⟨p5, rfl, hp5, b14⟩
        replace k0 := k0.below b14
        replace k2 := k2.below b14
        replace k4 := k4.below b14
        replace hv := hv.below b14
        replace ho := ho.below b14
        replace hc := hc.below b14
        replace hpv := hpv.below b14
        replace hp3 := hp3.below b14
        replace hp4 := hp4.below b14
        replace b14 := Below.next b13 b14
        clear b13
        go_wp2_with fail
        refine (meet_any hv hp5 (by omega)).mono ?_
        rintro e w15 ⟨p6, rfl, hp6, b15⟩
        replace k0 := k0.below b15
        replace k2 := k2.below b15
        replace k4 := k4.below b15
        replace hv := hv.below b15
        replace ho := ho.below b15
        replace hc := hc.below b15
        replace hpv := hpv.below b15
        replace hp3 := hp3.below b15
        replace hp4 := hp4.below b15
        replace hp5 := hp5.below b15
        replace b15 := Below.next b14 b15
        clear b14
        go_wp2_with fail
        refine (eqOn_any hp4 ((meet_assoc nv no nc).symm ▸ hp6) k0 k2 k4).mono ?_
        rintro e w15 ⟨rfl, rfl⟩
        clear hp3 hp4 hp5 hp6
        go_wp2_with fail
        refine (meet_any hv hv (by omega)).mono ?_
        rintro e w16 ⟨p7, rfl, hp7, b16⟩
        replace k0 := k0.below b16
        replace k2 := k2.below b16
        replace k4 := k4.below b16
        replace hv := hv.below b16
        replace ho := ho.below b16
        replace hc := hc.below b16
        replace hpv := hpv.below b16
        replace b16 := Below.next b15 b16
        clear b15
        go_wp2_with fail
        refine (eqOn_any hp7 ((meet_idem nv).symm ▸ hpv) k0 k2 k4).mono ?_
        rintro e w16 ⟨rfl, rfl⟩
        clear hp7
        go_wp2_with fail
        refine (meet_any hv ho (by omega)).mono ?_
        rintro e w17 ⟨p8, rfl, hp8, b17⟩
        replace k0 := k0.below b17
        replace k2 := k2.below b17
        replace k4 := k4.below b17
        replace hv := hv.below b17
        replace ho := ho.below b17
        replace hc := hc.below b17
        replace hpv := hpv.below b17
        replace b17 := Below.next b16 b17
        clear b16
        go_wp2_with fail
        refine (join_any hv hp8 (by omega) (by omega)).mono ?_
        rintro e w18 ⟨p9, rfl, hp9, b18⟩
        replace k0 := k0.below b18
        replace k2 := k2.below b18
        replace k4 := k4.below b18
        replace hv := hv.below b18
        replace ho := ho.below b18
        replace hc := hc.below b18
        replace hpv := hpv.below b18
        replace hp8 := hp8.below b18
        replace b18 := Below.next b17 b18
        clear b17
        go_wp2_with fail
        refine (eqOn_any hp9 ((absorb_join nv no).symm ▸ hv) k0 k2 k4).mono ?_
        rintro e w18 ⟨rfl, rfl⟩
        clear hp8 hp9
        go_wp2_with fail
        refine (join_any hv ho (by omega) (by omega)).mono ?_
        rintro e w19 ⟨q1, rfl, hq1, b19⟩
        replace k0 := k0.below b19
        replace k2 := k2.below b19
        replace k4 := k4.below b19
        replace hv := hv.below b19
        replace ho := ho.below b19
        replace hc := hc.below b19
        replace hpv := hpv.below b19
        replace b19 := Below.next b18 b19
        clear b18
        go_wp2_with fail
        refine (meet_any hv hq1 (by omega)).mono ?_
        rintro e w20 ⟨q2, rfl, hq2, b20⟩
        replace k0 := k0.below b20
        replace k2 := k2.below b20
        replace k4 := k4.below b20
        replace hv := hv.below b20
        replace ho := ho.below b20
        replace hc := hc.below b20
        replace hpv := hpv.below b20
        replace hq1 := hq1.below b20
        replace b20 := Below.next b19 b20
        clear b19
        go_wp2_with fail
        refine (eqOn_any hq2 ((absorb_meet nv no).symm ▸ hpv) k0 k2 k4).mono ?_
        rintro e w20 ⟨rfl, rfl⟩
        go_wp2_with fail
        go_ret
        exact ⟨rfl, b20⟩

end Go.Proofs.Qxb6000019a
