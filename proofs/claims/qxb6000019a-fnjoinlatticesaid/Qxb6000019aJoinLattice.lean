/-
  The walk of FnJoinLattice.
-/
import Derived.Test.Qxb6000019aSet
import Derived.Test.Qxb6000019aSlices6
namespace Go.Proofs.Qxb6000019a
open Go.RowKit Go.Maps

def FinJL (w : World) (e : Ending) (w' : World) : Prop := e = .returned (.bool true) ∧ Below w.heap.size w w'

set_option maxRecDepth 100000 in
set_option maxHeartbeats 2000000 in
theorem joinLattice_any (a0 a1 a2 a3 a4 a5 : Option Addr) (s0 s2 s4 : List ByteArray) (z1 z3 z5 : List Int) (c0 c1 c2 c3 c4 c5 : Nat) (w : World) (h0 : StrsAt w a0 s0) (h1 : IntsAt w a1 z1) (h2 : StrsAt w a2 s2) (h3 : IntsAt w a3 z3) (h4 : StrsAt w a4 s4) (h5 : IntsAt w a5 z5) :
    Calls Try.prog 4 #[.slice a0 s0.length c0, .slice a1 z1.length c1, .slice a2 s2.length c2, .slice a3 z3.length c3, .slice a4 s4.length c4, .slice a5 z5.length c5] w fun e w' => FinJL w e w' := by
  go_enter Try.func4, Try.ntmps4
  go_wp2_with fail
  refine (bytes17_any a0 a1 a2 a3 a4 a5 s0 s2 s4 c0 _ c1 c2 _ c3 c4 _ c5 _ h0 h1.2.2 h2 h3.2.2 h4 h5.2.2).mono ?_
  rintro e w' ⟨⟨bb, rfl⟩, rfl⟩
  cases bb with
  | false =>
    go_wp2_with fail
    go_ret
    exact ⟨rfl, Below.refl _ _⟩
  | true =>
    by_cases g0 : 65536 < s0.length
    · have hb : decide ((65536 : Int) < (s0.length : Int)) = true := by simp; omega
      go_wp2_with fail
      go_ret
      exact ⟨rfl, Below.refl _ _⟩
    by_cases g1 : 65536 < z1.length
    · have hb : decide ((65536 : Int) < (z1.length : Int)) = true := by simp; omega
      go_wp2_with fail
      go_ret
      exact ⟨rfl, Below.refl _ _⟩
    by_cases g2 : 65536 < s2.length
    · have hb : decide ((65536 : Int) < (s2.length : Int)) = true := by simp; omega
      go_wp2_with fail
      go_ret
      exact ⟨rfl, Below.refl _ _⟩
    by_cases g3 : 65536 < z3.length
    · have hb : decide ((65536 : Int) < (z3.length : Int)) = true := by simp; omega
      go_wp2_with fail
      go_ret
      exact ⟨rfl, Below.refl _ _⟩
    by_cases g4 : 65536 < s4.length
    · have hb : decide ((65536 : Int) < (s4.length : Int)) = true := by simp; omega
      go_wp2_with fail
      go_ret
      exact ⟨rfl, Below.refl _ _⟩
    by_cases g5 : 65536 < z5.length
    · have hb : decide ((65536 : Int) < (z5.length : Int)) = true := by simp; omega
      go_wp2_with fail
      go_ret
      exact ⟨rfl, Below.refl _ _⟩
    have l0 : s0.length ≤ 65536 := by omega
    have l1 : z1.length ≤ 65536 := by omega
    have l2 : s2.length ≤ 65536 := by omega
    have l3 : z3.length ≤ 65536 := by omega
    have l4 : s4.length ≤ 65536 := by omega
    have l5 : z5.length ≤ 65536 := by omega
    clear g0 g1 g2 g3 g4 g5
    go_wp2_with fail
    refine (zbytes_any a0 a1 s0 c0 _ c1 _ h0 h1.2.2).mono ?_
    rintro e w' ⟨⟨t1, rfl, t10, t11⟩, rfl⟩
    go_wp2_with fail
    refine (zbytes_any a2 a3 s2 c2 _ c3 _ h2 h3.2.2).mono ?_
    rintro e w' ⟨⟨t2, rfl, t20, t21⟩, rfl⟩
    go_wp2_with fail
    refine (zbytes_any a4 a5 s4 c4 _ c5 _ h4 h5.2.2).mono ?_
    rintro e w' ⟨⟨t3, rfl, t30, t31⟩, rfl⟩
    by_cases gt : 1048576 < t1 + t2 + t3
    · go_wp2_with fail
      go_ret
      exact ⟨rfl, Below.refl _ _⟩
    go_wp2_with fail
    refine (cloneS_any a0 s0 c0 _ h0 l0).mono ?_
    rintro e w1 ⟨a0', c0', rfl, k0, b1⟩
    clear h0
    replace h1 := h1.below b1
    replace h2 := h2.below b1
    replace h3 := h3.below b1
    replace h4 := h4.below b1
    replace h5 := h5.below b1
    go_wp2_with fail
    refine (cloneU_any a1 z1 c1 _ h1 l1).mono ?_
    rintro e w2 ⟨a1', c1', rfl, k1, b2⟩
    clear h1
    replace h2 := h2.below b2
    replace h3 := h3.below b2
    replace h4 := h4.below b2
    replace h5 := h5.below b2
    replace k0 := k0.below b2
    replace b2 := Below.next b1 b2
    clear b1
    go_wp2_with fail
    refine (cloneS_any a2 s2 c2 _ h2 l2).mono ?_
    rintro e w3 ⟨a2', c2', rfl, k2, b3⟩
    clear h2
    replace h3 := h3.below b3
    replace h4 := h4.below b3
    replace h5 := h5.below b3
    replace k0 := k0.below b3
    replace k1 := k1.below b3
    replace b3 := Below.next b2 b3
    clear b2
    go_wp2_with fail
    refine (cloneU_any a3 z3 c3 _ h3 l3).mono ?_
    rintro e w4 ⟨a3', c3', rfl, k3, b4⟩
    clear h3
    replace h4 := h4.below b4
    replace h5 := h5.below b4
    replace k0 := k0.below b4
    replace k1 := k1.below b4
    replace k2 := k2.below b4
    replace b4 := Below.next b3 b4
    clear b3
    go_wp2_with fail
    refine (cloneS_any a4 s4 c4 _ h4 l4).mono ?_
    rintro e w5 ⟨a4', c4', rfl, k4, b5⟩
    clear h4
    replace h5 := h5.below b5
    replace k0 := k0.below b5
    replace k1 := k1.below b5
    replace k2 := k2.below b5
    replace k3 := k3.below b5
    replace b5 := Below.next b4 b5
    clear b4
    go_wp2_with fail
    refine (cloneU_any a5 z5 c5 _ h5 l5).mono ?_
    rintro e w6 ⟨a5', c5', rfl, k5, b6⟩
    clear h5
    replace k0 := k0.below b6
    replace k1 := k1.below b6
    replace k2 := k2.below b6
    replace k3 := k3.below b6
    replace k4 := k4.below b6
    replace b6 := Below.next b5 b6
    clear b5
    go_wp2_with fail
    refine (mk_any a0' a1' s0 z1 c0' c1' _ k0 k1 l0 l1).mono ?_
    rintro e w7 ⟨v, rfl, hv, b7⟩
    clear k1
    replace k0 := k0.below b7
    replace k2 := k2.below b7
    replace k3 := k3.below b7
    replace k4 := k4.below b7
    replace k5 := k5.below b7
    replace b7 := Below.next b6 b7
    clear b6
    go_wp2_with fail
    refine (mk_any a2' a3' s2 z3 c2' c3' _ k2 k3 l2 l3).mono ?_
    rintro e w8 ⟨o, rfl, ho, b8⟩
    clear k3
    replace k0 := k0.below b8
    replace k2 := k2.below b8
    replace k4 := k4.below b8
    replace k5 := k5.below b8
    replace hv := hv.below b8
    replace b8 := Below.next b7 b8
    clear b7
    go_wp2_with fail
    refine (mk_any a4' a5' s4 z5 c4' c5' _ k4 k5 l4 l5).mono ?_
    rintro e w9 ⟨c, rfl, hc, b9⟩
    clear k5
    replace k0 := k0.below b9
    replace k2 := k2.below b9
    replace k4 := k4.below b9
    replace hv := hv.below b9
    replace ho := ho.below b9
    replace b9 := Below.next b8 b9
    clear b8
    generalize hEv : mkF (s0.map ky) z1 (min s0.length z1.length) = Fv at *
    have HEv : Hid (mkF (s0.map ky) z1 (min s0.length z1.length) = Fv) := hEv
    clear hEv
    have nv := hv.wf.nn
    generalize hEo : mkF (s2.map ky) z3 (min s2.length z3.length) = Fo at *
    have HEo : Hid (mkF (s2.map ky) z3 (min s2.length z3.length) = Fo) := hEo
    clear hEo
    have no := ho.wf.nn
    generalize hEc : mkF (s4.map ky) z5 (min s4.length z5.length) = Fc at *
    have HEc : Hid (mkF (s4.map ky) z5 (min s4.length z5.length) = Fc) := hEc
    clear hEc
    have nc := hc.wf.nn
    go_wp2_with fail
    refine (join_any hv ho (by omega) (by omega)).mono ?_
    rintro e w10 ⟨p1, rfl, hp1, b10⟩
    replace k0 := k0.below b10
    replace k2 := k2.below b10
    replace k4 := k4.below b10
    replace hv := hv.below b10
    replace ho := ho.below b10
    replace hc := hc.below b10
    replace b10 := Below.next b9 b10
    clear b9
    go_wp2_with fail
    refine (join_any ho hv (by omega) (by omega)).mono ?_
    rintro e w11 ⟨p2, rfl, hp2, b11⟩
    replace k0 := k0.below b11
    replace k2 := k2.below b11
    replace k4 := k4.below b11
    replace hv := hv.below b11
    replace ho := ho.below b11
    replace hc := hc.below b11
    replace hp1 := hp1.below b11
    replace b11 := Below.next b10 b11
    clear b10
    go_wp2_with fail
    refine (eqOn_any hp1 (join_comm no nv ▸ hp2) k0 k2 k4).mono ?_
    rintro e w11 ⟨rfl, rfl⟩
    clear hp1 hp2
    go_wp2_with fail
    refine (join_any hv ho (by omega) (by omega)).mono ?_
    rintro e w12 ⟨p3, rfl, hp3, b12⟩
    replace k0 := k0.below b12
    replace k2 := k2.below b12
    replace k4 := k4.below b12
    replace hv := hv.below b12
    replace ho := ho.below b12
    replace hc := hc.below b12
    replace b12 := Below.next b11 b12
    clear b11
    go_wp2_with fail
    refine (join_any hp3 hc (by omega) (by omega)).mono ?_
    rintro e w13 ⟨p4, rfl, hp4, b13⟩
    replace k0 := k0.below b13
    replace k2 := k2.below b13
    replace k4 := k4.below b13
    replace hv := hv.below b13
    replace ho := ho.below b13
    replace hc := hc.below b13
    replace hp3 := hp3.below b13
    replace b13 := Below.next b12 b13
    clear b12
    go_wp2_with fail
    refine (join_any ho hc (by omega) (by omega)).mono ?_
    rintro e w14 ⟨p5, rfl, hp5, b14⟩
    replace k0 := k0.below b14
    replace k2 := k2.below b14
    replace k4 := k4.below b14
    replace hv := hv.below b14
    replace ho := ho.below b14
    replace hc := hc.below b14
    replace hp3 := hp3.below b14
    replace hp4 := hp4.below b14
    replace b14 := Below.next b13 b14
    clear b13
    go_wp2_with fail
    refine (join_any hv hp5 (by omega) (by omega)).mono ?_
    rintro e w15 ⟨p6, rfl, hp6, b15⟩
    replace k0 := k0.below b15
    replace k2 := k2.below b15
    replace k4 := k4.below b15
    replace hv := hv.below b15
    replace ho := ho.below b15
    replace hc := hc.below b15
    replace hp3 := hp3.below b15
    replace hp4 := hp4.below b15
    replace hp5 := hp5.below b15
    replace b15 := Below.next b14 b15
    clear b14
    go_wp2_with fail
    refine (eqOn_any hp4 ((join_assoc nv no nc).symm ▸ hp6) k0 k2 k4).mono ?_
    rintro e w15 ⟨rfl, rfl⟩
    clear hp3 hp4 hp5 hp6
    go_wp2_with fail
    refine (join_any hv hv (by omega) (by omega)).mono ?_
    rintro e w16 ⟨p7, rfl, hp7, b16⟩
    replace k0 := k0.below b16
    replace k2 := k2.below b16
    replace k4 := k4.below b16
    replace hv := hv.below b16
    replace ho := ho.below b16
    replace hc := hc.below b16
    replace b16 := Below.next b15 b16
    clear b15
    go_wp2_with fail
    refine (eqOn_any hp7 ((join_idem nv).symm ▸ hv) k0 k2 k4).mono ?_
    rintro e w16 ⟨rfl, rfl⟩
    clear hp7
    have hmm := @run_makeMap Try.prog
    go_wp2_with fail
    have bm : Below w16.heap.size w16 (w16.alloc (.map #[] 0)) := (Below.refl _ _).alloc (Nat.le_refl _) _
    have hemp : VerAt (w16.alloc (.map #[] 0)) (.map (some w16.heap.size)) 0 emp := (VerIn.made _).at
    clear hmm
    replace k0 := k0.below bm
    replace k2 := k2.below bm
    replace k4 := k4.below bm
    replace hv := hv.below bm
    replace ho := ho.below bm
    replace hc := hc.below bm
    replace bm := Below.next b16 bm
    clear b16
    refine (join_any hv hemp (by omega) (by omega)).mono ?_
    rintro e w17 ⟨p8, rfl, hp8, b17⟩
    replace k0 := k0.below b17
    replace k2 := k2.below b17
    replace k4 := k4.below b17
    replace hv := hv.below b17
    replace ho := ho.below b17
    replace hc := hc.below b17
    replace hemp := hemp.below b17
    replace b17 := Below.next bm b17
    clear bm
    rw [join_emp_right] at hp8
    go_wp2_with fail
    refine (eqOn_any hp8 hv k0 k2 k4).mono ?_
    rintro e w' ⟨rfl, rfl⟩
    go_wp2_with fail
    go_ret
    exact ⟨rfl, b17⟩

end Go.Proofs.Qxb6000019a
