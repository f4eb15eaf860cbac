/-
  The walk of FnFieldTextRoundTrip.
-/
import Derived.Test.Qxb6001755aTrip
import Derived.WalkSmall
namespace Go.Proofs.Qxb6001755a
open Go.RowKit

/-- the first k names and values bear none of the signs that cut -/
def Clean (ns vs : List ByteArray) (k : Nat) : Prop := ∀ j, j < k → hasB (ns.getD j ByteArray.empty) 61 = false ∧ hasB (ns.getD j ByteArray.empty) 32 = false ∧ hasB (vs.getD j ByteArray.empty) 32 = false

/-- where the cutting stands: inside the i-th word or just behind it; or behind the last -/
def Main (ns vs : List ByteArray) (n i p : Nat) : Prop := (i < n ∧ posT ns vs i ≤ p ∧ p ≤ posT ns vs i + (wL ns vs i).length) ∨ (i = n ∧ p = posT ns vs n)
def TripRel (ns vs : List ByteArray) (n : Nat) (w4 : World) (vi vst vp : Value) (wr : World) : Prop :=
  ∃ i p : Nat, vi = .int .i64 (i : Int) ∧ vst = .int .i64 ((posT ns vs i : Nat) : Int) ∧ vp = .int .i64 (p : Int) ∧ Main ns vs n i p ∧ Below w4.heap.size w4 wr

theorem Main.start (ns vs : List ByteArray) {n : Nat} (h : 0 < n) : Main ns vs n 0 0 := Or.inl ⟨h, Nat.zero_le _, Nat.zero_le _⟩
theorem Main.turn {ns vs : List ByteArray} {n i p : Nat} (hi : i < n) (hp : p = posT ns vs i + (wL ns vs i).length) : Main ns vs n (i + 1) (p + 1) ∧ posT ns vs (i + 1) = p + 1 := by
  have e : posT ns vs (i + 1) = p + 1 := by rw [hp]; rfl
  refine ⟨?_, e⟩
  by_cases h : i + 1 = n
  · exact Or.inr ⟨h, by rw [← h, e]⟩
  · exact Or.inl ⟨by omega, by omega, by omega⟩
theorem not_space {ns vs : List ByteArray} {n i : Nat} (hc : Clean ns vs n) (hi : i < n) {c : UInt8} (h : c ∈ wL ns vs i) : (((c.toNat : Nat) : Int) == 32) = false := by
  obtain ⟨_, h2, h3⟩ := hc i hi
  unfold hasB at h2 h3
  rw [decide_eq_false_iff_not] at h2 h3
  have hne : c ≠ 32 := by
    intro e
    subst e
    unfold wL at h
    rw [List.mem_append, List.mem_cons] at h
    rcases h with h | h | h
    · exact h2 h
    · exact absurd h (by decide)
    · exact h3 h
  exact byte_ne (c := 32) hne
theorem not_eq_sign {ns vs : List ByteArray} {n i : Nat} (hc : Clean ns vs n) (hi : i < n) {c : UInt8} (h : c ∈ (ns.getD i ByteArray.empty).data.toList) : (((c.toNat : Nat) : Int) == 61) = false := by
  obtain ⟨h1, _, _⟩ := hc i hi
  unfold hasB at h1
  rw [decide_eq_false_iff_not] at h1
  have hne : c ≠ 61 := by
    intro e
    subst e
    exact h1 h
  exact byte_ne (c := 61) hne

set_option maxRecDepth 100000 in
set_option maxHeartbeats 2000000 in
theorem tripLaw_any (a0 a1 : Option Addr) (ns vs : List ByteArray) (c0 c1 : Nat) (w : World) (h0 : StrsAt w a0 ns) (h1 : StrsAt w a1 vs) :
    Calls Try.prog 8 #[.slice a0 ns.length c0, .slice a1 vs.length c1] w fun e w' => FinT w e w' := by
  go_enter Try.func8, Try.ntmps8
  go_wp2_with fail
  refine (bytes26_any a0 a1 ns vs c0 c1 _ h0 h1).mono ?_
  rintro e w' ⟨⟨bb, rfl, hsum⟩, rfl⟩
  cases bb with
  | false =>
    clear hsum
    go_wp2_with fail
    go_ret
    exact ⟨rfl, Below.refl _ _⟩
  | true =>
    have hsh : ∀ f n, Short ns vs f n := fun f n => short_of_sum (hsum rfl) f n
    have HSH : Hid (∀ f n, Short ns vs f n) := hsh
    clear hsum hsh
    go_wp2_with fail
    refine (big20_any a0 a1 ns vs c0 c1 _ h0 h1).mono ?_
    rintro e w' ⟨⟨bb, rfl, hbb⟩, rfl⟩
    cases bb with
    | true =>
      clear hbb
      go_wp2_with fail
      go_ret
      exact ⟨rfl, Below.refl _ _⟩
    | false =>
      obtain ⟨l0, l1⟩ := hbb rfl
      clear hbb
      go_wp2_with fail
      refine (min2_any ns.length vs.length _).mono ?_
      rintro e w ⟨rfl, rfl⟩
      generalize hn : min ns.length vs.length = n
      have n0 : n ≤ ns.length := by omega
      have n1 : n ≤ vs.length := by omega
      clear hn
      by_cases hn0 : n = 0
      · subst hn0
        go_wp2_with fail
        go_ret
        exact ⟨rfl, Below.refl _ _⟩
      have hb : ((n : Int) == 0) = false := by simp; omega
      go_wp2_with fail
      clear hb
      go_loop [6] (fun i => ∃ k : Nat, k ≤ n ∧ i = .int .i64 k ∧ Clean ns vs k) (fun i => n - (intOf i).toNat)
      case atStart => exact ⟨0, Nat.zero_le _, rfl, fun j hj => by omega⟩
      case round =>
        obtain ⟨k, hk, rfl, hcl⟩ := hrel
        by_cases hlt : k < n
        · obtain ⟨b0, o0, s, _, hidx0, hcell0, hs0, hs⟩ := h0.idx (k := k) (by omega) c0
          obtain ⟨b1, o1, v, _, hidx1, hcell1, hv0, hv⟩ := h1.idx (k := k) (by omega) c1
          have hst : Hid (hasB s 61 = false → hasB s 32 = false → hasB v 32 = false → Clean ns vs (k + 1)) := by
            intro q1 q2 q3 j hj
            by_cases e : j = k
            · subst e
              rw [← hs.out, ← hv.out]
              exact ⟨q1, q2, q3⟩
            · exact hcl j (by omega)
          clear hcl hs hv
          go_wp2_with fail
          refine (has_any s 61 _ rfl _ hs0).mono ?_
          rintro e w ⟨rfl, rfl⟩
          cases q1 : hasB s 61 with
          | true =>
            clear hst
            go_wp2_with fail
            go_ret
            exact ⟨rfl, Below.refl _ _⟩
          | false =>
            go_wp2_with fail
            refine (has_any s 32 _ rfl _ hs0).mono ?_
            rintro e w ⟨rfl, rfl⟩
            cases q2 : hasB s 32 with
            | true =>
              clear hst
              go_wp2_with fail
              go_ret
              exact ⟨rfl, Below.refl _ _⟩
            | false =>
              go_wp2_with fail
              refine (has_any v 32 _ rfl _ hv0).mono ?_
              rintro e w ⟨rfl, rfl⟩
              cases q3 : hasB v 32 with
              | true =>
                clear hst
                go_wp2_with fail
                go_ret
                exact ⟨rfl, Below.refl _ _⟩
              | false =>
                have hc := hst.out q1 q2 q3
                clear hst q1 q2 q3
                go_wp2_with fail
                go_round
                case rel => exact ⟨k + 1, by omega, by go_num, hc⟩
                case measure => simp [intOf]; omega
        · have hkl : n = k := by omega
          subst hkl
          have HC : Hid (Clean ns vs n) := hcl
          clear hcl hlt hk
          go_wp2_with fail
          refine (copyS_any a0 ns c0 _ h0 l0).mono ?_
          rintro e w1 ⟨a0', c0', rfl, k0, b1⟩
          clear h0
          replace h1 := h1.below b1
          go_wp2_with fail
          refine (copyS_any a1 vs c1 _ h1 l1).mono ?_
          rintro e w2 ⟨a1', c1', rfl, k1, b2⟩
          clear h1
          replace k0 := k0.below b2
          replace b2 := Below.next b1 b2
          clear b1
          go_wp2_with fail
          refine (fields_any a0' a1' ns vs c0' c1' 0 n (n : Int) _ k0 k1 (by omega) (by omega) (by omega) (by omega)).mono ?_
          rintro e w3 ⟨rfl, hev, b3⟩
          replace k0 := k0.below b3
          replace k1 := k1.below b3
          replace b3 := Below.next b2 b3
          clear b2
          go_wp2_with fail
          refine (textOf_any _ n 0 ns vs _ hev (by omega) (HSH.out 0 n)).mono ?_
          rintro e w4 ⟨he, b4⟩
          unfold RetT at he
          subst he
          replace k0 := k0.below b4
          replace k1 := k1.below b4
          replace b4 := Below.next b3 b4
          clear b3 hev
          generalize hT : (⟨(textL ns vs 0 n).toArray⟩ : ByteArray) = T
          have HT : Hid (T.data.toList = textL ns vs 0 n) := by show _ = _; rw [← hT]
          have sT : T.size ≤ 140737488355328 := by rw [← hT]; exact txt_size (HSH.out 0 n) (by omega)
          clear hT
          go_wp2_with fail
          go_loopw [8, 9, 10] (fun vi vst vp wr => TripRel ns vs n w4 vi vst vp wr) (fun _ _ vp _ => T.size + 1 - (intOf vp).toNat)
          case atStart => exact ⟨0, 0, rfl, rfl, rfl, Main.start ns vs (by omega), Below.refl _ _⟩
          case round =>
            obtain ⟨i, p, rfl, rfl, rfl, hmain, hbel⟩ := hrel
            rcases hmain with ⟨hi, hp1, hp2⟩ | ⟨rfl, rfl⟩
            · have hle := text_le (ns := ns) (vs := vs) hi
              rw [← HT.out, size_list] at hle
              by_cases hin : p < posT ns vs i + (wL ns vs i).length
              · obtain ⟨c, hc1, hc2⟩ := text_in hi hp1 hin
                have hne := not_space HC.out hi hc2
                rw [← HT.out] at hc1
                have hidx := fun W => run_at W T p hc1
                have hpT : ((p : Int) == (T.size : Int)) = false := by rw [beq_eq_false_iff_ne]; omega
                have hpl : (p : Int) ≤ (T.size : Int) := by omega
                have HM : Hid (Main ns vs n i (p + 1)) := Or.inl ⟨hi, by omega, by omega⟩
                clear hc1 hc2 hp1 hp2 hin hle
                go_wp2_with fail
                go_roundw
                case rel => exact ⟨i, p + 1, rfl, rfl, by go_num, HM.out, hbel⟩
                case measure => simp [intOf]; omega
              · have hpe : p = posT ns vs i + (wL ns vs i).length := by omega
                have hbeh := text_behind (ns := ns) (vs := vs) hi
                rw [← HT.out, size_list, ← hpe] at hbeh
                have hturn := Main.turn hi hpe
                have HM : Hid (Main ns vs n (i + 1) (p + 1)) := hturn.1
                have HP1 : Hid (posT ns vs (i + 1) = p + 1) := hturn.2
                have hcutp := text_cut (ns := ns) (vs := vs) hi
                -- the word
                obtain ⟨Wd, hWd⟩ : ∃ Wd : ByteArray, Wd.data.toList = wL ns vs i := ⟨⟨(wL ns vs i).toArray⟩, rfl⟩
                have hcut := fun W => run_cut W T Wd (posT ns vs i) p hp1 (by omega) (by rw [hWd, HT.out, show p - posT ns vs i = (wL ns vs i).length by omega, hcutp])
                have hpl : (p : Int) ≤ (T.size : Int) := by omega
                have hin' : (i : Int) < (n : Int) := by omega
                obtain ⟨b0, o0, s, hb0, hidx0, hcell0', _, hs⟩ := (k0.below hbel).idx (k := i) (by omega) c0'
                obtain ⟨b1, o1, v, hb1, hidx1, hcell1', _, hv⟩ := (k1.below hbel).idx (k := i) (by omega) c1'
                have hWs : Wd.data.toList = s.data.toList ++ 61 :: v.data.toList := by rw [hWd, hs.out, hv.out]; rfl
                have hWz : Wd.size = s.size + 1 + v.size := by
                  rw [← size_list, hWs, List.length_append, List.length_cons, size_list, size_list]; omega
                have hsc : Hid (∀ c : UInt8, c ∈ s.data.toList → (((c.toNat : Nat) : Int) == 61) = false) := by
                  intro c hc
                  rw [hs.out] at hc
                  exact not_eq_sign HC.out hi hc
                have HW : Hid (Wd.data.toList = s.data.toList ++ 61 :: v.data.toList) := hWs
                have hss := HSH.out i 1 0 (by omega)
                rw [Nat.add_zero, ← hs.out, ← hv.out] at hss
                obtain ⟨hs1, hs2⟩ := hss
                generalize posT ns vs i = P at *
                have HZ : Hid (Wd.size = s.size + 1 + v.size) := hWz
                clear hturn hcutp hWd hWs hs hv hpe hle hin hp2 HC hWz
                rcases hbeh with ⟨_, hend⟩ | ⟨_, hmid, hsp⟩
                · have hpT : ((p : Int) == (T.size : Int)) = true := by rw [beq_iff_eq]; omega
                  clear hend
                  go_wp2_with fail
                  clear hcut
                  go_loop [12, 13] (fun ve vq => ve = .int .i64 (-1) ∧ ∃ q : Nat, q ≤ s.size ∧ vq = .int .i64 (q : Int)) (fun _ vq => s.size + 1 - (intOf vq).toNat)
                  case atStart => exact ⟨rfl, 0, Nat.zero_le _, rfl⟩
                  case round =>
                    obtain ⟨rfl, q, hq, rfl⟩ := hrel
                    have hqz : (q : Int) < (Wd.size : Int) := by have := HZ.out; omega
                    by_cases hql : q < s.size
                    · obtain ⟨c, hc⟩ : ∃ c, s.data.toList[q]? = some c := ⟨_, List.getElem?_eq_getElem hql⟩
                      have hce := hsc.out c (List.mem_of_getElem? hc)
                      have hqi := fun W => run_at W Wd q (c := c) (by rw [HW.out, List.getElem?_append_left hql]; exact hc)
                      clear hc
                      go_wp2_with fail
                      go_round
                      case rel => exact ⟨rfl, q + 1, by omega, by go_num⟩
                      case measure => simp [intOf]; omega
                    · have hqe : q = s.size := by omega
                      have hqi := fun W => run_at W Wd q (c := 61) (by rw [HW.out, List.getElem?_append_right (by rw [size_list]; omega), size_list, hqe, Nat.sub_self]; rfl)
                      have hto := fun W => run_to W Wd s q (by have := HZ.out; omega) (by rw [HW.out, hqe, ← size_list, List.take_left])
                      have hfrom : ∀ W : World, (Instr.slice 9 (.string Wd) (some (.int .i64 ((q : Int) + 1))) none none).run Try.prog W = .ok (.string v) W := fun W => by
                        have h := run_from W Wd v (q + 1) (by have := HZ.out; omega) (by rw [HW.out, hqe, ← size_list, List.drop_append, List.drop_of_length_le (by omega)]; simp)
                        rwa [show ((q + 1 : Nat) : Int) = (q : Int) + 1 by omega] at h
                      have hqb : (q : Int) ≤ 1048576 := by omega
                      clear hqe hql hq
                      go_wp2_with fail
                      go_quiet (fail)
                      go_wp2
                      go_roundw
                      case rel => exact ⟨i + 1, p + 1, by go_num, by rw [HP1.out]; go_num, by go_num, HM.out, below_drewN hbel _⟩
                      case measure => simp [intOf]; omega
                · have hpT : ((p : Int) == (T.size : Int)) = false := by rw [beq_eq_false_iff_ne]; omega
                  have hidx := fun W => run_at W T p hsp
                  clear hsp
                  go_wp2_with fail
                  clear hcut
                  go_loop [12, 13] (fun ve vq => ve = .int .i64 (-1) ∧ ∃ q : Nat, q ≤ s.size ∧ vq = .int .i64 (q : Int)) (fun _ vq => s.size + 1 - (intOf vq).toNat)
                  case atStart => exact ⟨rfl, 0, Nat.zero_le _, rfl⟩
                  case round =>
                    obtain ⟨rfl, q, hq, rfl⟩ := hrel
                    have hqz : (q : Int) < (Wd.size : Int) := by have := HZ.out; omega
                    by_cases hql : q < s.size
                    · obtain ⟨c, hc⟩ : ∃ c, s.data.toList[q]? = some c := ⟨_, List.getElem?_eq_getElem hql⟩
                      have hce := hsc.out c (List.mem_of_getElem? hc)
                      have hqi := fun W => run_at W Wd q (c := c) (by rw [HW.out, List.getElem?_append_left hql]; exact hc)
                      clear hc
                      go_wp2_with fail
                      go_round
                      case rel => exact ⟨rfl, q + 1, by omega, by go_num⟩
                      case measure => simp [intOf]; omega
                    · have hqe : q = s.size := by omega
                      have hqi := fun W => run_at W Wd q (c := 61) (by rw [HW.out, List.getElem?_append_right (by rw [size_list]; omega), size_list, hqe, Nat.sub_self]; rfl)
                      have hto := fun W => run_to W Wd s q (by have := HZ.out; omega) (by rw [HW.out, hqe, ← size_list, List.take_left])
                      have hfrom : ∀ W : World, (Instr.slice 9 (.string Wd) (some (.int .i64 ((q : Int) + 1))) none none).run Try.prog W = .ok (.string v) W := fun W => by
                        have h := run_from W Wd v (q + 1) (by have := HZ.out; omega) (by rw [HW.out, hqe, ← size_list, List.drop_append, List.drop_of_length_le (by omega)]; simp)
                        rwa [show ((q + 1 : Nat) : Int) = (q : Int) + 1 by omega] at h
                      have hqb : (q : Int) ≤ 1048576 := by omega
                      clear hqe hql hq
                      go_wp2_with fail
                      go_quiet (fail)
                      go_wp2
                      go_roundw
                      case rel => exact ⟨i + 1, p + 1, by go_num, by rw [HP1.out]; go_num, by go_num, HM.out, below_drewN hbel _⟩
                      case measure => simp [intOf]; omega
            · have hend : T.size + 1 = posT ns vs i := by
                obtain ⟨m, rfl⟩ : ∃ m, i = m + 1 := ⟨i - 1, by omega⟩
                rw [← size_list, HT.out]
                exact posT_end ns vs m
              have hno : ¬ ((posT ns vs i : Nat) : Int) ≤ (T.size : Int) := by omega
              go_wp2_with fail
              go_ret
              exact ⟨by simp, Below.next b4 hbel⟩

end Go.Proofs.Qxb6001755a
