/-
  The walk of zzMk: a version out of two slices.
-/
import Derived.Test.Qxb6000019aClone
import Derived.RegionTactic
import Derived.ChangeAlike
namespace Go.Proofs.Qxb6000019a
open Go.RowKit Go.Maps

def MadeV (w : World) (n : Nat) (f : Fn) (e : Ending) (w' : World) : Prop := ∃ v : Value, e = .returned v ∧ VerAt w' v n f ∧ Below w.heap.size w w'

theorem VerIn.drew {w : World} {b n : Nat} {f : Fn} (h : VerIn w b n f) : VerIn w.drew b n f := h.elim fun D h => ⟨D, h.1.drew, h.2⟩

theorem nil_of_none {w : World} {ss : List ByteArray} (h : StrsAt w none ss) : ss = [] := by
  cases ss with
  | nil => rfl
  | cons x r => obtain ⟨b, o, h, _⟩ := h.1 (by simp); cases h
theorem nil_of_none' {w : World} {zs : List Int} (h : IntsAt w none zs) : zs = [] := by
  cases zs with
  | nil => rfl
  | cons x r => obtain ⟨b, o, h, _⟩ := h.1 (by simp); cases h

theorem mkF_step {ss : List ByteArray} {zs : List Int} {k : Nat} {s : ByteArray} {c : Int} (hk : k < ss.length) (hs : s = ss.getD k ByteArray.empty) (hc : c = zs.getD k 0) :
    upd (mkF (ss.map ky) zs k) (ky s) c = mkF (ss.map ky) zs (k + 1) := by
  have e : (ss.map ky).getD k [] = ky s := by
    rw [hs]
    simp [List.getD, List.getElem?_eq_getElem hk]
  simp only [mkF, e, hc]

set_option maxRecDepth 100000 in
set_option maxHeartbeats 1000000 in
theorem mk_any (a0 a1 : Option Addr) (ss : List ByteArray) (zs : List Int) (c0 c1 : Nat) (w : World) (h0 : StrsAt w a0 ss) (h1 : IntsAt w a1 zs) (l0 : ss.length ≤ 65536) (l1 : zs.length ≤ 65536) :
    Calls Try.prog 13 #[.slice a0 ss.length c0, .slice a1 zs.length c1] w fun e w' => MadeV w (min ss.length zs.length) (mkF (ss.map ky) zs (min ss.length zs.length)) e w' := by
  cases a0 with
  | none =>
    have := nil_of_none h0
    subst this
    have heq := fun W => Lib.run_eql_slice_nil (P := Try.prog) W 22 9 none 0 c0 0 0 Try.underlying22
    go_enter Try.func13, Try.ntmps13
    go_wp2
    go_ret
    exact ⟨_, rfl, Or.inl ⟨rfl, by simp [mkF]⟩, Below.refl _ _⟩
  | some p0 =>
    have heq := fun W => Lib.run_eql_slice_nil (P := Try.prog) W 22 9 (some p0) ss.length c0 0 0 Try.underlying22
    cases a1 with
    | none =>
      have := nil_of_none' h1
      subst this
      have heq1 := fun W => Lib.run_eql_slice_nil (P := Try.prog) W 23 36 none 0 c1 0 0 Try.underlying23
      go_enter Try.func13, Try.ntmps13
      go_wp2
      go_ret
      exact ⟨_, rfl, Or.inl ⟨rfl, by simp [mkF]⟩, Below.refl _ _⟩
    | some p1 =>
      have heq1 := fun W => Lib.run_eql_slice_nil (P := Try.prog) W 23 36 (some p1) zs.length c1 0 0 Try.underlying23
      have hmm := @run_makeMap Try.prog
      go_enter Try.func13, Try.ntmps13
      go_wp2_with (go_at_call 15; refine (pairs_any _ _ _ _ _ _ _).mono ?_; rintro e w' ⟨rfl, rfl⟩)
      clear heq heq1 hmm
      go_loopw [7] (fun i wr => ∃ k : Nat, k ≤ min ss.length zs.length ∧ i = .int .i64 k ∧ VerIn wr w.heap.size k (mkF (ss.map ky) zs k) ∧ Below w.heap.size w wr) (fun i _ => min ss.length zs.length - (intOf i).toNat)
      case atStart => exact ⟨0, Nat.zero_le _, rfl, VerIn.made w, (Below.refl _ _).alloc (Nat.le_refl _) _⟩
      case round =>
        obtain ⟨k, hk, rfl, hver, hbel⟩ := hrel
        by_cases hlt : k < min ss.length zs.length
        · obtain ⟨b0, o0, s, hb0, hidx0, hcell0', hsz, hs'⟩ := h0.idx (k := k) (by omega) c0
          obtain ⟨b1, o1, c, hb1, hidx1, hcell1', hwf, hc'⟩ := h1.idx (k := k) (by omega) c1
          have hcell0 : wr.cell? ⟨b0, o0, none⟩ = some (.string s) := by rw [hbel.cell (by exact hb0)]; exact hcell0'
          have hcell1 : wr.cell? ⟨b1, o1, none⟩ = some (.int .u64 c) := by rw [hbel.cell (by exact hb1)]; exact hcell1'
          obtain ⟨w1, hrun, hv1, hg1⟩ := hver.drew.put (by unfold maxLen; omega) hsz hwf
          rw [mkF_step (by omega) hs'.out hc'.out] at hv1
          have B1 : Below w.heap.size w w1 := hbel.drew.grown hg1 hbel.size (fun j hj => by cases hj; exact Nat.le_refl _)
          clear h0 h1 hs' hc' hcell0' hcell1' hver hbel hsz hwf hg1 hb0 hb1
          go_wp2
          go_region
          all_goals
            go_wp2
            go_roundw
            case rel => exact ⟨k + 1, by omega, by go_num, hv1, B1⟩
            case measure => simp [intOf]; omega
        · have hkl : k = min ss.length zs.length := by omega
          go_wp2
          go_ret
          exact ⟨_, rfl, by rw [← hkl]; exact hver.at, hbel⟩

end Go.Proofs.Qxb6000019a
