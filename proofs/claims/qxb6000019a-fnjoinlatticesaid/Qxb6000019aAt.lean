/-
  The walks of zzJoinAt, zzMeetAt, zzAgreeAll, zzEqOn.
-/
import Derived.Test.Qxb6000019aMk
namespace Go.Proofs.Qxb6000019a
open Go.RowKit Go.Maps

set_option maxRecDepth 100000 in
set_option maxHeartbeats 1000000 in
theorem joinAt_core (j v o : Value) (s : ByteArray) (x y z : Int) (p q r : Bool) (w : World)
    (hv : (Instr.lookup 29 v (.string s) true).run Try.prog w = .ok (.tuple #[.int .u64 x, .bool p]) w)
    (ho : (Instr.lookup 29 o (.string s) true).run Try.prog w = .ok (.tuple #[.int .u64 y, .bool q]) w)
    (hj : (Instr.lookup 29 j (.string s) true).run Try.prog w = .ok (.tuple #[.int .u64 z, .bool r]) w) (hr : r = (p || q)) (hz : z = max x y) :
    Calls Try.prog 16 #[j, v, o, .string s] w fun e w' => e = .returned (.bool true) ∧ w' = w := by
  by_cases h : x < y
  · have hz' : z = y := by omega
    subst hz'
    clear hz
    subst hr
    cases p <;> cases q <;>
    · simp only [Bool.or_true, Bool.or_false] at hj
      go_enter Try.func16, Try.ntmps16
      go_wp2
      go_ret
      exact ⟨by simp, rfl⟩
  · have hz' : z = x := by omega
    subst hz'
    clear hz
    subst hr
    cases p <;> cases q <;>
    · simp only [Bool.or_true, Bool.or_false] at hj
      go_enter Try.func16, Try.ntmps16
      go_wp2
      go_ret
      exact ⟨by simp, rfl⟩

theorem joinAt_any {j v o : Value} {nj nv no : Nat} {f g : Fn} {s : ByteArray} {w : World} (hj : VerAt w j nj (joinF f g)) (hv : VerAt w v nv f) (ho : VerAt w o no g) (hs : s.size ≤ maxLen) :
    Calls Try.prog 16 #[j, v, o, .string s] w fun e w' => e = .returned (.bool true) ∧ w' = w :=
  joinAt_core j v o s _ _ _ _ _ _ w (hv.look hs true) (ho.look hs true) (hj.look hs true) (join_some f g _) (val_join hv.wf.nn _)

set_option maxRecDepth 100000 in
set_option maxHeartbeats 1000000 in
theorem meetAt_core (m v o : Value) (s : ByteArray) (x y : Int) (z : Int) (r : Bool) (w : World)
    (hv : (Instr.lookup 29 v (.string s) false).run Try.prog w = .ok (.int .u64 x) w)
    (ho : (Instr.lookup 29 o (.string s) false).run Try.prog w = .ok (.int .u64 y) w)
    (hm : (Instr.lookup 29 m (.string s) true).run Try.prog w = .ok (.tuple #[.int .u64 z, .bool r]) w) (hr : r = decide (0 < min x y)) (hz : 0 < min x y → z = min x y) (hx : 0 ≤ x) (hy : 0 ≤ y) :
    Calls Try.prog 21 #[m, v, o, .string s] w fun e w' => e = .returned (.bool true) ∧ w' = w := by
  by_cases h : y < x
  · by_cases h0 : 0 < y
    · have hz' : z = y := by have := hz (by omega); omega
      have hr' : r = true := by rw [hr]; simp; omega
      subst hz'
      subst hr'
      have hne : (z == 0) = false := by simp; omega
      clear hr hz
      go_enter Try.func21, Try.ntmps21
      go_wp2
      go_ret
      exact ⟨by simp, rfl⟩
    · have hy0 : y = 0 := by omega
      have hr' : r = false := by rw [hr]; simp; omega
      subst hy0
      subst hr'
      clear hr hz
      go_enter Try.func21, Try.ntmps21
      go_wp2
      go_ret
      exact ⟨by simp, rfl⟩
  · by_cases h0 : 0 < x
    · have hz' : z = x := by have := hz (by omega); omega
      have hr' : r = true := by rw [hr]; simp; omega
      subst hz'
      subst hr'
      have hne : (z == 0) = false := by simp; omega
      clear hr hz
      go_enter Try.func21, Try.ntmps21
      go_wp2
      go_ret
      exact ⟨by simp, rfl⟩
    · have hx0 : x = 0 := by omega
      have hr' : r = false := by rw [hr]; simp; omega
      subst hx0
      subst hr'
      clear hr hz
      go_enter Try.func21, Try.ntmps21
      go_wp2
      go_ret
      exact ⟨by simp, rfl⟩

theorem meetAt_any {m v o : Value} {nm nv no : Nat} {f g : Fn} {s : ByteArray} {w : World} (hm : VerAt w m nm (meetF f g)) (hv : VerAt w v nv f) (ho : VerAt w o no g) (hs : s.size ≤ maxLen) :
    Calls Try.prog 21 #[m, v, o, .string s] w fun e w' => e = .returned (.bool true) ∧ w' = w :=
  meetAt_core m v o s (val f (ky s)) (val g (ky s)) _ _ w (hv.look hs false) (ho.look hs false) (hm.look hs true)
    (by rw [meet_by_val ho.wf.nn]; by_cases h : 0 < min (val f (ky s)) (val g (ky s)) <;> simp only [h, if_true, if_false, Option.isSome_some, Option.isSome_none, decide_true, decide_false])
    (fun _ => val_meet hv.wf.nn ho.wf.nn _) (val_nn hv.wf.nn _) (val_nn ho.wf.nn _)

set_option maxRecDepth 100000 in
set_option maxHeartbeats 1000000 in
theorem agree_any {x y : Value} {nx ny : Nat} {f : Fn} {a : Option Addr} {ss : List ByteArray} {cap : Nat} {w : World} (hx : VerAt w x nx f) (hy : VerAt w y ny f) (hs : StrsAt w a ss) :
    Calls Try.prog 27 #[x, y, .slice a ss.length cap] w fun e w' => e = .returned (.bool true) ∧ w' = w := by
  have hl := hs.2.2
  unfold maxLen at hl
  go_enter Try.func27, Try.ntmps27
  go_wp2
  go_loop [7] (fun i => ∃ k : Nat, k ≤ ss.length ∧ i = .int .i64 k) (fun i => ss.length - (intOf i).toNat)
  case atStart => exact ⟨0, Nat.zero_le _, rfl⟩
  case round =>
    obtain ⟨k, hk, rfl⟩ := hrel
    by_cases hlt : k < ss.length
    · obtain ⟨b, o, s, hb, hidx, hcell, hsz, hs'⟩ := hs.idx hlt cap
      have h1 := hx.look hsz true
      have h2 := hy.look hsz true
      simp only [if_true] at h1 h2
      generalize val f (ky s) = c at h1 h2
      generalize (f (ky s)).isSome = q at h1 h2
      clear hs hs' hb hx hy hsz
      go_wp2
      go_round
      case rel => exact ⟨k + 1, by omega, by go_num⟩
      case measure => simp [intOf]; omega
    · go_wp2
      go_ret
      exact ⟨rfl, rfl⟩

set_option maxRecDepth 100000 in
set_option maxHeartbeats 1000000 in
theorem eqOn_any {x y : Value} {nx ny : Nat} {f : Fn} {a1 a2 a3 : Option Addr} {s1 s2 s3 : List ByteArray} {c1 c2 c3 : Nat} {w : World} (hx : VerAt w x nx f) (hy : VerAt w y ny f) (h1 : StrsAt w a1 s1) (h2 : StrsAt w a2 s2) (h3 : StrsAt w a3 s3) :
    Calls Try.prog 18 #[x, y, .slice a1 s1.length c1, .slice a2 s2.length c2, .slice a3 s3.length c3] w fun e w' => e = .returned (.bool true) ∧ w' = w := by
  obtain ⟨m, hm, _, hlx⟩ := hx.size
  obtain ⟨m', hm', _, hly⟩ := hy.size
  have e := hm.uniq hm' (fun _ => rfl)
  subst e
  clear hm hm'
  go_enter Try.func18, Try.ntmps18
  go_wp2_with fail
  refine (agree_any hx hy h1).mono ?_
  rintro e w' ⟨rfl, rfl⟩
  go_wp2_with fail
  refine (agree_any hx hy h2).mono ?_
  rintro e w' ⟨rfl, rfl⟩
  go_wp2_with fail
  refine (agree_any hx hy h3).mono ?_
  rintro e w' ⟨rfl, rfl⟩
  go_wp2_with fail
  go_ret
  exact ⟨rfl, rfl⟩

end Go.Proofs.Qxb6000019a
