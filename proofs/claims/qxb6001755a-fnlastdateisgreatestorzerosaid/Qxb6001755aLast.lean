/-
  The walks of LastDate, lastDateOf.
-/
import Derived.Test.Qxb6001755aEvents
namespace Go.Proofs.Qxb6001755a
open Go.RowKit

/-- the date of the k-th event -/
def dk (ys ms ds : List Int) (k : Nat) : Dt := (ys.getD k 0, ms.getD k 0, ds.getD k 0)
/-- the last date of the first k events -/
def lastTo (ys ms ds : List Int) : Nat → Dt
  | 0 => (0, 0, 0)
  | k + 1 => if 0 < cmpD (dk ys ms ds k) (lastTo ys ms ds k) then dk ys ms ds k else lastTo ys ms ds k

/-- the three cells of a date -/
def dC (t : Dt) (j : Nat) : Value := match j with
  | 0 => .int .i64 t.1
  | 1 => .int .i64 t.2.1
  | _ => .int .i64 t.2.2

theorem Filled.fresh {wr : World} {B n k : Nat} {g : Nat → Value} (h : Filled wr B n k g) (g' : Nat → Value) : Filled wr B n 0 g' := ⟨h.1, h.2.1, fun j hj => by omega, h.2.2.2⟩
theorem Filled.other {wr : World} {B n k : Nat} {g : Nat → Value} (h : Filled wr B n k g) {a : Addr} (ha : a.block ≠ B) (v : Value) : Filled (wr.setCell a v) B n k g := by
  obtain ⟨h1, h2, h3, h4⟩ := h
  have e : ∀ j, (wr.setCell a v).cell? ⟨B, j, none⟩ = wr.cell? ⟨B, j, none⟩ := fun j => World.cell?_setCell_other _ _ _ _ (by intro h; rw [h] at ha; exact ha rfl)
  exact ⟨fun j hj => by rw [e]; exact h1 j hj, fun j hj => by rw [World.frozen?_setCell]; exact h2 j hj, fun j hj => by rw [e]; exact h3 j hj, by simpa using h4⟩
theorem Filled.new3 (w : World) (x y z : Value) (e : TypeId) (g : Nat → Value) (h0 : x = g 0) (h1 : y = g 1) (h2 : z = g 2) : Filled (w.alloc (.cells #[x, y, z] e)) w.heap.size 3 3 g := by
  have hh := (MapKept.heap_alloc w (.cells #[x, y, z] e)).1
  have hc : ∀ j, j < 3 → (w.alloc (.cells #[x, y, z] e)).cell? ⟨w.heap.size, j, none⟩ = some (g j) := by
    intro j hj
    unfold World.cell?
    rw [hh]
    rcases j with _ | _ | _ | j
    · simp [h0]
    · simp [h1]
    · simp [h2]
    · omega
  refine ⟨fun j hj => ⟨_, hc j hj⟩, fun j hj => ?_, hc, by simp⟩
  unfold World.frozen?
  rw [hh]
  simp

/-- a date is returned -/
def RetD (t : Dt) (e : Ending) : Prop := e = .returned (.agg #[.int .i64 t.1, .int .i64 t.2.1, .int .i64 t.2.2])

/-- LastDate under way -/
def Mid (w wr : World) (t : Dt) : Prop := Filled wr w.heap.size 3 0 (dC t) ∧ Filled wr (w.heap.size + 1) 3 3 (dC t) ∧ Below w.heap.size w wr

theorem Mid.below {w wr w' : World} {t : Dt} (h : Mid w wr t) (hb : Below wr.heap.size wr w') : Mid w w' t := ⟨h.1.below hb, h.2.1.below hb, h.2.2.trans (hb.mono h.2.2.size)⟩
theorem Mid.put {w wr : World} {t : Dt} (h : Mid w wr t) (t' : Dt) : Mid w (((wr.setCell ⟨w.heap.size + 1, 0, none⟩ (.int .i64 t'.1)).setCell ⟨w.heap.size + 1, 1, none⟩ (.int .i64 t'.2.1)).setCell ⟨w.heap.size + 1, 2, none⟩ (.int .i64 t'.2.2)) t' := by
  obtain ⟨h1, h2, h3⟩ := h
  refine ⟨(((h1.fresh (dC t')).other (by simp) _).other (by simp) _).other (by simp) _, (((h2.fresh (dC t')).step (by omega) rfl).step (by omega) rfl).step (by omega) rfl, ?_⟩
  exact ((h3.setCell (Nat.le_succ _) _).setCell (Nat.le_succ _) _).setCell (Nat.le_succ _) _

set_option maxRecDepth 100000 in
set_option maxHeartbeats 1000000 in
theorem last_any (bj B n : Nat) (ys ms ds : List Int) (w : World) (hj : w.cell? ⟨bj, 0, none⟩ = some (.slice (some ⟨B, 0, none⟩) n n)) (hf : Filled w B (n * 6) (n * 6) (evC ys ms ds)) (hn : n ≤ 131072) :
    Calls Try.prog 28 #[.pointer (some ⟨bj, 0, none⟩)] w fun e w' => RetD (lastTo ys ms ds n) e ∧ Below w.heap.size w w' := by
  have hbj : bj < w.heap.size := by
    unfold World.cell? at hj
    split at hj
    · rename_i hh
      exact (Array.getElem?_eq_some_iff.1 hh).1
    · cases hj
  have hb0 : Below w.heap.size w ((w.alloc (.cells #[.int .i64 0, .int .i64 0, .int .i64 0] 28)).alloc (.cells #[.int .i64 0, .int .i64 0, .int .i64 0] 28)) := ((Below.refl _ _).alloc (Nat.le_refl _) _).alloc (by simp) _
  have hm0 : Mid w ((w.alloc (.cells #[.int .i64 0, .int .i64 0, .int .i64 0] 28)).alloc (.cells #[.int .i64 0, .int .i64 0, .int .i64 0] 28)) (lastTo ys ms ds 0) := by
    refine ⟨((Filled.new3 w _ _ _ 28 (dC (0, 0, 0)) rfl rfl rfl).fresh _).below ((Below.refl _ _).alloc (Nat.le_refl _) _), ?_, hb0⟩
    have := Filled.new3 (w.alloc (.cells #[.int .i64 0, .int .i64 0, .int .i64 0] 28)) (.int .i64 0) (.int .i64 0) (.int .i64 0) 28 (dC (0, 0, 0)) rfl rfl rfl
    have e : (w.alloc (.cells #[.int .i64 0, .int .i64 0, .int .i64 0] 28)).heap.size = w.heap.size + 1 := by simp
    rw [e] at this
    exact this
  go_enter Try.func28, Try.ntmps28
  go_wp2
  go_loopw [11] (fun i wr => ∃ k : Nat, k ≤ n ∧ i = .int .i64 k ∧ Mid w wr (lastTo ys ms ds k)) (fun i _ => n - (intOf i).toNat)
  case atStart => exact ⟨0, Nat.zero_le _, rfl, hm0⟩
  case round =>
    obtain ⟨k, hk, rfl, hmid⟩ := hrel
    clear hm0 hb0
    by_cases hlt : k < n
    · have f0 := hf.below hmid.2.2
      have e0 := f0.2.2.1 (k * 6) (by omega)
      have e1 := f0.2.2.1 (k * 6 + 1) (by omega)
      have e2 := f0.2.2.1 (k * 6 + 2) (by omega)
      have e3 := f0.2.2.1 (k * 6 + 3) (by omega)
      have e4 := f0.2.2.1 (k * 6 + 4) (by omega)
      have e5 := f0.2.2.1 (k * 6 + 5) (by omega)
      rw [evC0] at e0
      rw [evC1] at e1
      rw [evC2] at e2
      rw [evC3] at e3
      rw [evC4] at e4
      rw [evC5] at e5
      have hidx : ∀ W : World, (Instr.indexAt 30 (.slice (some ⟨B, 0, none⟩) n n) (.int .i64 (k : Int))).run Try.prog W = .ok (.pointer (some ⟨B, k * 6, none⟩)) W := fun W => by rw [idx30 _ _ _ _ hlt]; simp [Addr.add_lit]
      have l0 := hmid.2.1.2.2.1 0 (by omega)
      have l1 := hmid.2.1.2.2.1 1 (by omega)
      have l2 := hmid.2.1.2.2.1 2 (by omega)
      have hlast : Hid (lastTo ys ms ds (k + 1) = if 0 < cmpD (dk ys ms ds k) (lastTo ys ms ds k) then dk ys ms ds k else lastTo ys ms ds k) := rfl
      simp only [dC] at l0 l1 l2
      generalize lastTo ys ms ds k = t at hmid l0 l1 l2 hlast
      obtain ⟨ty, tm, td⟩ := t
      generalize hy : ys.getD k 0 = y at e1
      generalize hmo : ms.getD k 0 = mo at e2
      generalize hd : ds.getD k 0 = d at e3
      have hdk : Hid (dk ys ms ds k = (y, mo, d)) := by unfold dk; rw [hy, hmo, hd]; exact rfl
      have g0 : w.heap.size < wr.heap.size := hmid.1.2.2.2
      have g1 : w.heap.size + 1 < wr.heap.size := hmid.2.1.2.2.2
      clear hy hmo hd f0
      go_wp2_with fail
      refine (dcmp_any y mo d ty tm td _).mono ?_
      rintro e w1 ⟨rfl, hb1⟩
      have hb2 : Below wr.heap.size wr w1 := ((Below.refl _ _).alloc (Nat.le_refl _) _).trans (hb1.mono (by simp))
      have c1 : w1.cell? ⟨wr.heap.size, 1, none⟩ = some (.int .i64 y) := by rw [hb1.cell (by simp)]; go_simp
      have c2 : w1.cell? ⟨wr.heap.size, 2, none⟩ = some (.int .i64 mo) := by rw [hb1.cell (by simp)]; go_simp
      have c3 : w1.cell? ⟨wr.heap.size, 3, none⟩ = some (.int .i64 d) := by rw [hb1.cell (by simp)]; go_simp
      have hm1 := hmid.below hb2
      by_cases hc : 0 < cmpD (y, mo, d) (ty, tm, td)
      · have p0 := hm1.2.1.2.2.1 0 (by omega)
        have p1 := hm1.2.1.2.2.1 1 (by omega)
        have p2 := hm1.2.1.2.2.1 2 (by omega)
        have z0 := hm1.2.1.2.1 0 (by omega)
        have z1 := hm1.2.1.2.1 1 (by omega)
        have z2 := hm1.2.1.2.1 2 (by omega)
        have hfin : Hid (lastTo ys ms ds (k + 1) = (y, mo, d)) := by
          have := hlast.out
          rw [hdk.out, if_pos hc] at this
          exact this
        have hput := hm1.put (y, mo, d)
        clear hmid hlast hdk l0 l1 l2 e0 e1 e2 e3 e4 e5 hm1 hb1 hb2
        go_wp2_with fail
        go_roundw
        case rel => exact ⟨k + 1, by omega, by go_num, by rw [hfin.out]; exact hput⟩
        case measure => simp [intOf]; omega
      · have hfin : Hid (lastTo ys ms ds (k + 1) = (ty, tm, td)) := by
          have := hlast.out
          rw [hdk.out, if_neg hc] at this
          exact this
        clear hmid hlast hdk l0 l1 l2 e0 e1 e2 e3 e4 e5 hb1 hb2
        go_wp2_with fail
        go_roundw
        case rel => exact ⟨k + 1, by omega, by go_num, by rw [hfin.out]; exact hm1⟩
        case measure => simp [intOf]; omega
    · have hkl : k = n := by omega
      subst hkl
      have l0 := hmid.2.1.2.2.1 0 (by omega)
      have l1 := hmid.2.1.2.2.1 1 (by omega)
      have l2 := hmid.2.1.2.2.1 2 (by omega)
      simp only [dC] at l0 l1 l2
      obtain ⟨p0, q0⟩ := hmid.1.1 0 (by omega)
      obtain ⟨p1, q1⟩ := hmid.1.1 1 (by omega)
      obtain ⟨p2, q2⟩ := hmid.1.1 2 (by omega)
      have z0 := hmid.1.2.1 0 (by omega)
      have z1 := hmid.1.2.1 1 (by omega)
      have z2 := hmid.1.2.1 2 (by omega)
      have hbel := hmid.2.2
      generalize ht : lastTo ys ms ds k = t at l0 l1 l2
      obtain ⟨ty, tm, td⟩ := t
      have HT : Hid ((ty, tm, td) = lastTo ys ms ds k) := ht.symm
      clear ht hmid hf
      go_wp2_with fail
      refine bodyPost_ret (v := .agg #[.int .i64 ty, .int .i64 tm, .int .i64 td]) (by simp [results, Try.results28, go_sem, q0, q1, q2]) rfl ⟨by rw [← HT.out]; exact rfl, ?_⟩
      exact ((hbel.setCell (Nat.le_refl _) _).setCell (Nat.le_refl _) _).setCell (Nat.le_refl _) _

set_option maxRecDepth 100000 in
set_option maxHeartbeats 1000000 in
theorem lastOf_any (B n : Nat) (ys ms ds : List Int) (w : World) (hf : Filled w B (n * 6) (n * 6) (evC ys ms ds)) (hn : n ≤ 131072) :
    Calls Try.prog 13 #[.slice (some ⟨B, 0, none⟩) n n] w fun e w' => RetD (lastTo ys ms ds n) e ∧ Below w.heap.size w w' := by
  have hf2 : Filled ((w.alloc (.cells #[.int .i64 0, .int .i64 0, .int .i64 0] 28)).alloc (.cells #[.slice (some ⟨B, 0, none⟩) n n, .int .i64 0, .int .i64 0, .bool false] 48)) B (n * 6) (n * 6) (evC ys ms ds) := hf.below (((Below.refl _ _).alloc (Nat.le_refl _) _).alloc (by simp) _)
  have hb0 : Below w.heap.size w ((w.alloc (.cells #[.int .i64 0, .int .i64 0, .int .i64 0] 28)).alloc (.cells #[.slice (some ⟨B, 0, none⟩) n n, .int .i64 0, .int .i64 0, .bool false] 48)) := ((Below.refl _ _).alloc (Nat.le_refl _) _).alloc (by simp) _
  have hr : Filled ((w.alloc (.cells #[.int .i64 0, .int .i64 0, .int .i64 0] 28)).alloc (.cells #[.slice (some ⟨B, 0, none⟩) n n, .int .i64 0, .int .i64 0, .bool false] 48)) w.heap.size 3 3 (dC (0, 0, 0)) := (Filled.new3 w _ _ _ 28 (dC (0, 0, 0)) rfl rfl rfl).below ((Below.refl _ _).alloc (Nat.le_refl _) _)
  go_enter Try.func13, Try.ntmps13
  go_wp2_with fail
  refine (last_any (w.heap.size + 1) B n ys ms ds _ (by go_simp) hf2 hn).mono ?_
  rintro e w1 ⟨he, hb1⟩
  unfold RetD at he
  subst he
  replace hr := hr.below hb1
  replace hb0 := Below.next hb0 hb1
  obtain ⟨p0, q0⟩ := hr.1 0 (by omega)
  obtain ⟨p1, q1⟩ := hr.1 1 (by omega)
  obtain ⟨p2, q2⟩ := hr.1 2 (by omega)
  have z0 := hr.2.1 0 (by omega)
  have z1 := hr.2.1 1 (by omega)
  have z2 := hr.2.1 2 (by omega)
  generalize ht : lastTo ys ms ds n = t
  have HT : Hid (lastTo ys ms ds n = t) := ht
  clear ht
  clear hf hf2 hr hb1
  go_wp2_with fail
  refine bodyPost_ret (v := .agg #[.int .i64 t.1, .int .i64 t.2.1, .int .i64 t.2.2]) (by simp [results, Try.results13, go_sem, q0, q1, q2]) rfl ⟨by rw [HT.out]; exact rfl, ?_⟩
  exact ((hb0.setCell (Nat.le_refl _) _).setCell (Nat.le_refl _) _).setCell (Nat.le_refl _) _

end Go.Proofs.Qxb6001755a
