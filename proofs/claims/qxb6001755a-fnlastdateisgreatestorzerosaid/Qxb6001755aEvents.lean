/-
  The walks of eventsOf, LastDate, lastDateOf.
-/
import Derived.Test.Qxb6001755aDates
namespace Go.Proofs.Qxb6001755a
open Go.RowKit

theorem Try.info37 : (Try.prog.info? 37).map (fun i => (i.zero, i.size, i.bytes)) = some (some (.agg #[.int .i64 0, .int .i64 0, .int .i64 0, .int .i64 0, .string ByteArray.empty, .slice none 0 0]), 6, 72) := by kernel_rfl

theorem made30 (n : Nat) (h : n ≤ 131072) : ∃ z : Array Value, ∀ W : World, (Instr.makeSlice 30 (.int .i64 (n : Int)) (.int .i64 (n : Int))).run Try.prog W = .ok (.slice (some ⟨W.heap.size, 0, none⟩) n n) (W.alloc (.cells (madeCells z (n * 6)) 37)) := by
  obtain ⟨i, hi, hz0, hz1, hz2⟩ := info_parts Try.info37
  refine ⟨(Value.agg #[.int .i64 0, .int .i64 0, .int .i64 0, .int .i64 0, .string ByteArray.empty, .slice none 0 0]).cells, fun W => ?_⟩
  · have := run_make (P := Try.prog) W 30 37 i _ Try.underlying30 hi hz0 .i64 .i64 n n (by omega) (by omega) (by rw [hz2]; omega) (by omega)
    rw [hz1] at this
    simpa using this

theorem idx30 (a : Addr) (len cap k : Nat) (hk : k < len) (W : World) : (Instr.indexAt 30 (.slice (some a) len cap) (.int .i64 (k : Int))).run Try.prog W = .ok (.pointer (some (a.add (k * 6)))) W := by
  have hs : ∀ W, (sizeOf (Try.prog.elem 30)).run Try.prog W = .ok 6 W := fun W => by kernel_rfl
  rw [run_indexAt_slice W 30 a len cap .i64 k (by kernel_rfl), if_pos (by omega), hs]
  simp [Result.andThen]

def grant : ByteArray := ⟨#[103, 114, 97, 110, 116]⟩
/-- the cells of the events -/
def evC (ys ms ds : List Int) (j : Nat) : Value := match j % 6 with
  | 0 => .int .i64 ((j / 6 : Nat) + 1 : Int)
  | 1 => .int .i64 (ys.getD (j / 6) 0)
  | 2 => .int .i64 (ms.getD (j / 6) 0)
  | 3 => .int .i64 (ds.getD (j / 6) 0)
  | 4 => .string grant
  | _ => .slice none 0 0

theorem evC0 (ys ms ds : List Int) (k : Nat) : evC ys ms ds (k * 6) = .int .i64 ((k : Int) + 1) := by
  have h1 : (k * 6) % 6 = 0 := by omega
  have h2 : (k * 6) / 6 = k := by omega
  simp only [evC, h1, h2]
theorem evC1 (ys ms ds : List Int) (k : Nat) : evC ys ms ds (k * 6 + 1) = .int .i64 (ys.getD k 0) := by
  have h1 : (k * 6 + 1) % 6 = 1 := by omega
  have h2 : (k * 6 + 1) / 6 = k := by omega
  simp only [evC, h1, h2]
theorem evC2 (ys ms ds : List Int) (k : Nat) : evC ys ms ds (k * 6 + 2) = .int .i64 (ms.getD k 0) := by
  have h1 : (k * 6 + 2) % 6 = 2 := by omega
  have h2 : (k * 6 + 2) / 6 = k := by omega
  simp only [evC, h1, h2]
theorem evC3 (ys ms ds : List Int) (k : Nat) : evC ys ms ds (k * 6 + 3) = .int .i64 (ds.getD k 0) := by
  have h1 : (k * 6 + 3) % 6 = 3 := by omega
  have h2 : (k * 6 + 3) / 6 = k := by omega
  simp only [evC, h1, h2]
theorem evC4 (ys ms ds : List Int) (k : Nat) : evC ys ms ds (k * 6 + 4) = .string grant := by
  have h1 : (k * 6 + 4) % 6 = 4 := by omega
  simp only [evC, h1]
theorem evC5 (ys ms ds : List Int) (k : Nat) : evC ys ms ds (k * 6 + 5) = .slice none 0 0 := by
  have h1 : (k * 6 + 5) % 6 = 5 := by omega
  simp only [evC, h1]

theorem Filled.below {w w' : World} {B n k : Nat} {g : Nat → Value} (h : Filled w B n k g) (hb : Below w.heap.size w w') : Filled w' B n k g := by
  obtain ⟨h1, h2, h3, h4⟩ := h
  exact ⟨fun j hj => by rw [hb.cell (by exact h4)]; exact h1 j hj, fun j hj => by rw [hb.frozen (by exact h4)]; exact h2 j hj, fun j hj => by rw [hb.cell (by exact h4)]; exact h3 j hj, Nat.lt_of_lt_of_le h4 hb.size⟩

set_option maxRecDepth 100000 in
set_option maxHeartbeats 1000000 in
theorem events_any (a0 a1 a2 : Option Addr) (ys ms ds : List Int) (c0 c1 c2 n : Nat) (w : World) (h0 : IntsAt w a0 ys) (h1 : IntsAt w a1 ms) (h2 : IntsAt w a2 ds) (k0 : n ≤ ys.length) (k1 : n ≤ ms.length) (k2 : n ≤ ds.length) (hn : n ≤ 131072) :
    Calls Try.prog 14 #[.slice a0 ys.length c0, .slice a1 ms.length c1, .slice a2 ds.length c2, .int .i64 0, .int .i64 (n : Int)] w fun e w' =>
      e = .returned (.slice (some ⟨w.heap.size, 0, none⟩) n n) ∧ Filled w' w.heap.size (n * 6) (n * 6) (evC ys ms ds) ∧ Below w.heap.size w w' := by
  obtain ⟨z, hmk⟩ := made30 n hn
  go_enter Try.func14, Try.ntmps14
  go_wp2
  go_loopw [12] (fun i wr => ∃ k : Nat, k ≤ n ∧ i = .int .i64 k ∧ Filled wr w.heap.size (n * 6) (k * 6) (evC ys ms ds) ∧ Below w.heap.size w wr) (fun i _ => n - (intOf i).toNat)
  case atStart => exact ⟨0, Nat.zero_le _, rfl, by rw [Nat.zero_mul]; exact Filled.made _ _ _ _ _, (Below.refl _ _).alloc (Nat.le_refl _) _⟩
  case round =>
    obtain ⟨k, hk, rfl, hfill, hbel⟩ := hrel
    clear hmk
    by_cases hlt : k < n
    · have q0 := h0.below hbel
      have q1 := h1.below hbel
      have q2 := h2.below hbel
      go_wp2_with fail
      refine (dateAt_any a0 a1 a2 ys ms ds c0 c1 c2 k _ q0 q1 q2 (by omega) (by omega) (by omega)).mono ?_
      rintro e w1 ⟨rfl, hb1⟩
      have f0 := hfill.below hb1
      have b0 : Below w.heap.size w w1 := hbel.trans (hb1.mono hbel.size)
      obtain ⟨v0, e0⟩ := f0.1 (k * 6) (by omega)
      obtain ⟨v1, e1⟩ := f0.1 (k * 6 + 1) (by omega)
      obtain ⟨v2, e2⟩ := f0.1 (k * 6 + 2) (by omega)
      obtain ⟨v3, e3⟩ := f0.1 (k * 6 + 3) (by omega)
      obtain ⟨v4, e4⟩ := f0.1 (k * 6 + 4) (by omega)
      obtain ⟨v5, e5⟩ := f0.1 (k * 6 + 5) (by omega)
      have z0 := f0.2.1 (k * 6) (by omega)
      have z1 := f0.2.1 (k * 6 + 1) (by omega)
      have z2 := f0.2.1 (k * 6 + 2) (by omega)
      have z3 := f0.2.1 (k * 6 + 3) (by omega)
      have z4 := f0.2.1 (k * 6 + 4) (by omega)
      have z5 := f0.2.1 (k * 6 + 5) (by omega)
      have hidx : ∀ W : World, (Instr.indexAt 30 (.slice (some ⟨w.heap.size, 0, none⟩) n n) (.int .i64 (k : Int))).run Try.prog W = .ok (.pointer (some ⟨w.heap.size, k * 6, none⟩)) W := fun W => by rw [idx30 _ _ _ _ hlt]; simp [Addr.add_lit]
      have f6 := (((((f0.step (by omega) (evC0 ys ms ds k).symm).step (by omega) (evC1 ys ms ds k).symm).step (by omega) (evC2 ys ms ds k).symm).step (by omega) (evC3 ys ms ds k).symm).step (by omega) (evC4 ys ms ds k).symm).step (by omega) (evC5 ys ms ds k).symm
      have b6 := (((((b0.setCell (p := ⟨w.heap.size, k * 6, none⟩) (Nat.le_refl _) (.int .i64 ((k : Int) + 1))).setCell (p := ⟨w.heap.size, k * 6 + 1, none⟩) (Nat.le_refl _) (.int .i64 (ys.getD k 0))).setCell (p := ⟨w.heap.size, k * 6 + 2, none⟩) (Nat.le_refl _) (.int .i64 (ms.getD k 0))).setCell (p := ⟨w.heap.size, k * 6 + 3, none⟩) (Nat.le_refl _) (.int .i64 (ds.getD k 0))).setCell (p := ⟨w.heap.size, k * 6 + 4, none⟩) (Nat.le_refl _) (.string grant)).setCell (p := ⟨w.heap.size, k * 6 + 5, none⟩) (Nat.le_refl _) (.slice none 0 0)
      clear hfill hbel hb1 q0 q1 q2 f0 b0
      go_wp2_with fail
      go_roundw
      case rel => exact ⟨k + 1, by omega, by go_num, by rw [show (k + 1) * 6 = k * 6 + 1 + 1 + 1 + 1 + 1 + 1 by omega]; exact f6, b6⟩
      case measure => simp [intOf]; omega
    · have hkl : k = n := by omega
      subst hkl
      go_wp2
      go_ret
      exact ⟨rfl, hfill, hbel⟩

end Go.Proofs.Qxb6001755a
