/-
  The walks of the two clones.
-/
import Derived.Test.Qxb6000019aSlices
import Derived.Lib.SliceRun
namespace Go.Proofs.Qxb6000019a
open Go.RowKit Go.Maps

def ClonedS (w : World) (ss : List ByteArray) (e : Ending) (w' : World) : Prop := ∃ (a' : Option Addr) (cap' : Nat), e = .returned (.slice a' ss.length cap') ∧ StrsAt w' a' ss ∧ Below w.heap.size w w'
def ClonedU (w : World) (zs : List Int) (e : Ending) (w' : World) : Prop := ∃ (a' : Option Addr) (cap' : Nat), e = .returned (.slice a' zs.length cap') ∧ IntsAt w' a' zs ∧ Below w.heap.size w w'

/-- block B has n cells that may be written; the first k hold g 0 .. g (k-1) -/
def Filled (wr : World) (B n k : Nat) (g : Nat → Value) : Prop :=
  (∀ j, j < n → ∃ v, wr.cell? ⟨B, j, none⟩ = some v) ∧ (∀ j, j < n → wr.frozen? ⟨B, j, none⟩ = false) ∧ (∀ j, j < k → wr.cell? ⟨B, j, none⟩ = some (g j)) ∧ B < wr.heap.size

theorem Filled.step {wr : World} {B n k : Nat} {g : Nat → Value} (h : Filled wr B n k g) (hk : k < n) {v : Value} (hv : v = g k) : Filled (wr.setCell ⟨B, k, none⟩ v) B n (k + 1) g := by
  obtain ⟨h1, h2, h3, h4⟩ := h
  obtain ⟨u, hu⟩ := h1 k hk
  refine ⟨fun j hj => ?_, fun j hj => by rw [World.frozen?_setCell]; exact h2 j hj, fun j hj => ?_, by simpa using h4⟩
  · obtain ⟨x, hx⟩ := h1 j hj
    exact cell?_setCell_some hx
  · by_cases e : j = k
    · subst e
      rw [World.cell?_setCell_same _ _ _ hu, hv]
    · rw [World.cell?_setCell_other _ _ _ _ (by intro h; simp only [Addr.mk.injEq] at h; omega)]
      exact h3 j (by omega)

theorem Filled.made (w : World) (z : Array Value) (n : Nat) (e : TypeId) (g : Nat → Value) : Filled (w.alloc (.cells (madeCells z n) e)) w.heap.size n 0 g := by
  have hh := (MapKept.heap_alloc w (.cells (madeCells z n) e)).1
  refine ⟨fun j hj => ⟨(madeCells z n)[j]'(by rw [size_madeCells]; exact hj), ?_⟩, fun j hj => ?_, fun j hj => by omega, by simp⟩
  · unfold World.cell?
    rw [hh]
    simp [size_madeCells, hj]
  · unfold World.frozen?
    rw [hh]
    simp

theorem Try.info9 : (Try.prog.info? 9).map (fun i => (i.zero, i.size, i.bytes)) = some (some (.string ByteArray.empty), 1, 16) := by kernel_rfl
theorem Try.info36 : (Try.prog.info? 36).map (fun i => (i.zero, i.size, i.bytes)) = some (some (.int .u64 0), 1, 8) := by kernel_rfl

theorem made22 (n : Nat) (h : n ≤ 65536) : ∃ z : Array Value, ∀ W : World, (Instr.makeSlice 22 (.int .i64 (n : Int)) (.int .i64 (n : Int))).run Try.prog W = .ok (.slice (some ⟨W.heap.size, 0, none⟩) n n) (W.alloc (.cells (madeCells z n) 9)) := by
  obtain ⟨i, hi, hz0, hz1, hz2⟩ := info_parts Try.info9
  refine ⟨(Value.string ByteArray.empty).cells, fun W => ?_⟩
  have := run_make (P := Try.prog) W 22 9 i _ Try.underlying22 hi hz0 .i64 .i64 n n (by omega) (by omega) (by rw [hz2]; omega) (by omega)
  rw [hz1] at this
  simpa using this
theorem made23 (n : Nat) (h : n ≤ 65536) : ∃ z : Array Value, ∀ W : World, (Instr.makeSlice 23 (.int .i64 (n : Int)) (.int .i64 (n : Int))).run Try.prog W = .ok (.slice (some ⟨W.heap.size, 0, none⟩) n n) (W.alloc (.cells (madeCells z n) 36)) := by
  obtain ⟨i, hi, hz0, hz1, hz2⟩ := info_parts Try.info36
  refine ⟨(Value.int .u64 0).cells, fun W => ?_⟩
  have := run_make (P := Try.prog) W 23 36 i _ Try.underlying23 hi hz0 .i64 .i64 n n (by omega) (by omega) (by rw [hz2]; omega) (by omega)
  rw [hz1] at this
  simpa using this

set_option maxRecDepth 100000 in
set_option maxHeartbeats 1000000 in
theorem cloneS_any (a : Option Addr) (ss : List ByteArray) (cap : Nat) (w : World) (hs : StrsAt w a ss) (hl : ss.length ≤ 65536) :
    Calls Try.prog 11 #[.slice a ss.length cap] w fun e w' => ClonedS w ss e w' := by
  have heq := fun W => Lib.run_eql_slice_nil (P := Try.prog) W 22 9 a ss.length cap 0 0 Try.underlying22
  cases a with
  | none =>
    have h0 : ss = [] := by
      cases ss with
      | nil => rfl
      | cons x r => obtain ⟨b, o, h, _⟩ := hs.1 (by simp); cases h
    subst h0
    clear heq
    have heq := fun W => Lib.run_eql_slice_nil (P := Try.prog) W 22 9 none 0 cap 0 0 Try.underlying22
    go_enter Try.func11, Try.ntmps11
    go_wp2
    go_ret
    exact ⟨none, 0, rfl, hs, Below.refl _ _⟩
  | some p =>
    obtain ⟨z, hmk⟩ := made22 ss.length hl
    go_enter Try.func11, Try.ntmps11
    go_wp2
    go_loopw [4] (fun i wr => ∃ k : Nat, k ≤ ss.length ∧ i = .int .i64 k ∧ Filled wr w.heap.size ss.length k (fun j => .string (ss.getD j ByteArray.empty)) ∧ Below w.heap.size w wr) (fun i _ => ss.length - (intOf i).toNat)
    case atStart => exact ⟨0, Nat.zero_le _, rfl, Filled.made _ _ _ _ _, (Below.refl _ _).alloc (Nat.le_refl _) _⟩
    case round =>
      obtain ⟨k, hk, rfl, hfill, hbel⟩ := hrel
      clear hmk heq
      by_cases hlt : k < ss.length
      · obtain ⟨b, o, s, hb, hidx, hcell0, hsz, hs'⟩ := hs.idx hlt cap
        have hcell : wr.cell? ⟨b, o, none⟩ = some (.string s) := by rw [hbel.cell (by exact hb)]; exact hcell0
        obtain ⟨v, hv⟩ := hfill.1 k hlt
        have hfz := hfill.2.1 k hlt
        have hidx2 : ∀ W : World, (Instr.indexAt 22 (.slice (some ⟨w.heap.size, 0, none⟩) ss.length ss.length) (.int .i64 (k : Int))).run Try.prog W = .ok (.pointer (some ⟨w.heap.size, k, none⟩)) W := fun W => by rw [idx22 _ _ _ _ hlt]; simp [Addr.add_lit]
        have F := hfill.step hlt (v := .string s) (by rw [hs'.out])
        have B := hbel.setCell (p := ⟨w.heap.size, k, none⟩) (Nat.le_refl _) (.string s)
        clear hs hs' hb hcell0 hfill hbel
        go_wp2
        go_roundw
        case rel => exact ⟨k + 1, by omega, by go_num, F, B⟩
        case measure => simp [intOf]; omega
      · have hkl : k = ss.length := by omega
        subst hkl
        go_wp2
        go_ret
        exact ⟨_, _, rfl, ⟨fun _ => ⟨w.heap.size, 0, rfl, hfill.2.2.2, fun j hj => by rw [Nat.zero_add]; exact hfill.2.2.1 j hj⟩, hs.2⟩, hbel⟩

set_option maxRecDepth 100000 in
set_option maxHeartbeats 1000000 in
theorem cloneU_any (a : Option Addr) (zs : List Int) (cap : Nat) (w : World) (hs : IntsAt w a zs) (hl : zs.length ≤ 65536) :
    Calls Try.prog 12 #[.slice a zs.length cap] w fun e w' => ClonedU w zs e w' := by
  have heq := fun W => Lib.run_eql_slice_nil (P := Try.prog) W 23 36 a zs.length cap 0 0 Try.underlying23
  cases a with
  | none =>
    have h0 : zs = [] := by
      cases zs with
      | nil => rfl
      | cons x r => obtain ⟨b, o, h, _⟩ := hs.1 (by simp); cases h
    subst h0
    clear heq
    have heq := fun W => Lib.run_eql_slice_nil (P := Try.prog) W 23 36 none 0 cap 0 0 Try.underlying23
    go_enter Try.func12, Try.ntmps12
    go_wp2
    go_ret
    exact ⟨none, 0, rfl, hs, Below.refl _ _⟩
  | some p =>
    obtain ⟨z, hmk⟩ := made23 zs.length hl
    go_enter Try.func12, Try.ntmps12
    go_wp2
    go_loopw [4] (fun i wr => ∃ k : Nat, k ≤ zs.length ∧ i = .int .i64 k ∧ Filled wr w.heap.size zs.length k (fun j => .int .u64 (zs.getD j 0)) ∧ Below w.heap.size w wr) (fun i _ => zs.length - (intOf i).toNat)
    case atStart => exact ⟨0, Nat.zero_le _, rfl, Filled.made _ _ _ _ _, (Below.refl _ _).alloc (Nat.le_refl _) _⟩
    case round =>
      obtain ⟨k, hk, rfl, hfill, hbel⟩ := hrel
      clear hmk heq
      by_cases hlt : k < zs.length
      · obtain ⟨b, o, c, hb, hidx, hcell0, hsz, hs'⟩ := hs.idx hlt cap
        have hcell : wr.cell? ⟨b, o, none⟩ = some (.int .u64 c) := by rw [hbel.cell (by exact hb)]; exact hcell0
        obtain ⟨v, hv⟩ := hfill.1 k hlt
        have hfz := hfill.2.1 k hlt
        have hidx2 : ∀ W : World, (Instr.indexAt 23 (.slice (some ⟨w.heap.size, 0, none⟩) zs.length zs.length) (.int .i64 (k : Int))).run Try.prog W = .ok (.pointer (some ⟨w.heap.size, k, none⟩)) W := fun W => by rw [idx23 _ _ _ _ hlt]; simp [Addr.add_lit]
        have F := hfill.step hlt (v := .int .u64 c) (by rw [hs'.out])
        have B := hbel.setCell (p := ⟨w.heap.size, k, none⟩) (Nat.le_refl _) (.int .u64 c)
        clear hs hs' hb hcell0 hfill hbel hsz
        go_wp2
        go_roundw
        case rel => exact ⟨k + 1, by omega, by go_num, F, B⟩
        case measure => simp [intOf]; omega
      · have hkl : k = zs.length := by omega
        subst hkl
        go_wp2
        go_ret
        exact ⟨_, _, rfl, ⟨fun _ => ⟨w.heap.size, 0, rfl, hfill.2.2.2, fun j hj => by rw [Nat.zero_add]; exact hfill.2.2.1 j hj⟩, hs.2⟩, hbel⟩

end Go.Proofs.Qxb6000019a
