/-
  Slices of strings and of int, nil or not, in one word each; the walks of the two copies and of the functions that only look at lengths.
-/
import Derived.Test.Qxb6001755aRows
import Derived.WalkKit
import Derived.WalkSpells
import Derived.WalkLawsBesides
import Derived.Lib.SliceRun
import Derived.RegionTactic
import Derived.ChangeAlike
import Derived.Maps.Own
namespace Go.Proofs.Qxb6001755a
open Go.RowKit

def StrsAt (w : World) (a : Option Addr) (ss : List ByteArray) : Prop :=
  (0 < ss.length → ∃ b o, a = some ⟨b, o, none⟩ ∧ b < w.heap.size ∧ ∀ j, j < ss.length → w.cell? ⟨b, o + j, none⟩ = some (.string (ss.getD j ByteArray.empty))) ∧ (∀ s ∈ ss, s.size ≤ maxLen) ∧ ss.length ≤ maxLen
def IntsAt (w : World) (a : Option Addr) (zs : List Int) : Prop :=
  (0 < zs.length → ∃ b o, a = some ⟨b, o, none⟩ ∧ b < w.heap.size ∧ ∀ j, j < zs.length → w.cell? ⟨b, o + j, none⟩ = some (.int .i64 (zs.getD j 0))) ∧ (∀ c ∈ zs, (Lit.int .i64 c).wf = true) ∧ zs.length ≤ maxLen

theorem idx38 (a : Addr) (len cap k : Nat) (hk : k < len) (W : World) : (Instr.indexAt 38 (.slice (some a) len cap) (.int .i64 (k : Int))).run Try.prog W = .ok (.pointer (some (a.add k))) W := by
  have hs : ∀ W, (sizeOf (Try.prog.elem 38)).run Try.prog W = .ok 1 W := fun W => by kernel_rfl
  rw [run_indexAt_slice W 38 a len cap .i64 k (by kernel_rfl), if_pos (by omega), hs]
  simp [Result.andThen]
theorem idx22 (a : Addr) (len cap k : Nat) (hk : k < len) (W : World) : (Instr.indexAt 22 (.slice (some a) len cap) (.int .i64 (k : Int))).run Try.prog W = .ok (.pointer (some (a.add k))) W := by
  have hs : ∀ W, (sizeOf (Try.prog.elem 22)).run Try.prog W = .ok 1 W := fun W => by kernel_rfl
  rw [run_indexAt_slice W 22 a len cap .i64 k (by kernel_rfl), if_pos (by omega), hs]
  simp [Result.andThen]

theorem getD_mem {α : Type} {l : List α} {k : Nat} (hk : k < l.length) (d : α) : l.getD k d ∈ l := by
  rw [List.getD, List.getElem?_eq_getElem hk]; exact List.getElem_mem hk

theorem StrsAt.idx {w : World} {a : Option Addr} {ss : List ByteArray} (h : StrsAt w a ss) {k : Nat} (hk : k < ss.length) (cap : Nat) :
    ∃ b o s, b < w.heap.size ∧ (∀ W : World, (Instr.indexAt 38 (.slice a ss.length cap) (.int .i64 (k : Int))).run Try.prog W = .ok (.pointer (some ⟨b, o, none⟩)) W) ∧ w.cell? ⟨b, o, none⟩ = some (.string s) ∧ s.size ≤ maxLen ∧ Hid (s = ss.getD k ByteArray.empty) := by
  obtain ⟨b, o, rfl, hb, hc⟩ := h.1 (by omega)
  exact ⟨b, o + k, _, hb, fun W => by rw [idx38 _ _ _ _ hk]; simp [Addr.add_lit], hc k hk, h.2.1 _ (getD_mem hk _), rfl⟩
theorem IntsAt.idx {w : World} {a : Option Addr} {zs : List Int} (h : IntsAt w a zs) {k : Nat} (hk : k < zs.length) (cap : Nat) :
    ∃ b o c, b < w.heap.size ∧ (∀ W : World, (Instr.indexAt 22 (.slice a zs.length cap) (.int .i64 (k : Int))).run Try.prog W = .ok (.pointer (some ⟨b, o, none⟩)) W) ∧ w.cell? ⟨b, o, none⟩ = some (.int .i64 c) ∧ (Lit.int .i64 c).wf = true ∧ Hid (c = zs.getD k 0) := by
  obtain ⟨b, o, rfl, hb, hc⟩ := h.1 (by omega)
  exact ⟨b, o + k, _, hb, fun W => by rw [idx22 _ _ _ _ hk]; simp [Addr.add_lit], hc k hk, h.2.1 _ (getD_mem hk _), rfl⟩

theorem StrsAt.below {w w' : World} {a : Option Addr} {ss : List ByteArray} (h : StrsAt w a ss) (hb : Below w.heap.size w w') : StrsAt w' a ss :=
  ⟨fun h0 => by
    obtain ⟨b, o, ha, hlt, hc⟩ := h.1 h0
    exact ⟨b, o, ha, Nat.lt_of_lt_of_le hlt hb.size, fun j hj => by rw [hb.cell (by exact hlt)]; exact hc j hj⟩, h.2⟩
theorem IntsAt.below {w w' : World} {a : Option Addr} {zs : List Int} (h : IntsAt w a zs) (hb : Below w.heap.size w w') : IntsAt w' a zs :=
  ⟨fun h0 => by
    obtain ⟨b, o, ha, hlt, hc⟩ := h.1 h0
    exact ⟨b, o, ha, Nat.lt_of_lt_of_le hlt hb.size, fun j hj => by rw [hb.cell (by exact hlt)]; exact hc j hj⟩, h.2⟩
theorem Below.next {w w1 w2 : World} (h : Below w.heap.size w w1) (h2 : Below w1.heap.size w1 w2) : Below w.heap.size w w2 := h.trans (h2.mono h.size)

def IsBool (e : Ending) : Prop := ∃ b : Bool, e = .returned (.bool b)
theorem isBool (b : Bool) : IsBool (.returned (.bool b)) := ⟨b, rfl⟩

def ClonedS (w : World) (ss : List ByteArray) (e : Ending) (w' : World) : Prop := ∃ (a' : Option Addr) (cap' : Nat), e = .returned (.slice a' ss.length cap') ∧ StrsAt w' a' ss ∧ Below w.heap.size w w'
def ClonedI (w : World) (zs : List Int) (e : Ending) (w' : World) : Prop := ∃ (a' : Option Addr) (cap' : Nat), e = .returned (.slice a' zs.length cap') ∧ IntsAt w' a' zs ∧ Below w.heap.size w w'

/-- block B has n cells that may be written; the first k hold g 0 .. g (k-1) -/
def Filled (wr : World) (B n k : Nat) (g : Nat → Value) : Prop :=
  (∀ j, j < n → ∃ v, wr.cell? ⟨B, j, none⟩ = some v) ∧ (∀ j, j < n → wr.frozen? ⟨B, j, none⟩ = false) ∧ (∀ j, j < k → wr.cell? ⟨B, j, none⟩ = some (g j)) ∧ B < wr.heap.size

theorem Filled.step {wr : World} {B n k : Nat} {g : Nat → Value} (h : Filled wr B n k g) (hk : k < n) {v : Value} (hv : v = g k) : Filled (wr.setCell ⟨B, k, none⟩ v) B n (k + 1) g := by
  obtain ⟨h1, h2, h3, h4⟩ := h
  obtain ⟨u, hu⟩ := h1 k hk
  refine ⟨fun j hj => ?_, fun j hj => by rw [World.frozen?_setCell]; exact h2 j hj, fun j hj => ?_, by simpa using h4⟩
  · obtain ⟨x, hx⟩ := h1 j hj
    exact cell?_setCell_some hx
  · by_cases e : j = k
    · subst e
      rw [World.cell?_setCell_same _ _ _ hu, hv]
    · rw [World.cell?_setCell_other _ _ _ _ (by intro h; simp only [Addr.mk.injEq] at h; omega)]
      exact h3 j (by omega)

theorem Filled.made (w : World) (z : Array Value) (n : Nat) (e : TypeId) (g : Nat → Value) : Filled (w.alloc (.cells (madeCells z n) e)) w.heap.size n 0 g := by
  have hh := (MapKept.heap_alloc w (.cells (madeCells z n) e)).1
  refine ⟨fun j hj => ⟨(madeCells z n)[j]'(by rw [size_madeCells]; exact hj), ?_⟩, fun j hj => ?_, fun j hj => by omega, by simp⟩
  · unfold World.cell?
    rw [hh]
    simp [size_madeCells, hj]
  · unfold World.frozen?
    rw [hh]
    simp

theorem Try.info9 : (Try.prog.info? 9).map (fun i => (i.zero, i.size, i.bytes)) = some (some (.string ByteArray.empty), 1, 16) := by kernel_rfl
theorem Try.info3 : (Try.prog.info? 3).map (fun i => (i.zero, i.size, i.bytes)) = some (some (.int .i64 0), 1, 8) := by kernel_rfl

theorem made38 (n : Nat) (h : n ≤ 131072) : ∃ z : Array Value, ∀ W : World, (Instr.makeSlice 38 (.int .i64 (n : Int)) (.int .i64 (n : Int))).run Try.prog W = .ok (.slice (some ⟨W.heap.size, 0, none⟩) n n) (W.alloc (.cells (madeCells z n) 9)) := by
  obtain ⟨i, hi, hz0, hz1, hz2⟩ := info_parts Try.info9
  refine ⟨(Value.string ByteArray.empty).cells, fun W => ?_⟩
  have := run_make (P := Try.prog) W 38 9 i _ Try.underlying38 hi hz0 .i64 .i64 n n (by omega) (by omega) (by rw [hz2]; omega) (by omega)
  rw [hz1] at this
  simpa using this
theorem made22 (n : Nat) (h : n ≤ 131072) : ∃ z : Array Value, ∀ W : World, (Instr.makeSlice 22 (.int .i64 (n : Int)) (.int .i64 (n : Int))).run Try.prog W = .ok (.slice (some ⟨W.heap.size, 0, none⟩) n n) (W.alloc (.cells (madeCells z n) 3)) := by
  obtain ⟨i, hi, hz0, hz1, hz2⟩ := info_parts Try.info3
  refine ⟨(Value.int .i64 0).cells, fun W => ?_⟩
  have := run_make (P := Try.prog) W 22 3 i _ Try.underlying22 hi hz0 .i64 .i64 n n (by omega) (by omega) (by rw [hz2]; omega) (by omega)
  rw [hz1] at this
  simpa using this

theorem nil_of_none {w : World} {ss : List ByteArray} (h : StrsAt w none ss) : ss = [] := by
  cases ss with
  | nil => rfl
  | cons x r => obtain ⟨b, o, h, _⟩ := h.1 (by simp); cases h
theorem nil_of_none' {w : World} {zs : List Int} (h : IntsAt w none zs) : zs = [] := by
  cases zs with
  | nil => rfl
  | cons x r => obtain ⟨b, o, h, _⟩ := h.1 (by simp); cases h

set_option maxRecDepth 100000 in
set_option maxHeartbeats 1000000 in
theorem copyS_any (a : Option Addr) (ss : List ByteArray) (cap : Nat) (w : World) (hs : StrsAt w a ss) (hl : ss.length ≤ 131072) :
    Calls Try.prog 21 #[.slice a ss.length cap] w fun e w' => ClonedS w ss e w' := by
  cases a with
  | none =>
    have h0 := nil_of_none hs
    subst h0
    have heq := fun W => Lib.run_eql_slice_nil (P := Try.prog) W 38 9 none 0 cap 0 0 Try.underlying38
    go_enter Try.func21, Try.ntmps21
    go_wp2
    go_ret
    exact ⟨none, 0, rfl, hs, Below.refl _ _⟩
  | some p =>
    have heq := fun W => Lib.run_eql_slice_nil (P := Try.prog) W 38 9 (some p) ss.length cap 0 0 Try.underlying38
    obtain ⟨z, hmk⟩ := made38 ss.length hl
    go_enter Try.func21, Try.ntmps21
    go_wp2
    go_loopw [4] (fun i wr => ∃ k : Nat, k ≤ ss.length ∧ i = .int .i64 k ∧ Filled wr w.heap.size ss.length k (fun j => .string (ss.getD j ByteArray.empty)) ∧ Below w.heap.size w wr) (fun i _ => ss.length - (intOf i).toNat)
    case atStart => exact ⟨0, Nat.zero_le _, rfl, Filled.made _ _ _ _ _, (Below.refl _ _).alloc (Nat.le_refl _) _⟩
    case round =>
      obtain ⟨k, hk, rfl, hfill, hbel⟩ := hrel
      clear hmk heq
      by_cases hlt : k < ss.length
      · obtain ⟨b, o, s, hb, hidx, hcell0, hsz, hs'⟩ := hs.idx hlt cap
        have hcell : wr.cell? ⟨b, o, none⟩ = some (.string s) := by rw [hbel.cell (by exact hb)]; exact hcell0
        obtain ⟨v, hv⟩ := hfill.1 k hlt
        have hfz := hfill.2.1 k hlt
        have hidx2 : ∀ W : World, (Instr.indexAt 38 (.slice (some ⟨w.heap.size, 0, none⟩) ss.length ss.length) (.int .i64 (k : Int))).run Try.prog W = .ok (.pointer (some ⟨w.heap.size, k, none⟩)) W := fun W => by rw [idx38 _ _ _ _ hlt]; simp [Addr.add_lit]
        have F := hfill.step hlt (v := .string s) (by rw [hs'.out])
        have B := hbel.setCell (p := ⟨w.heap.size, k, none⟩) (Nat.le_refl _) (.string s)
        clear hs hs' hb hcell0 hfill hbel
        go_wp2
        go_roundw
        case rel => exact ⟨k + 1, by omega, by go_num, F, B⟩
        case measure => simp [intOf]; omega
      · have hkl : k = ss.length := by omega
        subst hkl
        go_wp2
        go_ret
        exact ⟨_, _, rfl, ⟨fun _ => ⟨w.heap.size, 0, rfl, hfill.2.2.2, fun j hj => by rw [Nat.zero_add]; exact hfill.2.2.1 j hj⟩, hs.2⟩, hbel⟩

set_option maxRecDepth 100000 in
set_option maxHeartbeats 1000000 in
theorem copyI_any (a : Option Addr) (zs : List Int) (cap : Nat) (w : World) (hs : IntsAt w a zs) (hl : zs.length ≤ 131072) :
    Calls Try.prog 11 #[.slice a zs.length cap] w fun e w' => ClonedI w zs e w' := by
  cases a with
  | none =>
    have h0 := nil_of_none' hs
    subst h0
    have heq := fun W => Lib.run_eql_slice_nil (P := Try.prog) W 22 3 none 0 cap 0 0 Try.underlying22
    go_enter Try.func11, Try.ntmps11
    go_wp2
    go_ret
    exact ⟨none, 0, rfl, hs, Below.refl _ _⟩
  | some p =>
    have heq := fun W => Lib.run_eql_slice_nil (P := Try.prog) W 22 3 (some p) zs.length cap 0 0 Try.underlying22
    obtain ⟨z, hmk⟩ := made22 zs.length hl
    go_enter Try.func11, Try.ntmps11
    go_wp2
    go_loopw [4] (fun i wr => ∃ k : Nat, k ≤ zs.length ∧ i = .int .i64 k ∧ Filled wr w.heap.size zs.length k (fun j => .int .i64 (zs.getD j 0)) ∧ Below w.heap.size w wr) (fun i _ => zs.length - (intOf i).toNat)
    case atStart => exact ⟨0, Nat.zero_le _, rfl, Filled.made _ _ _ _ _, (Below.refl _ _).alloc (Nat.le_refl _) _⟩
    case round =>
      obtain ⟨k, hk, rfl, hfill, hbel⟩ := hrel
      clear hmk heq
      by_cases hlt : k < zs.length
      · obtain ⟨b, o, c, hb, hidx, hcell0, hsz, hs'⟩ := hs.idx hlt cap
        have hcell : wr.cell? ⟨b, o, none⟩ = some (.int .i64 c) := by rw [hbel.cell (by exact hb)]; exact hcell0
        obtain ⟨v, hv⟩ := hfill.1 k hlt
        have hfz := hfill.2.1 k hlt
        have hidx2 : ∀ W : World, (Instr.indexAt 22 (.slice (some ⟨w.heap.size, 0, none⟩) zs.length zs.length) (.int .i64 (k : Int))).run Try.prog W = .ok (.pointer (some ⟨w.heap.size, k, none⟩)) W := fun W => by rw [idx22 _ _ _ _ hlt]; simp [Addr.add_lit]
        have F := hfill.step hlt (v := .int .i64 c) (by rw [hs'.out])
        have B := hbel.setCell (p := ⟨w.heap.size, k, none⟩) (Nat.le_refl _) (.int .i64 c)
        clear hs hs' hb hcell0 hfill hbel hsz
        go_wp2
        go_roundw
        case rel => exact ⟨k + 1, by omega, by go_num, F, B⟩
        case measure => simp [intOf]; omega
      · have hkl : k = zs.length := by omega
        subst hkl
        go_wp2
        go_ret
        exact ⟨_, _, rfl, ⟨fun _ => ⟨w.heap.size, 0, rfl, hfill.2.2.2, fun j hj => by rw [Nat.zero_add]; exact hfill.2.2.1 j hj⟩, hs.2⟩, hbel⟩

end Go.Proofs.Qxb6001755a
