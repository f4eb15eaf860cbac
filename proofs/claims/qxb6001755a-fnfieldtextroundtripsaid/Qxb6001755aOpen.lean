/-
  From the row's reading of an argument to 'StrsAt', 'IntsAt'.
-/
import Derived.Test.Qxb6001755aBase
import Derived.ProofKit
import Derived.OpenShut
import Derived.ShutString
import Derived.ChangeOld
import Derived.Below
namespace Go.Proofs.Qxb6001755a
open Go.ChangeShapes Go.WideShapes Go.ChangeAt Go.RowKit

theorem own : ownKnob Try.prog.godebug = none := by kernel_rfl
theorem laidOut : laidOutB Try.prog = true := by kernel_rfl

theorem cell_lt {w : World} {x : Addr} {v : Value} (h : w.cell? x = some v) : x.block < w.heap.size := by
  unfold World.cell? at h
  split at h
  · rename_i hh
    exact (Array.getElem?_eq_some_iff.1 hh).1
  · cases h

theorem open38 {H : Type} {enc : TypeId × Value → H} {W : World} {a : Option Addr} {len cap : Nat} {d : DataW H} {p : List MemPlace}
    (h : DataW.Trod enc Try.prog W 0 (fun _ => true) true 38 (.slice a len cap) d p) : ∃ ss : List ByteArray, ss.length = len ∧ StrsAt W a ss := by
  obtain ⟨fuel, hf⟩ := h
  rcases open_strings Try.underlying38 Try.underlying9 (by kernel_rfl) hf with ⟨hcs, _⟩ | ⟨x, l, c, ss, hcs, _, hl, hm, hz, _, hcell, hws⟩
  · simp [Value.cells] at hcs
    obtain ⟨rfl, rfl, rfl⟩ := hcs
    exact ⟨[], rfl, fun h => by simp at h, fun s hs => by simp at hs, by simp⟩
  · simp [Value.cells] at hcs
    obtain ⟨rfl, rfl, rfl⟩ := hcs
    have hz' : ss.length = cap := by simpa using hz
    have hlt : (ss.take len).length = len := by rw [List.length_take]; omega
    refine ⟨ss.take len, hlt, fun h0 => ?_, fun s hs => hws s (List.mem_of_mem_take hs), by rw [hlt]; omega⟩
    obtain ⟨b, off, spot⟩ := x
    have hspot : spot = none := by simpa [Addr.add] using World.cell?_spot (hcell 0 (by omega))
    subst hspot
    refine ⟨b, off, rfl, ?_, fun j hj => ?_⟩
    · have := cell_lt (hcell 0 (by omega))
      simpa [Addr.add] using this
    · have hj' : j < len := by omega
      rw [← add_plain, hcell j (by omega)]
      simp [List.getD, hj']

theorem open22 {H : Type} {enc : TypeId × Value → H} {W : World} {a : Option Addr} {len cap : Nat} {d : DataW H} {p : List MemPlace}
    (h : DataW.Trod enc Try.prog W 0 (fun _ => true) true 22 (.slice a len cap) d p) : ∃ zs : List Int, zs.length = len ∧ IntsAt W a zs := by
  obtain ⟨fuel, hf⟩ := h
  rcases open_ints Try.underlying22 Try.underlying3 (by kernel_rfl) hf with ⟨hcs, _⟩ | ⟨x, l, c, zs, hcs, _, hl, hm, hz, _, hcell, hwz⟩
  · simp [Value.cells] at hcs
    obtain ⟨rfl, rfl, rfl⟩ := hcs
    exact ⟨[], rfl, fun h => by simp at h, fun s hs => by simp at hs, by simp⟩
  · simp [Value.cells] at hcs
    obtain ⟨rfl, rfl, rfl⟩ := hcs
    have hz' : zs.length = cap := by simpa using hz
    have hlt : (zs.take len).length = len := by rw [List.length_take]; omega
    refine ⟨zs.take len, hlt, fun h0 => ?_, fun s hs => hwz s (List.mem_of_mem_take hs), by rw [hlt]; omega⟩
    obtain ⟨b, off, spot⟩ := x
    have hspot : spot = none := by simpa [Addr.add] using World.cell?_spot (hcell 0 (by omega))
    subst hspot
    refine ⟨b, off, rfl, ?_, fun j hj => ?_⟩
    · have := cell_lt (hcell 0 (by omega))
      simpa [Addr.add] using this
    · have hj' : j < len := by omega
      rw [← add_plain, hcell j (by omega)]
      simp [List.getD, hj']

end Go.Proofs.Qxb6001755a
