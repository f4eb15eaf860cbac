/-
  The walk of Date.Compare.
-/
import Derived.Test.Qxb6001755aCmp
import Derived.Deep.RegionHeld3
namespace Go.Proofs.Qxb6001755a
open Go.RowKit

def cmpD (a b : Int × Int × Int) : Int := firstNZ [cmpI a.1 b.1, cmpI a.2.1 b.2.1, cmpI a.2.2 b.2.2]

set_option maxRecDepth 100000 in
set_option maxHeartbeats 1000000 in
theorem dcmp_any (y m d y' m' d' : Int) (w : World) :
    Calls Try.prog 30 #[.agg #[.int .i64 y, .int .i64 m, .int .i64 d], .agg #[.int .i64 y', .int .i64 m', .int .i64 d']] w fun e w' => e = .returned (.int .i64 (cmpD (y, m, d) (y', m', d'))) ∧ Below w.heap.size w w' := by
  go_enter Try.func30, Try.ntmps30
  go_wp2
  go_region_held3 (fun W => W.cell? ⟨w.heap.size, 0, none⟩ = some (.int .i64 y) ∧ W.cell? ⟨w.heap.size, 1, none⟩ = some (.int .i64 m) ∧ W.cell? ⟨w.heap.size, 2, none⟩ = some (.int .i64 d) ∧ W.cell? ⟨w.heap.size + 1, 0, none⟩ = some (.int .i64 y') ∧ W.cell? ⟨w.heap.size + 1, 1, none⟩ = some (.int .i64 m') ∧ W.cell? ⟨w.heap.size + 1, 2, none⟩ = some (.int .i64 d')) (go_keep)
    (first
    | (go_at_call 33; refine (cmp33_any _ _ _).mono ?_; rintro e w' ⟨rfl, rfl⟩)
    | (go_at_call 34; refine (cmp34_any _ _ _).mono ?_; rintro e w' ⟨rfl, rfl⟩)
    | (go_at_call 32; refine (or_any _ (cmpI y y') (cmpI m m') (cmpI d d') _ (by go_simp) (by go_simp) (by go_simp)).mono ?_; rintro e w' ⟨rfl, rfl⟩))
  go_wp2
  go_ret
  refine ⟨rfl, ?_⟩
  repeat (first | exact Below.refl _ _ | apply Below.drew | refine Below.alloc ?_ (by simp <;> omega) _)
end Go.Proofs.Qxb6001755a
