/-
  The comparer of spans, walked.
-/
import Derived.Test.Qxb6618911aGreatCmp
import Derived.Deep.RegionHeld3
import Derived.Deep.RegionWith
import Derived.Deep.DrawnRows
namespace Go.Proofs.Qxb6618911aGreat
open Go.RowKit

set_option maxRecDepth 100000 in
set_option maxHeartbeats 2000000 in
theorem closureS (x y : Int × Int × Int) (w : World) :
    Calls Tryz.prog 44 #[.agg #[.int .u32 x.1, .int .u32 x.2.1, .int .i32 x.2.2], .agg #[.int .u32 y.1, .int .u32 y.2.1, .int .i32 y.2.2]] w fun e w' => e = .returned (.int .i64 (cmpS x y)) ∧ ∃ q a b c, w' = (((w.alloc a).alloc b).alloc c).drewN q := by
  have hc0 := fun W => compare_any x.1 y.1 W
  have hc1 := fun W => compare_any x.2.1 y.2.1 W
  have hc2 := fun W => cmpCompare_any x.2.2 y.2.2 W
  have hS : cmpS x y = or3 (cmpI x.1 y.1) (cmpI x.2.1 y.2.1) (cmpI x.2.2 y.2.2) := rfl
  rw [hS]
  clear hS
  generalize cmpI x.1 y.1 = r0 at hc0 ⊢
  generalize cmpI x.2.1 y.2.1 = r1 at hc1 ⊢
  generalize cmpI x.2.2 y.2.2 = r2 at hc2 ⊢
  go_enter Tryz.func44, Tryz.ntmps44
  go_wp2_with fail
  go_region_held3 (fun w' => w'.cell? ⟨w.heap.size, 0, none⟩ = some (.int .u32 x.1) ∧ w'.cell? ⟨w.heap.size, 1, none⟩ = some (.int .u32 x.2.1) ∧ w'.cell? ⟨w.heap.size, 2, none⟩ = some (.int .i32 x.2.2) ∧
      w'.cell? ⟨w.heap.size + 1, 0, none⟩ = some (.int .u32 y.1) ∧ w'.cell? ⟨w.heap.size + 1, 1, none⟩ = some (.int .u32 y.2.1) ∧ w'.cell? ⟨w.heap.size + 1, 2, none⟩ = some (.int .i32 y.2.2)) (go_keep)
    (first
      | (go_at_call_of 46 (x.1); refine (hc0 _).mono ?_; rintro e w' ⟨rfl, rfl⟩)
      | (go_at_call_of 46 (x.2.1); refine (hc1 _).mono ?_; rintro e w' ⟨rfl, rfl⟩)
      | (go_at_call 47; refine (hc2 _).mono ?_; rintro e w' ⟨rfl, rfl⟩)
      | (go_at_call 45; refine (or_any _ r0 r1 r2 _ (by go_simp) (by go_simp) (by go_simp)).mono ?_; rintro e w' ⟨rfl, rfl⟩))
  all_goals
    go_wp2
    go_ret
    exact ⟨rfl, 1, _, _, _, rfl⟩
end Go.Proofs.Qxb6618911aGreat
