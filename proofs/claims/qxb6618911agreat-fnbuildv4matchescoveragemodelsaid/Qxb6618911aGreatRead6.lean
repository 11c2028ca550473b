/-
  The readers ZZIndex6 and ZZBuilderState.
-/
import Derived.Test.Qxb6618911aGreatRead
namespace Go.Proofs.Qxb6618911aGreat
open Go.RowKit

set_option maxRecDepth 20000 in
set_option maxHeartbeats 1000000 in
theorem index17 (xb s6 u6 : Nat) (ra : Option Addr) (w : World) (k3 : w.cell? ⟨xb, 3, none⟩ = some (.slice (some ⟨s6, 0, none⟩) 1 1)) (k4 : w.cell? ⟨xb, 4, none⟩ = some (.slice (some ⟨u6, 0, none⟩) 1 1)) (k5 : w.cell? ⟨xb, 5, none⟩ = some (.slice none 0 0))
    (k9 : w.cell? ⟨xb, 9, none⟩ = some (.slice none 0 0)) (k10 : w.cell? ⟨xb, 10, none⟩ = some (.slice ra 0 0)) (h0 : w.cell? ⟨s6, 0, none⟩ = some (.int .u64 0)) (h1 : w.cell? ⟨s6, 1, none⟩ = some (.int .u64 0)) (h2 : w.cell? ⟨u6, 0, none⟩ = some (.int .u32 0)) :
    Calls Tryz.prog 17 #[.pointer (some ⟨xb, 0, none⟩)] w fun e w' => e = .returned (.tuple #[.int .i64 1, .int .u64 0, .int .u64 0, .int .i64 1, .int .u32 0, .int .i64 0, .int .i64 0, .int .i64 0]) ∧ Alk w' w := by
  go_enter Tryz.func17, Tryz.ntmps17
  go_wp2
  go_quiet (fail)
  go_wp2
  refine bodyPost_ret (v := .tuple #[.int .i64 1, .int .u64 0, .int .u64 0, .int .i64 1, .int .u32 0, .int .i64 0, .int .i64 0, .int .i64 0]) (by simp [results, Tryz.results17, go_sem]) rfl ?_
  exact ⟨rfl, Alk.drewN _ _⟩

set_option maxHeartbeats 400000 in
theorem len37r (b : Nat) (ao : Option Addr) (n cap : Nat) (w : World) (h : w.cell? ⟨b, 0, none⟩ = some (.slice ao n cap)) : Calls Tryz.prog 37 #[.pointer (some ⟨b, 0, none⟩)] w fun e w' => e = .returned (.int .i64 n) ∧ w' = w := by
  go_enter Tryz.func37, Tryz.ntmps37
  go_wp2
  go_ret
  exact ⟨rfl, rfl⟩

set_option maxRecDepth 20000 in
set_option maxHeartbeats 1000000 in
theorem state18 (bb : Nat) (w : World) (k0 : w.cell? ⟨bb, 0, none⟩ = some (.slice none 0 0)) (k2 : w.cell? ⟨bb, 2, none⟩ = some (.slice none 0 0)) (k3 : w.cell? ⟨bb, 3, none⟩ = some (.slice none 0 0)) :
    Calls Tryz.prog 18 #[.pointer (some ⟨bb, 0, none⟩)] w fun e w' => e = .returned (.tuple #[.int .i64 0, .bool true, .bool true]) ∧ Alk w' w := by
  have q1 := eql_nil Tryz.underlying67 none 0 0
  have q2 := eql_nil Tryz.underlying68 none 0 0
  simp only [Option.isNone_none] at q1 q2
  have hcall : ∀ q, Calls Tryz.prog 37 #[.pointer (some ⟨bb, 0, none⟩)] (w.drewN q) fun e w' => e = .returned (.int .i64 0) ∧ w' = w.drewN q := fun q => len37r bb none 0 0 (w.drewN q) k0
  go_enter Tryz.func18, Tryz.ntmps18
  go_wp2
  go_quiet ((go_at_call 37; exact Calls.quiet_of_same (hcall _)))
  go_wp2
  refine bodyPost_ret (v := .tuple #[.int .i64 0, .bool true, .bool true]) (by simp [results, Tryz.results18, go_sem]) rfl ?_
  exact ⟨rfl, Alk.drewN _ _⟩
end Go.Proofs.Qxb6618911aGreat
