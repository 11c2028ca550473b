/-
  Small readers: Registry.Len, Registry.Names, Interner.Sets.
-/
import Derived.Test.Qxb6618911aGreatItn
namespace Go.Proofs.Qxb6618911aGreat
open Go.RowKit Go.Lib

set_option maxHeartbeats 400000 in
theorem names35 (b : Nat) (v : Value) (w : World) (h : w.cell? ⟨b, 0, none⟩ = some v) : Calls Tryz.prog 35 #[.pointer (some ⟨b, 0, none⟩)] w fun e w' => e = .returned v ∧ w' = w := by
  go_enter Tryz.func35, Tryz.ntmps35
  go_wp2
  go_ret
  exact ⟨rfl, rfl⟩

set_option maxHeartbeats 400000 in
theorem len37 (b : Nat) (ao : Option Addr) (n cap : Nat) (w : World) (h : w.cell? ⟨b, 0, none⟩ = some (.slice ao n cap)) : Calls Tryz.prog 37 #[.pointer (some ⟨b, 0, none⟩)] w fun e w' => e = .returned (.int .i64 n) ∧ w' = w := by
  go_enter Tryz.func37, Tryz.ntmps37
  go_wp2
  go_ret
  exact ⟨rfl, rfl⟩

set_option maxHeartbeats 400000 in
theorem sets39 (b : Nat) (v : Value) (w : World) (h : w.cell? ⟨b, 2, none⟩ = some v) : Calls Tryz.prog 39 #[.pointer (some ⟨b, 0, none⟩)] w fun e w' => e = .returned v ∧ w' = w := by
  go_enter Tryz.func39, Tryz.ntmps39
  go_wp2
  go_ret
  exact ⟨rfl, rfl⟩

end Go.Proofs.Qxb6618911aGreat
