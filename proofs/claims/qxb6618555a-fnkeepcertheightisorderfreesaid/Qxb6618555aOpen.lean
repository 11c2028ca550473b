/-
  The argument 'steps []KeepCertStep', opened: what the walks are told of it.
-/
import Derived.Test.Qxb6618555aRows
import Derived.Test.Qxb6618555aReads
import Derived.ProofKit
import Derived.OpenShut
import Derived.Deep.SlicePairs
namespace Go.Proofs.Qxb6618555a
open Go.ChangeShapes Go.WideShapes Go.RowKit

theorem own : ownKnob Try.prog.godebug = none := by kernel_rfl
theorem laidOut : laidOutB Try.prog = true := by kernel_rfl
theorem cells33 : Try.prog.cellsOf 33 = 2 := by kernel_rfl
theorem cells3 : Try.prog.cellsOf 3 = 1 := by kernel_rfl

theorem choose_int {n : Nat} {p : Nat → Int → Prop} (h : ∀ i, i < n → ∃ x, p i x) : ∃ f : Nat → Int, ∀ i, i < n → p i (f i) := Go.Deep.choose_lt h

/-- A value that was read by type 22 leads to steps. -/
theorem open_steps {H : Type} {enc : TypeId × Value → H} {W : World} {base : Nat} {spare : Nat → Bool} {held : Bool} {fuel len cap : Nat} {ao : Option Addr} {x : DataW H × List MemPlace}
    (h : DataW.trod enc Try.prog W base spare held fuel 22 [.slice ao len cap] = some x) : ∃ R Q, Steps W ao len R Q := by
  rcases Go.Deep.open_slice_pairs Try.underlying22 Try.underlying33 cells33 rfl rfl cells3 cells3 h with ⟨hcs, _⟩ | ⟨a, len', cap', m, k, V0, V1, D0, D1, P0, P1, hcs, _, hl, hm, hmm, _, hx⟩
  · simp at hcs
    obtain ⟨rfl, rfl, rfl⟩ := hcs
    exact ⟨fun _ => 0, fun _ => 0, Nat.zero_le _, fun i hi => by omega⟩
  · simp at hcs
    obtain ⟨rfl, rfl, rfl⟩ := hcs
    have hlm : len ≤ m := by rw [hmm]; split <;> omega
    have each : ∀ i, i < len → ∃ r : Int, V0 i = .int .i64 r := fun i hi => by
      obtain ⟨r, e, _⟩ := DataW.trod_int Try.underlying3 (hx i (by omega)).2.2.1
      simp at e
      exact ⟨r, e⟩
    have each1 : ∀ i, i < len → ∃ r : Int, V1 i = .int .i64 r := fun i hi => by
      obtain ⟨r, e, _⟩ := DataW.trod_int Try.underlying3 (hx i (by omega)).2.2.2
      simp at e
      exact ⟨r, e⟩
    obtain ⟨R, hR⟩ := choose_int each
    obtain ⟨Q, hQ⟩ := choose_int each1
    refine ⟨R, Q, by omega, fun i hi => ?_⟩
    obtain ⟨b, off, spot⟩ := a
    have hsp : spot = none := by
      have := World.cell?_spot (hx 0 (by omega)).1
      simpa [Addr.add] using this
    subst hsp
    obtain ⟨h0, h1, _⟩ := hx i (by omega)
    rw [add_plain] at h0 h1
    exact ⟨b, off, rfl, by rw [h0, hR i hi], by rw [← hQ i hi, ← h1]; rfl⟩

end Go.Proofs.Qxb6618555a
