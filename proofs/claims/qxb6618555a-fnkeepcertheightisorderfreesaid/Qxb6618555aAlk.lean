/-
  Worlds that part in draws alone, the tape told too.
-/
import Derived.Deep.OwnRows
import Derived.Deep.Draws
import Derived.Below
namespace Go.Proofs.Qxb6618555a
open Go.RowKit

/-- w' is w but for the count of draws. -/
structure Alk (w' w : World) : Prop where
  heap : w'.heap = w.heap
  tape : w'.tape = w.tape
  os : w'.os = w.os
  output : w'.output = w.output

namespace Alk
variable {w w' w'' : World}
theorem refl (w : World) : Alk w w := ⟨rfl, rfl, rfl, rfl⟩
theorem trans (h : Alk w'' w') (k : Alk w' w) : Alk w'' w := ⟨h.heap.trans k.heap, h.tape.trans k.tape, h.os.trans k.os, h.output.trans k.output⟩
theorem drewN (w : World) (n : Nat) : Alk (w.drewN n) w := ⟨rfl, rfl, rfl, rfl⟩
theorem cell (h : Alk w' w) (a : Addr) : w'.cell? a = w.cell? a := by simp [World.cell?, h.heap]
theorem frozen (h : Alk w' w) (a : Addr) : w'.frozen? a = w.frozen? a := by simp [World.frozen?, h.heap]
theorem size (h : Alk w' w) : w'.heap.size = w.heap.size := by rw [h.heap]
theorem setCell (h : Alk w' w) (a : Addr) (v : Value) : Alk (w'.setCell a v) (w.setCell a v) := ⟨by simp [World.setCell, h.heap], h.tape, h.os, h.output⟩
theorem below (h : Alk w' w) (B : Nat) : Below B w w' := ⟨h.os, h.tape, h.output, by rw [h.heap]; exact Nat.le_refl _, fun k _ => by rw [h.heap]⟩
end Alk
end Go.Proofs.Qxb6618555a
