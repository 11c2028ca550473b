/-
  Words for worlds and rows, as the walks of this seat use them. No walk here.
-/
import Derived.Deep.OwnRows
import Derived.Deep.Draws
import Derived.Below
namespace Go.Proofs.Qxb6618911aGreat
open Go.RowKit

/-- w' is w but for the count of draws. -/
structure Alk (w' w : World) : Prop where
  heap : w'.heap = w.heap
  tape : w'.tape = w.tape
  os : w'.os = w.os
  output : w'.output = w.output

namespace Alk
variable {w w' w'' : World}
theorem refl (w : World) : Alk w w := ⟨rfl, rfl, rfl, rfl⟩
theorem trans (h : Alk w'' w') (k : Alk w' w) : Alk w'' w := ⟨h.heap.trans k.heap, h.tape.trans k.tape, h.os.trans k.os, h.output.trans k.output⟩
theorem drewN (w : World) (n : Nat) : Alk (w.drewN n) w := ⟨rfl, rfl, rfl, rfl⟩
theorem cell (h : Alk w' w) (a : Addr) : w'.cell? a = w.cell? a := by simp [World.cell?, h.heap]
theorem frozen (h : Alk w' w) (a : Addr) : w'.frozen? a = w.frozen? a := by simp [World.frozen?, h.heap]
theorem size (h : Alk w' w) : w'.heap.size = w.heap.size := by rw [h.heap]
theorem below (h : Alk w' w) (B : Nat) : Below B w w' := ⟨h.os, h.tape, h.output, by rw [h.heap]; exact Nat.le_refl _, fun k _ => by rw [h.heap]⟩
end Alk

theorem lt_of_cell {w : World} {b o : Nat} {v : Value} (h : w.cell? ⟨b, o, none⟩ = some v) : b < w.heap.size := by
  rcases Nat.lt_or_ge b w.heap.size with h1 | h1
  · exact h1
  · simp [World.cell?, Array.getElem?_eq_none h1] at h

theorem alloc_new (w : World) (o : Obj) : (w.alloc o).heap[w.heap.size]? = some o := Deep.blk_alloc_new w o

theorem cell_al {w : World} {b o : Nat} {v : Value} (h : w.cell? ⟨b, o, none⟩ = some v) (ob : Obj) : (w.alloc ob).cell? ⟨b, o, none⟩ = some v :=
  (World.cell?_of_block (w := w) (a := ⟨b, o, none⟩) (Below.heap_alloc w ob b (lt_of_cell h))).trans h
theorem frozen_al {w : World} {b o : Nat} {v : Value} (h : w.cell? ⟨b, o, none⟩ = some v) (hf : w.frozen? ⟨b, o, none⟩ = false) (ob : Obj) : (w.alloc ob).frozen? ⟨b, o, none⟩ = false :=
  (World.frozen?_of_block (w := w) (a := ⟨b, o, none⟩) (Below.heap_alloc w ob b (lt_of_cell h))).trans hf

/-- Cell o of block b, a block from lo on and below hi, holds v. -/
def In (w : World) (lo hi b o : Nat) (v : Value) : Prop := lo ≤ b ∧ b < hi ∧ w.cell? ⟨b, o, none⟩ = some v

theorem In.of_block {w w' : World} {lo hi b o : Nat} {v : Value} (h : In w lo hi b o v) (e : w'.heap[b]? = w.heap[b]?) : In w' lo hi b o v :=
  ⟨h.1, h.2.1, (World.cell?_of_block (w := w) (a := ⟨b, o, none⟩) e).trans h.2.2⟩

/-- A slice's address leads to n cells, f i the i-th, in blocks from lo on and below hi. -/
def Row (w : World) (lo hi : Nat) (ao : Option Addr) (n : Nat) (f : Nat → Value) : Prop :=
  ∀ i, i < n → ∃ b off, ao = some ⟨b, off, none⟩ ∧ In w lo hi b (off + i) (f i)

theorem Row.of_blocks {w w' : World} {lo hi : Nat} {ao : Option Addr} {n : Nat} {f : Nat → Value} (h : Row w lo hi ao n f) (e : ∀ b, lo ≤ b → b < hi → w'.heap[b]? = w.heap[b]?) : Row w' lo hi ao n f := fun i hi' => by
  obtain ⟨b, off, h1, h2⟩ := h i hi'
  exact ⟨b, off, h1, h2.of_block (e b h2.1 h2.2.1)⟩

theorem Row.below {w w' : World} {lo hi B : Nat} {ao : Option Addr} {n : Nat} {f : Nat → Value} (h : Row w lo hi ao n f) (hb : Below B w w') (hB : hi ≤ B) : Row w' lo hi ao n f :=
  h.of_blocks fun b _ h2 => hb.block b (by omega)

theorem Row.widen {w : World} {lo hi lo' hi' : Nat} {ao : Option Addr} {n : Nat} {f : Nat → Value} (h : Row w lo hi ao n f) (h1 : lo' ≤ lo) (h2 : hi ≤ hi') : Row w lo' hi' ao n f := fun i hi => by
  obtain ⟨b, off, e, g1, g2, g3⟩ := h i hi
  exact ⟨b, off, e, by omega, by omega, g3⟩

theorem Row.congr {w : World} {lo hi : Nat} {ao : Option Addr} {n : Nat} {f g : Nat → Value} (h : Row w lo hi ao n f) (e : ∀ i, i < n → f i = g i) : Row w lo hi ao n g := fun i hi => by
  obtain ⟨b, off, e1, e2⟩ := h i hi
  exact ⟨b, off, e1, e i hi ▸ e2⟩

theorem Row.of_rowIs {w : World} {lo hi b : Nat} {t : TypeId} {n : Nat} {f : Nat → Value} (h : w.rowIs b t n f) (h1 : lo ≤ b) (h2 : b < hi) : Row w lo hi (some ⟨b, 0, none⟩) n f := fun i hi =>
  ⟨b, 0, rfl, h1, h2, by rw [Nat.zero_add]; exact h.cell hi⟩

/-- The cell, for the walk. -/
theorem Row.cell {w : World} {lo hi : Nat} {ao : Option Addr} {n : Nat} {f : Nat → Value} (h : Row w lo hi ao n f) {i : Nat} (hi : i < n) : ∃ b off, ao = some ⟨b, off, none⟩ ∧ w.cell? ⟨b, off + i, none⟩ = some (f i) := by
  obtain ⟨b, off, h1, h2⟩ := h i hi
  exact ⟨b, off, h1, h2.2.2⟩

/-- It answers a bool; where the answer is true, p holds. -/
def Ans (e : Ending) (p : Prop) : Prop := ∃ b, e = .returned (.bool b) ∧ (b = true → p)
theorem Ans.no (p : Prop) : Ans (.returned (.bool false)) p := ⟨false, rfl, fun h => by cases h⟩
theorem Ans.yes {p : Prop} (h : p) : Ans (.returned (.bool true)) p := ⟨true, rfl, fun _ => h⟩

end Go.Proofs.Qxb6618911aGreat
