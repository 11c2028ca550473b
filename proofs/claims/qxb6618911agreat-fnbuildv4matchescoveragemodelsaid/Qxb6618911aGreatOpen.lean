/-
  The arguments opened: slices of strings and of numbers.
-/
import Derived.Test.Qxb6618911aGreatRows
import Derived.Test.Qxb6618911aGreatVoc
import Derived.ProofKit
import Derived.OpenShut
import Derived.ChangeSlices
import Derived.Deep.Strs
namespace Go.Proofs.Qxb6618911aGreat
open Go.ChangeShapes Go.WideShapes Go.RowKit

theorem own : ownKnob Tryz.prog.godebug = none := by kernel_rfl
theorem laidOut : laidOutB Tryz.prog = true := by kernel_rfl

/-- A slice as it came in: nil or not, its cells, its address plain. -/
structure ArgS (w : World) (ao : Option Addr) (n : Nat) (f : Nat → Value) : Prop where
  row : Row w 0 w.heap.size ao n f
  nil : ao = none → n = 0
  plain : ∀ a, ao = some a → a.spot = none
  len : n ≤ maxLen

theorem argS_of {w : World} {a : Addr} {n : Nat} {f : Nat → Value} (h : ∀ i, i < n → w.cell? (a.add i) = some (f i)) (h0 : a.spot = none) (hl : n ≤ maxLen) : ArgS w (some a) n f := by
  obtain ⟨b, off, spot⟩ := a
  simp only at h0
  subst h0
  have h' : ∀ i, i < n → w.cell? ⟨b, off + i, none⟩ = some (f i) := fun i hi => by rw [← add_plain]; exact h i hi
  exact ⟨fun i hi => ⟨b, off, rfl, Nat.zero_le _, lt_of_cell (h' i hi), h' i hi⟩, fun e => (by cases e), fun a e => (by cases e; rfl), hl⟩

theorem argS_nil (w : World) (f : Nat → Value) : ArgS w none 0 f := ⟨fun i hi => by omega, fun _ => rfl, fun a e => (by cases e), Nat.zero_le _⟩

theorem okWide_plain {P : Program} {w : World} {r : Reach} {base : Nat} {t e : TypeId} {a : Addr} {len cap : Nat} (ht : P.underlying t = some (.slice e)) (h : Value.okWide P w r base t (.slice (some a) len cap)) : a.spot = none := by
  simp only [Value.okWide, ht, Cell.okWide, Cell.ok] at h
  exact h.2.2.2.1

set_option maxRecDepth 100000 in
theorem open_argStr {H : Type} {enc : TypeId × Value → H} {W : World} {base : Nat} {r : Reach} {b0 : Nat} {spare : Nat → Bool} {held : Bool} {fuel len cap : Nat} {ao : Option Addr} {x : DataW H × List MemPlace} (hv : Value.okWide Tryz.prog W r b0 22 (.slice ao len cap))
    (h : DataW.trod enc Tryz.prog W base spare held fuel 22 [.slice ao len cap] = some x) : ∃ N : Nat → ByteArray, ArgS W ao len (fun i => .string (N i)) ∧ ∀ i, i < len → (N i).size ≤ maxLen := by
  rcases Go.Deep.open_strs Tryz.underlying22 Tryz.underlying9 (by kernel_rfl) h with ⟨hcs, _⟩ | ⟨a, l, c, m, N, hcs, _, hl, hm, hmm, _, hx⟩
  · simp at hcs
    obtain ⟨rfl, rfl, rfl⟩ := hcs
    exact ⟨fun _ => .empty, argS_nil _ _, fun i hi => by omega⟩
  · simp at hcs
    obtain ⟨rfl, rfl, rfl⟩ := hcs
    have hlm : len ≤ m := by rw [hmm]; split <;> omega
    have hq := okWide_plain (P := Tryz.prog) (t := 22) (e := 9) Tryz.underlying22 hv
    have hl2 : len ≤ maxLen := Nat.le_trans hl hm
    exact ⟨N, argS_of (fun i hi => (hx i (Nat.lt_of_lt_of_le hi hlm)).1) hq hl2, fun i hi => (hx i (Nat.lt_of_lt_of_le hi hlm)).2⟩

set_option maxRecDepth 100000 in
theorem open_argInt {H : Type} {enc : TypeId × Value → H} {W : World} {base : Nat} {r : Reach} {b0 : Nat} {spare : Nat → Bool} {held : Bool} {fuel len cap : Nat} {ao : Option Addr} {x : DataW H × List MemPlace} {t e : TypeId} {k : IntKind} (ht : Tryz.prog.underlying t = some (.slice e)) (he : Tryz.prog.underlying e = some (.int k)) (hc : Tryz.prog.cellsOf e = 1)
    (hv : Value.okWide Tryz.prog W r b0 t (.slice ao len cap))
    (h : DataW.trod enc Tryz.prog W base spare held fuel t [.slice ao len cap] = some x) : ∃ f : Nat → Int, ArgS W ao len (fun i => .int k (f i)) ∧ ∀ i, i < len → (Lit.int k (f i)).wf = true := by
  rcases open_ints ht he hc h with ⟨hcs, _⟩ | ⟨a, l, c, zs, hcs, _, hl, hm, hz, _, hcell, hwz⟩
  · simp at hcs
    obtain ⟨rfl, rfl, rfl⟩ := hcs
    exact ⟨fun _ => 0, argS_nil _ _, fun i hi => by omega⟩
  · simp at hcs
    obtain ⟨rfl, rfl, rfl⟩ := hcs
    have hlm : len ≤ zs.length := by rw [hz]; split <;> omega
    have hq := okWide_plain (P := Tryz.prog) ht hv
    have hl2 : len ≤ maxLen := Nat.le_trans hl hm
    refine ⟨fun i => zs.getD i 0, argS_of (fun i hi => hcell i (Nat.lt_of_lt_of_le hi hlm)) hq hl2, fun i hi => hwz _ ?_⟩
    have hi2 : i < zs.length := Nat.lt_of_lt_of_le hi hlm
    simp only [List.getD, List.getElem?_eq_getElem hi2, Option.getD_some]
    exact List.getElem_mem _

end Go.Proofs.Qxb6618911aGreat
