/-
  Rows of elements of three cells (spans, events); '==' of two spans; what the sort's contract says of them.
-/
import Derived.Test.Qxb6618911aGreatSort
import Derived.Test.Qxb6618911aGreatOwn
import Derived.Laws.StructEq
import Derived.Lib.SliceRun
namespace Go.Proofs.Qxb6618911aGreat
open Go.Shelf Go.RowKit Go.Lib Go.Sort

/-- Block b holds n elements of three cells each, d i the i-th, none frozen. -/
def R3 (enc : Int × Int × Int → List Value) (w : World) (b n : Nat) (d : Nat → Int × Int × Int) : Prop :=
  ∀ i, i < n → ∀ c, c < 3 → w.cell? ⟨b, i * 3 + c, none⟩ = some (enc (d i))[c]! ∧ w.frozen? ⟨b, i * 3 + c, none⟩ = false

theorem R3.of_block {enc : Int × Int × Int → List Value} {w w' : World} {b n : Nat} {d : Nat → Int × Int × Int} (h : R3 enc w b n d) (e : w'.heap[b]? = w.heap[b]?) : R3 enc w' b n d := fun i hi c hc =>
  ⟨(World.cell?_of_block (w := w) (a := ⟨b, i * 3 + c, none⟩) e).trans (h i hi c hc).1, (World.frozen?_of_block (w := w) (a := ⟨b, i * 3 + c, none⟩) e).trans (h i hi c hc).2⟩

theorem R3.congr {enc : Int × Int × Int → List Value} {w : World} {b n : Nat} {d d' : Nat → Int × Int × Int} (h : R3 enc w b n d) (e : ∀ i, i < n → d i = d' i) : R3 enc w b n d' := fun i hi c hc => by
  rw [← e i hi]; exact h i hi c hc

theorem R3.less {enc : Int × Int × Int → List Value} {w : World} {b n m : Nat} {d : Nat → Int × Int × Int} (h : R3 enc w b n d) (hm : m ≤ n) : R3 enc w b m d := fun i hi => h i (by omega)

theorem R3.lt {enc : Int × Int × Int → List Value} {w : World} {b n : Nat} {d : Nat → Int × Int × Int} (h : R3 enc w b n d) (hn : 0 < n) : b < w.heap.size := lt_of_cell (h 0 hn 0 (by omega)).1

theorem R3.holds {enc : Int × Int × Int → List Value} {w : World} {b n : Nat} {d : Nat → Int × Int × Int} (h : R3 enc w b n d) (a : Array (Int × Int × Int)) (ha : a.size = n) (hd : ∀ i, i < n → a[i]! = d i) : HoldsK enc 3 w b 0 a := by
  intro t ht
  rw [size_flatK] at ht
  have h3 : t / 3 < n := by omega
  have := h (t / 3) h3 (t % 3) (by omega)
  rw [show t / 3 * 3 + t % 3 = t from by omega] at this
  rw [Nat.zero_add, get_flatK enc 3 a t ht, hd _ h3]
  exact this

theorem R3.of_holds {enc : Int × Int × Int → List Value} {w : World} {b : Nat} {a : Array (Int × Int × Int)} (h : HoldsK enc 3 w b 0 a) : R3 enc w b a.size (fun i => a[i]!) := by
  intro i hi c hc
  have := h (i * 3 + c) (by rw [size_flatK]; omega)
  rw [Nat.zero_add, get_flatK enc 3 a _ (by omega), show (i * 3 + c) / 3 = i from by omega, show (i * 3 + c) % 3 = c from by omega] at this
  exact this

theorem sortWorld_grown (enc : Int × Int × Int → List Value) (w : World) (blk off m : Nat) (dk : Array (Int × Int × Int)) (os : Array Obj) : w.grownBy (sortWorldK enc 3 w blk off m dk os) (some blk) := by
  refine ⟨rfl, rfl, rfl, size_sortWorldK_c enc 3 w blk off m dk os, fun k hk hne => ?_⟩
  have hne' : k ≠ blk := fun e => hne (by rw [e])
  unfold sortWorldK
  rw [heap_grow_old _ _ (by show k < (putRowK enc 3 (Sort.ahead w m) blk off dk).heap.size; rw [size_putRowK]; exact hk)]
  simp only [putRowK, putRow, mapBlock, Array.getElem?_modify]
  rw [if_neg (fun e => hne' e.symm)]
  rfl

/-- '==' of two spans. -/
theorem eqlS (x y : Int × Int × Int) (w : World) : (binOp .eql 73 (.agg #[.int .u32 x.1, .int .u32 x.2.1, .int .i32 x.2.2]) (.agg #[.int .u32 y.1, .int .u32 y.2.1, .int .i32 y.2.2])).run Tryz.prog w = .ok (.bool (decide (x = y))) w := by
  have u71 := Tryz.underlying71
  have a71 := Tryz.isAgg71
  have z71 := Tryz.sizeOf71
  have u21 := Tryz.underlying21
  have a21 := Tryz.isAgg21
  have z21 := Tryz.sizeOf21
  have hS : Tryz.prog.underlying 73 = some (.struct (Tryz.prog.fieldsOf 73)) := by kernel_rfl
  have hp : Tryz.prog.stoodInHeld 73 = false := by kernel_rfl
  rw [run_eql_struct, show (10000 : Nat) = 9999 + 1 from rfl, run_equalIn_agg w 9999 73 _ _ hS hp]
  simp only [Program.fieldsOf, Tryz.underlying73]
  go_simp
  obtain ⟨a, b, c⟩ := x
  obtain ⟨a', b', c'⟩ := y
  by_cases h1 : a = a' <;> by_cases h2 : b = b' <;> by_cases h3 : c = c' <;> simp [h1, h2, h3]

/-- The first k elements, of equal neighbours one kept. -/
def ddn (d : Nat → Int × Int × Int) : Nat → List (Int × Int × Int)
  | 0 => []
  | k + 1 => if 0 < k ∧ d k = d (k - 1) then ddn d k else ddn d k ++ [d k]

end Go.Proofs.Qxb6618911aGreat
