/-
  Rows that the call owns, of one cell an element; slices.Insert on such a row.
-/
import Derived.Test.Qxb6618911aGreatIns
import Derived.Lib.LazyBuf
namespace Go.Proofs.Qxb6618911aGreat
open Go.RowKit

/-- The slice '.slice ao n cap' owns the cells xs: nil, or the head of a row from block base on. -/
def OR (w : World) (base : Nat) (e : TypeId) (ao : Option Addr) (n cap : Nat) (xs : List Value) : Prop :=
  xs.length = n ∧ ((ao = none ∧ n = 0 ∧ cap = 0) ∨ ∃ g f, ao = some ⟨g, 0, none⟩ ∧ base ≤ g ∧ n ≤ cap ∧ cap ≤ maxLen ∧ w.rowIs g e cap f ∧ ∀ j, j < n → xs[j]? = some (f j))

theorem OR.of_owns {w : World} {base : Nat} {e : TypeId} {v : Value} {n : Nat} {xs : List Value} (h : w.ownsRow base e 1 v n xs) : ∃ ao cap, v = .slice ao n cap ∧ OR w base e ao n cap xs := by
  obtain ⟨h1, h2⟩ := h
  rcases h2 with ⟨rfl, rfl⟩ | ⟨g, cap, cur, rfl, hg, hb, hn, hc, hs, hx⟩
  · exact ⟨none, 0, rfl, by simpa using h1, .inl ⟨rfl, rfl, rfl⟩⟩
  · refine ⟨_, cap, rfl, by simpa using h1, .inr ⟨g, fun j => cur.toList[j]?.getD default, rfl, hg, hn, hc, ⟨cur, hb, by simpa using hs, fun i hi => ?_⟩, fun j hj => ?_⟩⟩
    · have : i < cur.size := by omega
      simp [this]
    · have hl : j < cur.size := by omega
      rw [← hx, Nat.mul_one, List.getElem?_take, if_pos hj]
      simp [hl]

theorem OR.owns {w : World} {base : Nat} {e : TypeId} {ao : Option Addr} {n cap : Nat} {xs : List Value} (h : OR w base e ao n cap xs) : w.ownsRow base e 1 (.slice ao n cap) n xs := by
  obtain ⟨h1, h2⟩ := h
  refine ⟨by simpa using h1, ?_⟩
  rcases h2 with ⟨rfl, rfl, rfl⟩ | ⟨g, f, rfl, hg, hn, hc, ⟨cur, hb, hs, hf⟩, hx⟩
  · exact .inl ⟨rfl, rfl⟩
  · refine .inr ⟨g, cap, cur, rfl, hg, hb, hn, hc, by simpa using hs, ?_⟩
    apply List.ext_getElem?
    intro j
    rw [Nat.mul_one, List.getElem?_take]
    by_cases hj : j < n
    · rw [if_pos hj, hx j hj]
      have := hf j (by omega)
      simpa using this
    · rw [if_neg hj, List.getElem?_eq_none (by omega)]

theorem OR.of_block {w w' : World} {base : Nat} {e : TypeId} {ao : Option Addr} {n cap : Nat} {xs : List Value} (h : OR w base e ao n cap xs) (k : ∀ g, ao = some ⟨g, 0, none⟩ → g < w.heap.size → w'.heap[g]? = w.heap[g]?) : OR w' base e ao n cap xs := by
  obtain ⟨h1, h2⟩ := h
  refine ⟨h1, ?_⟩
  rcases h2 with h2 | ⟨g, f, h3, h4, h5, h6, h7, h8⟩
  · exact .inl h2
  · exact .inr ⟨g, f, h3, h4, h5, h6, h7.of_block (k g h3 h7.lt), h8⟩

/-- The block of a row, where there is one. -/
def blkOf : Option Addr → Option Nat
  | some a => some a.block
  | none => none

theorem blkOf_own (ao : Option Addr) (n cap : Nat) : (Value.slice ao n cap).ownBlock = blkOf ao := by cases ao <;> rfl

theorem OR.grown {w w' : World} {base : Nat} {e : TypeId} {ao : Option Addr} {n cap : Nat} {xs : List Value} {row : Option Nat} (h : OR w base e ao n cap xs) (hg : w.grownBy w' row) (hne : ∀ g, ao = some ⟨g, 0, none⟩ → some g ≠ row) : OR w' base e ao n cap xs :=
  h.of_block fun g hg' hlt => hg.block g hlt (hne g hg')

theorem OR.cell {w : World} {base : Nat} {e : TypeId} {ao : Option Addr} {n cap : Nat} {xs : List Value} (h : OR w base e ao n cap xs) {j : Nat} (hj : j < n) : ∃ g v, ao = some ⟨g, 0, none⟩ ∧ base ≤ g ∧ xs[j]? = some v ∧ w.cell? ⟨g, j, none⟩ = some v ∧ w.frozen? ⟨g, j, none⟩ = false := by
  obtain ⟨h1, h2⟩ := h
  rcases h2 with ⟨_, h2, _⟩ | ⟨g, f, h3, h4, h5, h6, h7, h8⟩
  · omega
  · exact ⟨g, f j, h3, h4, h8 j hj, h7.cell (by omega), h7.frozen j⟩

theorem grownBy_setCells {w : World} {g : Nat} (vs : List Value) (o : Nat) : w.grownBy (w.setCells g o vs) (some g) := by
  have hb : ∀ (vs : List Value) (o : Nat) (w : World), (w.setCells g o vs).os = w.os ∧ (w.setCells g o vs).tape = w.tape ∧ (w.setCells g o vs).output = w.output ∧ (w.setCells g o vs).heap.size = w.heap.size ∧ ∀ k, k ≠ g → (w.setCells g o vs).heap[k]? = w.heap[k]? := by
    intro vs
    induction vs with
    | nil => intro o w; exact ⟨rfl, rfl, rfl, rfl, fun _ _ => rfl⟩
    | cons v r ih =>
      intro o w
      obtain ⟨h1, h2, h3, h4, h5⟩ := ih (o + 1) (w.setCell ⟨g, o, none⟩ v)
      rw [World.setCells]
      exact ⟨h1, h2, h3, by rw [h4]; simp [World.setCell], fun k hk => by rw [h5 k hk]; exact Below.heap_setCell _ _ _ _ hk⟩
  obtain ⟨h1, h2, h3, h4, h5⟩ := hb vs o w
  exact ⟨h1, h2, h3, by rw [h4]; exact Nat.le_refl _, fun k _ hne => h5 k (fun e => hne (by rw [e]))⟩

theorem grownBy_drew (w : World) (row : Option Nat) : w.grownBy w.drew row := ⟨rfl, rfl, rfl, Nat.le_refl _, fun _ _ _ => rfl⟩

theorem grownBy_trans {a b c : World} {row : Option Nat} (h : a.grownBy b row) (k : b.grownBy c row) : a.grownBy c row :=
  ⟨k.os.trans h.os, k.tape.trans h.tape, k.output.trans h.output, Nat.le_trans h.size k.size, fun i hi hne => (k.block i (Nat.lt_of_lt_of_le hi h.size) hne).trans (h.block i hi hne)⟩

/-- A row from a known block. -/
theorem rowIs_of_block {w : World} {g : Nat} {c : Array Value} {e : TypeId} (h : w.heap[g]? = some (.cells c e (0, 0))) : w.rowIs g e c.size (fun j => c[j]?.getD default) :=
  ⟨c, h, rfl, fun i hi => by simp [hi]⟩

end Go.Proofs.Qxb6618911aGreat
