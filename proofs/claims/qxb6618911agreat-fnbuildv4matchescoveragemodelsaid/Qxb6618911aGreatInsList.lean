/-
  Putting a value in at a place of a list, as the laws' loops do it; a store into an owned row. No walk here.
-/
import Derived.Test.Qxb6618911aGreatPlain4
namespace Go.Proofs.Qxb6618911aGreat
open Go.RowKit Go.Lib

/-- v put in at place j. -/
def insF {α : Type} (xs : List α) (j : Nat) (v : α) : List α := xs.take j ++ v :: xs.drop j

theorem insF_len {α : Type} (xs : List α) {j : Nat} (v : α) (hj : j ≤ xs.length) : (insF xs j v).length = xs.length + 1 := by
  simp [insF]; omega

theorem insF_get {α : Type} (xs : List α) {j : Nat} (v : α) (hj : j ≤ xs.length) (i : Nat) : (insF xs j v)[i]? = if i < j then xs[i]? else if i = j then some v else xs[i - 1]? := by
  unfold insF
  by_cases h1 : i < j
  · rw [List.getElem?_append_left (by simp; omega), if_pos h1, List.getElem?_take, if_pos h1]
  · rw [List.getElem?_append_right (by simp; omega), if_neg h1]
    have hl : (xs.take j).length = j := by simp; omega
    rw [hl]
    by_cases h2 : i = j
    · subst h2; simp
    · rw [if_neg h2]
      obtain ⟨k, hk⟩ : ∃ k, i - j = k + 1 := ⟨i - j - 1, by omega⟩
      rw [hk, List.getElem?_cons_succ, List.getElem?_drop]
      congr 1; omega

theorem mem_insF {α : Type} {xs : List α} {j : Nat} {v q : α} : q ∈ insF xs j v ↔ q = v ∨ q ∈ xs := by
  unfold insF
  rw [List.mem_append, List.mem_cons]
  have := List.take_append_drop j xs
  constructor
  · rintro (h | h | h)
    · exact .inr (List.mem_of_mem_take h)
    · exact .inl h
    · exact .inr (List.mem_of_mem_drop h)
  · rintro (h | h)
    · exact .inr (.inl h)
    · rw [← this, List.mem_append] at h
      exact h.imp id .inr

theorem perm_insF {α : Type} (xs : List α) (j : Nat) (v : α) : (insF xs j v).Perm (v :: xs) := by
  unfold insF
  have := List.perm_middle (a := v) (l₁ := xs.take j) (l₂ := xs.drop j)
  rwa [List.take_append_drop] at this

/-- .. stays in order. -/
theorem pair_insF {α : Type} {R : α → α → Prop} {xs : List α} {j : Nat} {v : α} (h : xs.Pairwise R) (h1 : ∀ i x, i < j → xs[i]? = some x → R x v) (h2 : ∀ i x, j ≤ i → xs[i]? = some x → R v x) : (insF xs j v).Pairwise R := by
  unfold insF
  have hsp : (xs.take j ++ xs.drop j).Pairwise R := by rwa [List.take_append_drop]
  rw [List.pairwise_append] at hsp
  rw [List.pairwise_append, List.pairwise_cons]
  have hr : ∀ x ∈ xs.drop j, R v x := fun x hx => by
    obtain ⟨i, hi⟩ := List.getElem?_of_mem hx
    rw [List.getElem?_drop] at hi
    exact h2 (j + i) x (by omega) hi
  refine ⟨hsp.1, ⟨hr, hsp.2.1⟩, fun x hx y hy => ?_⟩
  rcases List.mem_cons.1 hy with rfl | hy
  · obtain ⟨i, hi⟩ := List.getElem?_of_mem hx
    rw [List.getElem?_take] at hi
    split at hi
    · exact h1 i x (by assumption) hi
    · cases hi
  · exact hsp.2.2 x hx y hy

/-- Amid the shift: behind place m each cell holds its left neighbour's. -/
def shF {α : Type} [Inhabited α] (xs : List α) (n m : Nat) : List α := (List.range (n + 1)).map fun i => if i ≤ m then xs[i]! else xs[i - 1]!

theorem shF_len {α : Type} [Inhabited α] (xs : List α) (n m : Nat) : (shF xs n m).length = n + 1 := by simp [shF]

theorem shF_get {α : Type} [Inhabited α] (xs : List α) {n m i : Nat} (hi : i ≤ n) : (shF xs n m)[i]? = some (if i ≤ m then xs[i]! else xs[i - 1]!) := by
  unfold shF
  rw [List.getElem?_map, List.getElem?_range (by omega)]; rfl

theorem shF_start {α : Type} [Inhabited α] (xs : List α) {n : Nat} (h : xs.length = n + 1) : shF xs n n = xs := by
  apply List.ext_getElem?
  intro i
  by_cases hi : i ≤ n
  · rw [shF_get xs hi, if_pos hi, getL _ (by omega), List.getElem?_eq_getElem (by omega)]
  · rw [List.getElem?_eq_none (by rw [shF_len]; omega), List.getElem?_eq_none (by omega)]

theorem shF_step {α : Type} [Inhabited α] (xs : List α) {n m : Nat} (h0 : 0 < m) (hm : m ≤ n) : (shF xs n m).set m xs[m - 1]! = shF xs n (m - 1) := by
  apply List.ext_getElem?
  intro i
  by_cases hi : i ≤ n
  · rw [shF_get xs hi, List.getElem?_set, shF_len]
    by_cases e : m = i
    · subst e
      rw [if_pos rfl, if_pos (by omega), if_neg (by omega)]
    · rw [if_neg e, shF_get xs hi]
      by_cases c : i ≤ m
      · rw [if_pos c, if_pos (by omega)]
      · rw [if_neg c, if_neg (by omega)]
  · rw [List.getElem?_eq_none (by rw [List.length_set, shF_len]; omega), List.getElem?_eq_none (by rw [shF_len]; omega)]

theorem shF_end {α : Type} [Inhabited α] (xs : List α) (z v : α) {n j : Nat} (h : xs.length = n) (hj : j ≤ n) : (shF (xs ++ [z]) n j).set j v = insF xs j v := by
  apply List.ext_getElem?
  intro i
  rw [insF_get xs v (by omega)]
  by_cases hi : i ≤ n
  · rw [List.getElem?_set, shF_len]
    by_cases e : j = i
    · subst e
      rw [if_pos rfl, if_pos (by omega), if_neg (by omega), if_pos rfl]
    · rw [if_neg e, shF_get _ hi]
      by_cases c : i < j
      · rw [if_pos (by omega), if_pos c, getL _ (by simp; omega), List.getElem_append_left (by omega), List.getElem?_eq_getElem]
      · rw [if_neg (by omega), if_neg c, if_neg (by omega), getL _ (by simp; omega), List.getElem_append_left (by omega), List.getElem?_eq_getElem]
  · rw [List.getElem?_eq_none (by rw [List.length_set, shF_len]; omega), if_neg (by omega), if_neg (by omega), List.getElem?_eq_none (by omega)]

theorem OR.setAt {w : World} {base : Nat} {e : TypeId} {g n cap : Nat} {xs : List Value} (h : OR w base e (some ⟨g, 0, none⟩) n cap xs) {k : Nat} (hk : k < n) (v : Value) : OR (w.setCell ⟨g, k, none⟩ v) base e (some ⟨g, 0, none⟩) n cap (xs.set k v) := by
  obtain ⟨h1, h2⟩ := h
  refine ⟨by simpa using h1, ?_⟩
  rcases h2 with ⟨h2, _⟩ | ⟨g', f, h3, h4, h5, h6, h7, h8⟩
  · cases h2
  · cases h3
    refine .inr ⟨g, _, rfl, h4, h5, h6, h7.set k v, fun j hj => ?_⟩
    rw [List.getElem?_set]
    by_cases e : k = j
    · subst e
      rw [if_pos rfl, if_pos (by omega)]
      simp
    · rw [if_neg e, h8 j hj]
      simp [show ¬ j = k from fun h => e h.symm]

theorem OR.frozen {w : World} {base : Nat} {e : TypeId} {g n cap : Nat} {xs : List Value} (h : OR w base e (some ⟨g, 0, none⟩) n cap xs) (k : Nat) : w.frozen? ⟨g, k, none⟩ = false := by
  obtain ⟨h1, h2⟩ := h
  rcases h2 with ⟨h2, _⟩ | ⟨g', f, h3, h4, h5, h6, h7, h8⟩
  · cases h2
  · cases h3; exact h7.frozen k

theorem OR.at {w : World} {base : Nat} {e : TypeId} {g n cap : Nat} {xs : List Value} (h : OR w base e (some ⟨g, 0, none⟩) n cap xs) {k : Nat} {v : Value} (hv : xs[k]? = some v) : w.cell? ⟨g, k, none⟩ = some v := by
  have hk : k < n := by
    rw [← h.1]
    rcases Nat.lt_or_ge k xs.length with c | c
    · exact c
    · rw [List.getElem?_eq_none c] at hv; cases hv
  obtain ⟨g', u, h1, _, h3, h4, _⟩ := h.cell hk
  cases h1
  rw [hv] at h3
  rw [h4, Option.some.inj h3]

end Go.Proofs.Qxb6618911aGreat
