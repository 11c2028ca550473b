/-
  slices.Insert of one element into a row of int32 that the call owns: the four roads in one.
-/
import Derived.Test.Qxb6618911aGreatOwn
namespace Go.Proofs.Qxb6618911aGreat
open Go.RowKit Go.Lib

theorem ins_get (xs : List Value) (x : Value) (i j : Nat) (hi : i ≤ xs.length) : (xs.take i ++ x :: xs.drop i)[j]? = if j < i then xs[j]? else if j = i then some x else xs[j - 1]? := by
  by_cases h1 : j < i
  · rw [if_pos h1, List.getElem?_append_left (by simp; omega), List.getElem?_take, if_pos h1]
  · rw [if_neg h1, List.getElem?_append_right (by simp; omega)]
    have hl : (xs.take i).length = i := by simp; omega
    rw [hl]
    by_cases h2 : j = i
    · subst h2; simp
    · rw [if_neg h2, show j - i = (j - i - 1) + 1 from by omega, List.getElem?_cons_succ, List.getElem?_drop]
      congr 1
      omega

theorem ins_len (xs : List Value) (x : Value) (i : Nat) (hi : i ≤ xs.length) : (xs.take i ++ x :: xs.drop i).length = xs.length + 1 := by simp; omega

/-- Behind an insertion: the value is owned, x at place i; only the old row and new blocks have turned; where the new row lies. -/
def InsPost (w : World) (base : Nat) (ao : Option Addr) (xs : List Value) (x : Value) (n i : Nat) (e : Ending) (w' : World) : Prop :=
  ∃ g cap, e = .returned (.slice (some ⟨g, 0, none⟩) (n + 1) cap) ∧ OR w' base 21 (some ⟨g, 0, none⟩) (n + 1) cap (xs.take i ++ x :: xs.drop i) ∧ w.grownBy w' (blkOf ao) ∧ (blkOf ao = some g ∨ w.heap.size ≤ g)

theorem insert_own (base : Nat) (ao : Option Addr) (n cap i vb : Nat) (xs : List Value) (x : Value) (w : World) (hown : OR w base 21 ao n cap xs) (hi : i ≤ n) (hn : n ≤ 100000) (hvb : w.heap[vb]? = some (.cells #[x] 21)) (hne : blkOf ao ≠ some vb)
    (hx : x.oneCell' = true) (h1 : ∀ u ∈ xs, u.oneCell' = true) (hbase : base ≤ w.heap.size) :
    Calls Tryz.prog 61 #[.slice ao n cap, .int .i64 i, .slice (some ⟨vb, 0, none⟩) 1 1] w fun e w' => InsPost w base ao xs x n i e w' := by
  have hvs : ∀ j v, [x][j]? = some v → w.cell? ⟨vb, 0 + j, none⟩ = some v := fun j v hj => by
    match j, hj with
    | 0, hj => simp at hj; subst hj; simp [World.cell?, hvb]
  have h1v : ∀ v ∈ [x], v.oneCell' = true := fun v hv => by simp at hv; subst hv; exact hx
  have hvlt : vb < w.heap.size := by
    rcases Nat.lt_or_ge vb w.heap.size with h | h
    · exact h
    · rw [Array.getElem?_eq_none h] at hvb; cases hvb
  obtain ⟨hxl, hown⟩ := hown
  -- the road of a new row, at the end
  have endGrow : ∀ (ao : Option Addr) (n cap : Nat) (xs : List Value), xs.length = n → n ≤ 100000 → n ≤ cap → cap < n + 1 → (ao = none → n = 0) → (∀ a, ao = some a → ∀ j v, xs[j]? = some v → w.cell? (a.add j) = some v) →
      Calls Tryz.prog 61 #[.slice ao n cap, .int .i64 n, .slice (some ⟨vb, 0, none⟩) 1 1] w fun e w' => InsPost w base ao xs x n n e w' := by
    intro ao n cap xs hxl hn hc hroom hnil hcs
    refine (insert_end_grow ao n cap vb 0 1 1 xs [x] w (by omega) hc hroom (by omega) hxl rfl hnil hcs hvs h1v).mono ?_
    rintro e w' ⟨rfl, rfl⟩
    have hG := grownCap_ge w (n + 1) cap 21
    have hG2 := grownCap_le_maxLen w (n + 1) cap 21 (by unfold maxLen; omega)
    generalize grownCap w (n + 1) cap 21 = G at hG hG2 ⊢
    generalize hARR : (xs ++ [x]).toArray ++ Builtin.zeroCells (Value.int .i32 0).cells (G - (n + 1)) = ARR
    have hAs : ARR.size = G := by rw [← hARR]; simp [Builtin.zeroCells, Value.cells]; omega
    have hr : (w.drew.alloc (.cells ARR 21)).rowIs w.heap.size 21 G (fun j => ARR[j]?.getD default) := by
      have := rowIs_of_block (alloc_new w.drew (.cells ARR 21))
      rwa [hAs] at this
    refine ⟨w.heap.size, G, rfl, ⟨by rw [ins_len _ _ _ (by omega)]; omega, .inr ⟨w.heap.size, _, rfl, hbase, hG, hG2, hr, fun j hj => ?_⟩⟩, ?_, .inr (Nat.le_refl _)⟩
    · have ht : xs.take n = xs := List.take_of_length_le (by omega)
      have hd : xs.drop n = [] := List.drop_of_length_le (by omega)
      rw [ht, hd]
      have hl : j < (xs ++ [x]).length := by simp; omega
      have hj2 : ARR[j]? = (xs ++ [x])[j]? := by
        rw [← hARR, Array.getElem?_append_left (by simpa using hl)]
        simp
      rw [hj2, List.getElem?_eq_getElem hl]
      rfl
    · exact grownBy_trans (grownBy_drew w _) ⟨rfl, rfl, rfl, by simp, fun k hk _ => Below.heap_alloc _ _ _ hk⟩
  rcases hown with ⟨rfl, rfl, rfl⟩ | ⟨g, f, rfl, hg, hnc, hcm, hrow, hxf⟩
  · obtain rfl : i = 0 := by omega
    exact endGrow none 0 0 xs hxl (by omega) (by omega) (by omega) (fun _ => rfl) (fun a h => by cases h)
  · have hgv : g ≠ vb := fun e => hne (by rw [e]; rfl)
    have hcs : ∀ j v, xs[j]? = some v → w.cell? ⟨g, 0 + j, none⟩ = some v := fun j v hj => by
      have hjl : j < n := by
        rcases Nat.lt_or_ge j n with h | h
        · exact h
        · rw [List.getElem?_eq_none (by omega)] at hj; cases hj
      rw [hxf j hjl] at hj
      cases hj
      rw [Nat.zero_add]
      exact hrow.cell (by omega)
    have hglt := hrow.lt
    by_cases hin : i = n
    · subst hin
      by_cases hroom : i + 1 ≤ cap
      · refine (insert_end_room g 0 i cap vb 0 1 1 [x] w (by omega) hroom (by unfold maxLen at hcm; omega) rfl (fun j hj => ?_) (fun j hj => hrow.frozen _) hvs h1v).mono ?_
        · rw [Nat.zero_add, hrow.cell (by omega)]; rfl
        · rintro e w' ⟨rfl, rfl⟩
          refine ⟨g, cap, rfl, ⟨by rw [ins_len _ _ _ (by omega)]; omega, .inr ⟨g, _, rfl, hg, hroom, hcm, rowIs_setCells [x] (0 + i) w f hrow, fun j hj => ?_⟩⟩, grownBy_setCells _ _, .inl rfl⟩
          rw [ins_get _ _ _ _ (by omega)]
          by_cases h1 : j < i
          · rw [if_pos h1, if_neg (by simp; omega)]; exact hxf j h1
          · obtain rfl : j = i := by omega
            rw [if_neg (by omega), if_pos rfl, if_pos (by simp)]
            simp
      · exact endGrow (some ⟨g, 0, none⟩) i cap xs hxl hn hnc (by omega) (fun h => by cases h) (fun a h j v hj => by cases h; rw [Addr.add_lit]; exact hcs j v hj)
    · have hil : i < n := by omega
      by_cases hroom : n + 1 ≤ cap
      · have hshv : w.shape? vb = some (21, 1) := by simp [World.shape?, hvb]
        obtain ⟨cur, hcb, hcs2, _⟩ := id hrow
        have hshg : w.shape? g = some (21, cap) := by simp [World.shape?, hcb, hcs2]
        refine (insert_shift g 0 n cap i vb 0 1 1 xs [x] w hil (by omega) hroom (by unfold maxLen at hcm; omega) (Ne.symm hgv) hxl rfl hcs (fun j hj => ?_) (fun j hj => hrow.frozen _) hvs h1 h1v 21 21 1 cap hshv hshg (by omega) (by simp [World.frozen?, hvb]) (by simp [World.frozen?, hvb])).mono ?_
        · rw [Nat.zero_add, hrow.cell (by omega)]; rfl
        · rintro e w' ⟨rfl, rfl⟩
          refine ⟨g, cap, rfl, ⟨by rw [ins_len _ _ _ (by omega)]; omega, .inr ⟨g, _, rfl, hg, hroom, hcm, rowIs_setCells [x] (0 + i) _ _ (rowIs_setCells (xs.drop i) (0 + (i + 1)) w.drew f hrow.drew), fun j hj => ?_⟩⟩, grownBy_trans (grownBy_trans (grownBy_drew w _) (grownBy_setCells _ _)) (grownBy_setCells _ _), .inl rfl⟩
          rw [ins_get _ _ _ _ (by omega)]
          have hdl : (xs.drop i).length = n - i := by simp; omega
          by_cases h1 : j < i
          · rw [if_pos h1, if_neg (by simp; omega), if_neg (by omega)]; exact hxf j (by omega)
          · by_cases h2 : j = i
            · subst h2
              rw [if_neg h1, if_pos rfl, if_pos (by simp)]
              simp
            · rw [if_neg h1, if_neg h2, if_neg (by simp; omega), if_pos (by omega), List.getElem?_drop, show i + (j - (0 + (i + 1))) = j - 1 from by omega, hxf (j - 1) (by omega)]
              rfl
      · refine (insert_grow g 0 n cap i vb 0 1 1 xs [x] w hil (by omega) hnc (by omega) (by omega) hxl rfl hcs hvs h1 h1v).mono ?_
        rintro e w' ⟨rfl, rfl⟩
        have hG := grownCap_ge w (n + 1) cap 21
        have hG2 := grownCap_le_maxLen w (n + 1) cap 21 (by unfold maxLen; omega)
        generalize grownCap w (n + 1) cap 21 = G at hG hG2 ⊢
        generalize hARR : (xs.take i).toArray ++ Builtin.zeroCells (Value.int .i32 0).cells (n + 1 - i) ++ Builtin.zeroCells (Value.int .i32 0).cells (G - (n + 1)) = ARR
        have hAs : ARR.size = G := by rw [← hARR]; simp [Builtin.zeroCells, Value.cells]; omega
        have hAi : ∀ j, j < i → ARR[j]? = xs[j]? := fun j hj => by
          rw [← hARR, Array.append_assoc, Array.getElem?_append_left (by simp; omega)]
          simp [hj]
        have hr0 : (w.alloc (.cells ARR 21)).rowIs w.heap.size 21 G (fun j => ARR[j]?.getD default) := by
          have := rowIs_of_block (alloc_new w (.cells ARR 21))
          rwa [hAs] at this
        refine ⟨w.heap.size, G, rfl, ⟨by rw [ins_len _ _ _ (by omega)]; omega, .inr ⟨w.heap.size, _, rfl, hbase, hG, hG2, rowIs_setCells (xs.drop i) (i + 1) _ _ (rowIs_setCells [x] i _ _ hr0.drew).drew, fun j hj => ?_⟩⟩, ?_, .inr (Nat.le_refl _)⟩
        · rw [ins_get _ _ _ _ (by omega)]
          have hdl : (xs.drop i).length = n - i := by simp; omega
          by_cases h1 : j < i
          · rw [if_pos h1, if_neg (by omega), if_neg (by simp; omega), hAi j h1, hxf j (by omega)]; rfl
          · by_cases h2 : j = i
            · subst h2
              rw [if_neg h1, if_pos rfl, if_neg (by omega), if_pos (by simp)]
              simp
            · rw [if_neg h1, if_neg h2, if_pos (by omega), List.getElem?_drop, show i + (j - (i + 1)) = j - 1 from by omega, hxf (j - 1) (by omega)]
              rfl
        · have ga : w.grownBy (w.alloc (.cells ARR 21)) (some g) := ⟨rfl, rfl, rfl, by simp, fun k hk _ => Below.heap_alloc _ _ _ hk⟩
          have set : ∀ (W : World) (o : Nat) (vs : List Value), w.grownBy W (some g) → w.grownBy (W.setCells w.heap.size o vs) (some g) := fun W o vs h => by
            have k := grownBy_setCells (w := W) (g := w.heap.size) vs o
            exact ⟨k.os.trans h.os, k.tape.trans h.tape, k.output.trans h.output, Nat.le_trans h.size k.size, fun i hi hne => (k.block i (Nat.lt_of_lt_of_le hi h.size) (fun e => by cases e; omega)).trans (h.block i hi hne)⟩
          exact set _ _ _ (grownBy_trans (set _ _ _ (grownBy_trans ga (grownBy_drew _ _))) (grownBy_drew _ _))

end Go.Proofs.Qxb6618911aGreat
