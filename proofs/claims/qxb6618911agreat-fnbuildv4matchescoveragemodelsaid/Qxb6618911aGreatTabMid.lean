/-
  buildTable: the group's end, the points, Intern, the table's three ways.
-/
import Derived.Test.Qxb6618911aGreatTabPre
namespace Go.Proofs.Qxb6618911aGreat
open Go.RowKit Go.Lib Go.Shelf Go.Sort

/-- The points done: ascending, those of the events done; what is left lies above. -/
def PsOk (E : List T3) (i : Nat) (ps : List Int) : Prop := (∀ a ∈ E.take i, ∀ b ∈ E.drop i, a.1 < b.1) ∧ ps.Pairwise (· < ·) ∧ ∀ q, q ∈ ps ↔ ∃ e ∈ E.take i, e.1 = q

theorem mem_take_iff {E : List T3} {i : Nat} {e : T3} : e ∈ E.take i ↔ ∃ j, j < i ∧ j < E.length ∧ E[j]! = e := by
  rw [List.mem_iff_getElem?]
  constructor
  · rintro ⟨j, hj⟩
    rw [List.getElem?_take] at hj
    split at hj
    · rename_i h
      obtain ⟨h1, h2⟩ := List.getElem?_eq_some_iff.1 hj
      exact ⟨j, h, h1, by rw [getElem!_pos E j h1]; exact h2⟩
    · cases hj
  · rintro ⟨j, h1, h2, h3⟩
    refine ⟨j, ?_⟩
    rw [List.getElem?_take, if_pos h1, List.getElem?_eq_getElem h2, ← h3, getElem!_pos E j h2]

theorem mem_drop_iff {E : List T3} {i : Nat} {e : T3} : e ∈ E.drop i ↔ ∃ j, i ≤ j ∧ j < E.length ∧ E[j]! = e := by
  rw [List.mem_iff_getElem?]
  constructor
  · rintro ⟨j, hj⟩
    rw [List.getElem?_drop] at hj
    obtain ⟨h1, h2⟩ := List.getElem?_eq_some_iff.1 hj
    exact ⟨i + j, by omega, h1, by rw [getElem!_pos E (i + j) h1]; exact h2⟩
  · rintro ⟨j, h1, h2, h3⟩
    refine ⟨j - i, ?_⟩
    rw [List.getElem?_drop, show i + (j - i) = j from by omega, List.getElem?_eq_getElem h2, ← h3, getElem!_pos E j h2]

theorem sorted_at {E : List T3} (hs : E.Pairwise (fun a b => a.1 ≤ b.1)) {j k : Nat} (h1 : j ≤ k) (h2 : k < E.length) : (E[j]!).1 ≤ (E[k]!).1 := by
  rcases Nat.lt_or_ge j k with h | h
  · rw [getElem!_pos E j (by omega), getElem!_pos E k h2]
    exact List.pairwise_iff_getElem.1 hs j k (by omega) h2 h
  · obtain rfl : j = k := by omega
    exact Int.le_refl _

/-- The group's end. -/
theorem ps_step {E : List T3} {i i' m : Nat} {ps : List Int} {p : Int} (hs : E.Pairwise (fun a b => a.1 ≤ b.1)) (hm : E.length = m) (h : PsOk E i ps) (hi : i < i') (him : i' ≤ m) (hp : ∀ j, i ≤ j → j < i' → (E[j]!).1 = p) (hend : i' = m ∨ (E[i']!).1 ≠ p) :
    PsOk E i' (ps ++ [p]) ∧ (∀ e ∈ E.take i', e.1 ≤ p) ∧ (∀ e ∈ E.drop i', p < e.1) := by
  obtain ⟨h1, h2, h3⟩ := h
  have hup : ∀ e ∈ E.drop i', p < e.1 := by
    intro e he
    obtain ⟨j, j1, j2, rfl⟩ := mem_drop_iff.1 he
    rcases hend with e1 | e1
    · omega
    · have a1 := sorted_at hs (show i ≤ i' by omega) (show i' < E.length by omega)
      rw [hp i (Nat.le_refl _) hi] at a1
      have a2 := sorted_at hs j1 j2
      omega
  have hdn : ∀ e ∈ E.take i', e.1 ≤ p := by
    intro e he
    obtain ⟨j, j1, j2, rfl⟩ := mem_take_iff.1 he
    have a1 := sorted_at hs (show j ≤ i' - 1 by omega) (show i' - 1 < E.length by omega)
    rw [hp (i' - 1) (by omega) (by omega)] at a1
    exact a1
  have hps : ∀ q ∈ ps, q < p := by
    intro q hq
    obtain ⟨e, he, rfl⟩ := (h3 q).1 hq
    have := h1 e he E[i]! (mem_drop_iff.2 ⟨i, Nat.le_refl _, by omega, rfl⟩)
    rw [hp i (Nat.le_refl _) hi] at this
    exact this
  refine ⟨⟨fun a ha b hb => ?_, ?_, fun q => ?_⟩, hdn, hup⟩
  · have := hdn a ha; have := hup b hb; omega
  · rw [List.pairwise_append]
    exact ⟨h2, by simp, fun a ha b hb => by simp at hb; subst hb; exact hps a ha⟩
  · rw [List.mem_append, List.mem_singleton, h3]
    constructor
    · rintro (⟨e, he, rfl⟩ | rfl)
      · obtain ⟨j, j1, j2, rfl⟩ := mem_take_iff.1 he
        exact ⟨_, mem_take_iff.2 ⟨j, by omega, j2, rfl⟩, rfl⟩
      · exact ⟨E[i]!, mem_take_iff.2 ⟨i, hi, by omega, rfl⟩, hp i (Nat.le_refl _) hi⟩
    · rintro ⟨e, he, rfl⟩
      obtain ⟨j, j1, j2, rfl⟩ := mem_take_iff.1 he
      by_cases hj : j < i
      · exact .inl ⟨_, mem_take_iff.2 ⟨j, hj, j2, rfl⟩, rfl⟩
      · exact .inr (hp j (by omega) j1)

theorem at_le {E l : List T3} {nn : Nat} (hp : E.Perm (evAll l)) (hl : ∀ x ∈ l, 0 ≤ x.1 ∧ x.1 ≤ x.2.1 ∧ x.2.1 ≤ 4294967295 ∧ 0 ≤ x.2.2 ∧ x.2.2 < nn) {e : T3} (he : e ∈ E) : 0 ≤ e.1 ∧ e.1 ≤ 4294967295 := by
  obtain ⟨x, hx, _, h⟩ := evAll_mem (hp.mem_iff.1 he)
  have := hl x hx
  rcases h with h | h <;> omega

/-- At the group's end the open ids are the cover of its point. -/
theorem open_cover {E l : List T3} {nn i : Nat} {p : Int} (hp : E.Perm (evAll l)) (hl : ∀ x ∈ l, 0 ≤ x.1 ∧ x.1 ≤ x.2.1 ∧ x.2.1 ≤ 4294967295 ∧ 0 ≤ x.2.2 ∧ x.2.2 < nn) (hpm : p ≤ 4294967295) (hA : ∀ e ∈ E.take i, e.1 ≤ p) (hB : ∀ e ∈ E.drop i, p < e.1) :
    openOf nn (cntOf (E.take i)) = cover nn l p :=
  open_group fun s => cnt_group hp (fun x hx => (hl x hx).2.1) (List.take_append_drop i E).symm p hpm hA hB s

namespace TSt
variable {w : World} {base ib : Nat} {nao : Option Addr} {nn ncap : Nat} {nm : Nat → ByteArray} {st : List Int × List Int × List (List Int)} {E : List T3} {m cb tb eb : Nat} {f : Int → Int} {zs : List Int} {oao : Option Addr} {on ocap : Nat} {wr : World}

/-- Behind Intern. -/
theorem intern {wr' : World} {tab' : List (List Int)} (h : TSt w base ib nao nn ncap nm st E m cb tb eb f zs oao on ocap wr) (hi : ItnE wr' base ib nao nn ncap nm tab') (g : FrT base [104, 22, 5, mapTag] wr wr') : TSt w base ib nao nn ncap nm (st.1, st.2.1, tab') E m cb tb eb f zs oao on ocap wr' := by
  have hebl : eb < wr.heap.size := by
    obtain ⟨c, fr, hx⟩ := h.tag
    rcases Nat.lt_or_ge eb wr.heap.size with h1 | h1
    · exact h1
    · rw [Array.getElem?_eq_none h1] at hx; cases hx
  have heb := g.keep hebl (.inr (h.tag.notin _ (by decide)))
  have own : ∀ {e : TypeId} {ao : Option Addr} {n cap : Nat} {xs : List Value}, OR wr w.heap.size e ao n cap xs → e ∉ [104, 22, 5, mapTag] → OR wr' w.heap.size e ao n cap xs := by
    intro e ao n cap xs ho he
    obtain ⟨h1, h2⟩ := ho
    refine ⟨h1, ?_⟩
    rcases h2 with h2 | ⟨g', f', h3, h4, h5, h6, h7, h8⟩
    · exact .inl h2
    · exact .inr ⟨g', f', h3, h4, h5, h6, g.row h7 he, h8⟩
  refine ⟨h.evs.of_block heb, ?_, g.row h.cnt (by decide), h.cbN, own h.opn (by decide), h.ne, ?_, h.tbN, hi, h.fr.trans g, g.row h.res (by decide), h.bb⟩
  · obtain ⟨c, fr, hx⟩ := h.tag
    exact ⟨c, fr, heb.trans hx⟩
  · obtain ⟨sao, scap, uao, ucap, ht⟩ := h.tab
    exact ⟨sao, scap, uao, ucap, g.row ht.1 (by decide), own ht.2.1 (by decide), own ht.2.2 (by decide)⟩

/-- A turn of blocks with the table's tags, the table block and its rows told anew. -/
theorem turnTab {wr' : World} {st' : List Int × List Int × List (List Int)} (h : TSt w base ib nao nn ncap nm st E m cb tb eb f zs oao on ocap wr) (g : FrT (w.heap.size + 1) [89, 71, 41] wr wr') {sao : Option Addr} {scap : Nat} {uao : Option Addr} {ucap : Nat}
    (ht : TabAt wr' w.heap.size tb (st'.1, st'.2.1) sao scap uao ucap) (hst : st'.2.2 = st.2.2) : TSt w base ib nao nn ncap nm st' E m cb tb eb f zs oao on ocap wr' := by
  have hebl : eb < wr.heap.size := by
    obtain ⟨c, fr, hx⟩ := h.tag
    rcases Nat.lt_or_ge eb wr.heap.size with h1 | h1
    · exact h1
    · rw [Array.getElem?_eq_none h1] at hx; cases hx
  have heb := g.keep hebl (.inr (h.tag.notin _ (by decide)))
  have g0 := g.lower (base' := w.heap.size) (by omega)
  refine ⟨h.evs.of_block heb, ?_, g.row h.cnt (by decide), h.cbN, g0.own h.opn (by decide), h.ne, ⟨sao, scap, uao, ucap, ht⟩, h.tbN, ?_, ?_, h.res.of_block (g.keep h.res.lt (.inl (by omega))), h.bb⟩
  · obtain ⟨c, fr, hx⟩ := h.tag
    exact ⟨c, fr, heb.trans hx⟩
  · rw [hst]
    exact h.itn.fr (g.lower (by have := h.bb; omega)) (Nat.le_trans h.bb h.fr.size) (by decide)
  · refine ⟨g.os.trans h.fr.os, g.tape.trans h.fr.tape, g.output.trans h.fr.output, Nat.le_trans h.fr.size g.size, fun k hk => ?_⟩
    rw [g.keep (Nat.lt_of_lt_of_le hk h.fr.size) (.inl (by omega))]
    exact h.fr.block k hk
end TSt

theorem OR.up {w : World} {b k : Nat} {t e : TypeId} {f : Nat → Value} {ao : Option Addr} {n cap : Nat} {xs : List Value} (h : OR w b e ao n cap xs) (hr : w.rowIs b t k f) (ht : t ≠ e) : OR w (b + 1) e ao n cap xs := by
  obtain ⟨h1, h2⟩ := h
  refine ⟨h1, ?_⟩
  rcases h2 with h2 | ⟨g, f', h3, h4, h5, h6, h7, h8⟩
  · exact .inl h2
  · exact .inr ⟨g, f', h3, by have := row_ne hr h7 ht; omega, h5, h6, h7, h8⟩

theorem OR.down {w : World} {b b' : Nat} {e : TypeId} {ao : Option Addr} {n cap : Nat} {xs : List Value} (h : OR w b e ao n cap xs) (hb : b' ≤ b) : OR w b' e ao n cap xs := by
  obtain ⟨h1, h2⟩ := h
  refine ⟨h1, ?_⟩
  rcases h2 with h2 | ⟨g, f', h3, h4, h5, h6, h7, h8⟩
  · exact .inl h2
  · exact .inr ⟨g, f', h3, by omega, h5, h6, h7, h8⟩

theorem last_get {xs : List Int} {x : Int} (h : 0 < xs.length) : xs.getLast? = some x ↔ xs[xs.length - 1]! = x := by
  rw [List.getLast?_eq_getElem?, List.getElem?_eq_getElem (by omega), getElem!_pos xs (xs.length - 1) (by omega)]
  simp

end Go.Proofs.Qxb6618911aGreat
