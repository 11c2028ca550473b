/-
  buildTable: the table's turns (a number turned; a run begun).
-/
import Derived.Test.Qxb6618911aGreatTabMid
namespace Go.Proofs.Qxb6618911aGreat
open Go.RowKit Go.Lib Go.Shelf Go.Sort

theorem OR.set {w : World} {base e g n cap k : Nat} {xs : List Int} (h : OR w base e (some ⟨g, 0, none⟩) n cap (xs.map (.int .u32))) (hk : k < n) (v : Int) : OR (w.setCell ⟨g, k, none⟩ (.int .u32 v)) base e (some ⟨g, 0, none⟩) n cap ((xs.set k v).map (.int .u32)) := by
  obtain ⟨h1, h2⟩ := h
  refine ⟨by simpa using h1, ?_⟩
  rcases h2 with ⟨h3, _⟩ | ⟨g', f, h3, h4, h5, h6, h7, h8⟩
  · cases h3
  · cases h3
    refine .inr ⟨g, _, rfl, h4, h5, h6, h7.set k (.int .u32 v), fun j hj => ?_⟩
    rw [List.getElem?_map, List.getElem?_set]
    have h9 := h8 j hj
    rw [List.getElem?_map] at h9
    have hl : xs.length = n := by simpa using h1
    by_cases ej : k = j
    · subst ej
      simp [hl, hk]
    · rw [if_neg ej, h9]
      simp
      intro e
      exact absurd e.symm ej

theorem set_last {xs : List Int} {k : Nat} {v : Int} (h : xs.length = k + 1) : xs.set k v = xs.dropLast ++ [v] := by
  apply List.ext_getElem?
  intro j
  rw [List.getElem?_set]
  by_cases e : k = j
  · subst e
    rw [if_pos rfl, if_pos (by omega), List.getElem?_append_right (by simp; omega)]
    simp [h]
  · rw [if_neg e]
    by_cases hj : j < k
    · rw [List.getElem?_append_left (by simp; omega), List.getElem?_dropLast, if_pos (by omega)]
    · rw [List.getElem?_eq_none (by omega), List.getElem?_eq_none (by simp; omega)]

theorem tF_set0 {sao sao' : Option Addr} {sn scap sn' scap' : Nat} {uao : Option Addr} {un ucap : Nat} {w : World} {tb : Nat} (h : w.rowIs tb 89 3 (tF sao sn scap uao un ucap)) : (w.setCell ⟨tb, 0, none⟩ (.slice sao' sn' scap')).rowIs tb 89 3 (tF sao' sn' scap' uao un ucap) := by
  refine (h.set 0 _).congr fun j hj => ?_
  match j, hj with
  | 0, _ => simp [tF]
  | 1, _ => simp [tF]
  | 2, _ => simp [tF]
theorem tF_set1 {sao : Option Addr} {sn scap : Nat} {uao uao' : Option Addr} {un ucap un' ucap' : Nat} {w : World} {tb : Nat} (h : w.rowIs tb 89 3 (tF sao sn scap uao un ucap)) : (w.setCell ⟨tb, 1, none⟩ (.slice uao' un' ucap')).rowIs tb 89 3 (tF sao sn scap uao' un' ucap') := by
  refine (h.set 1 _).congr fun j hj => ?_
  match j, hj with
  | 0, _ => simp [tF]
  | 1, _ => simp [tF]
  | 2, _ => simp [tF]

namespace TSt
variable {w : World} {base ib : Nat} {nao : Option Addr} {nn ncap : Nat} {nm : Nat → ByteArray} {s u : List Int} {tab : List (List Int)} {E : List T3} {m cb tb eb : Nat} {f : Int → Int} {zs : List Int} {oao : Option Addr} {on ocap : Nat} {wr : World}

/-- The last number turned. -/
theorem turnLast {k gs scap gu ucap : Nat} {v : Int} (h : TSt w base ib nao nn ncap nm (s, u, tab) E m cb tb eb f zs oao on ocap wr) (ht : TabAt wr w.heap.size tb (s, u) (some ⟨gs, 0, none⟩) scap (some ⟨gu, 0, none⟩) ucap) (hk : u.length = k + 1) :
    TSt w base ib nao nn ncap nm (s, u.dropLast ++ [v], tab) E m cb tb eb f zs oao on ocap (wr.setCell ⟨gu, k, none⟩ (.int .u32 v)) := by
  have g := setCell_grown wr gu k (.int .u32 v)
  have hu := ht.2.2.up h.res (by decide)
  have hF : FrT (w.heap.size + 1) [89, 71, 41] wr (wr.setCell ⟨gu, k, none⟩ (.int .u32 v)) := hu.fr g (by simp)
  have hl : (u.dropLast ++ [v]).length = u.length := by simp; omega
  refine h.turnTab hF (sao := some ⟨gs, 0, none⟩) (scap := scap) (uao := some ⟨gu, 0, none⟩) (ucap := ucap) ⟨?_, ?_, ?_⟩ rfl
  · show World.rowIs _ tb 89 3 (tF _ s.length scap _ (u.dropLast ++ [v]).length ucap)
    rw [hl]
    have hne := OR.ne ht.1 ht.2.2 (by decide)
    exact ht.1.of_block (g.block tb ht.1.lt hne)
  · have hne : ∀ b, (some (⟨gs, 0, none⟩ : Addr)) = some ⟨b, 0, none⟩ → some b ≠ some gu := by
      intro b hb e
      cases hb
      cases e
      obtain ⟨_, h2⟩ := ht.2.1
      obtain ⟨_, h3⟩ := ht.2.2
      rcases h2 with ⟨h4, _⟩ | ⟨g1, f1, h4, _, _, _, h5, _⟩
      · cases h4
      · rcases h3 with ⟨h6, _⟩ | ⟨g2, f2, h6, _, _, _, h7, _⟩
        · cases h6
        · cases h4; cases h6
          exact row_ne h5 h7 (by decide) rfl
    exact ht.2.1.of_block fun b hb hlt => g.block b hlt (hne b hb)
  · show OR _ _ _ _ (u.dropLast ++ [v]).length _ _
    rw [hl, ← set_last hk]
    exact ht.2.2.set (by show k < u.length; omega) v

/-- Two rows of two tags, both owned: two blocks. -/
theorem rows_ne {wr : World} {b : Nat} {e e' : TypeId} {ao ao' : Option Addr} {n cap n' cap' : Nat} {xs xs' : List Value} (h : OR wr b e ao n cap xs) (h' : OR wr b e' ao' n' cap' xs') (hne : e ≠ e') : ∀ g, ao = some ⟨g, 0, none⟩ → some g ≠ blkOf ao' := by
  intro g hg
  subst hg
  obtain ⟨_, h2⟩ := h
  rcases h2 with ⟨h4, _⟩ | ⟨g1, f1, h4, _, _, _, h5, _⟩
  · cases h4
  · cases h4
    exact OR.ne h5 h' hne

/-- A run begun: two appends, two stores. -/
theorem push {gs scap gu ucap : Nat} {p v : Int} (h : TSt w base ib nao nn ncap nm (s, u, tab) E m cb tb eb f zs oao on ocap wr) (ht : TabAt wr w.heap.size tb (s, u) (some ⟨gs, 0, none⟩) scap (some ⟨gu, 0, none⟩) ucap) (hs : s.length ≤ 100000) (hu : u.length ≤ 100000) :
    ∃ g6 cap6 w6, (Builtin.append_ #[77, 77] 77 #[.slice (some ⟨gs, 0, none⟩) s.length scap, .slice (some ⟨wr.heap.size, 0, none⟩) 1 1]).run Tryz.prog (wr.alloc (.cells #[.int .u32 p] 71)) = .ok (.slice (some ⟨g6, 0, none⟩) (s.length + 1) cap6) w6 ∧
      w6.cell? ⟨tb, 0, none⟩ = some (.slice (some ⟨gs, 0, none⟩) s.length scap) ∧ w6.frozen? ⟨tb, 0, none⟩ = false ∧
      ∀ w7, w7 = w6.setCell ⟨tb, 0, none⟩ (.slice (some ⟨g6, 0, none⟩) (s.length + 1) cap6) →
        w7.cell? ⟨tb, 1, none⟩ = some (.slice (some ⟨gu, 0, none⟩) u.length ucap) ∧
        ∃ g8 cap8 w8, (Builtin.append_ #[23, 23] 23 #[.slice (some ⟨gu, 0, none⟩) u.length ucap, .slice (some ⟨w7.heap.size, 0, none⟩) 1 1]).run Tryz.prog (w7.alloc (.cells #[.int .u32 v] 41)) = .ok (.slice (some ⟨g8, 0, none⟩) (u.length + 1) cap8) w8 ∧
          w8.cell? ⟨tb, 1, none⟩ = some (.slice (some ⟨gu, 0, none⟩) u.length ucap) ∧ w8.frozen? ⟨tb, 1, none⟩ = false ∧
          TSt w base ib nao nn ncap nm (s ++ [p], u ++ [v], tab) E m cb tb eb f zs oao on ocap (w8.setCell ⟨tb, 1, none⟩ (.slice (some ⟨g8, 0, none⟩) (u.length + 1) cap8)) := by
  have hsz := h.fr.size
  -- the first append
  have a1 := h.alloc (.cells #[.int .u32 p] 71)
  have t1 : TabAt (wr.alloc (.cells #[.int .u32 p] 71)) w.heap.size tb (s, u) (some ⟨gs, 0, none⟩) scap (some ⟨gu, 0, none⟩) ucap := ht.fr (S := []) (FrT.alloc _ _) (by decide)
  obtain ⟨g6, cap6, w6, r6, o6, gr6, -⟩ := appendOR 77 71 (.int .u32 0) 4 Tryz.underlying77 info71 rfl (by omega) w.heap.size (some ⟨gs, 0, none⟩) s.length scap _ _ t1.2.1 wr.heap.size 1 [.int .u32 p] rfl (by omega) (alloc_new _ _) (fun x hx => by simp at hx; subst hx; rfl) (by omega) (by simp; omega)
  have F6 : FrT (w.heap.size + 1) [89, 71, 41] (wr.alloc (.cells #[.int .u32 p] 71)) w6 := (t1.2.1.up a1.res (by decide)).fr gr6 (by simp)
  have b6 : w6.rowIs tb 89 3 (tF (some ⟨gs, 0, none⟩) s.length scap (some ⟨gu, 0, none⟩) u.length ucap) := t1.1.of_block (gr6.block tb t1.1.lt (OR.ne t1.1 t1.2.1 (by decide)))
  have u6 : OR w6 w.heap.size 41 (some ⟨gu, 0, none⟩) u.length ucap (u.map (.int .u32)) := t1.2.2.of_block fun b hb hlt => gr6.block b hlt (rows_ne t1.2.2 t1.2.1 (by decide) b hb)
  refine ⟨g6, cap6, w6, r6, b6.cell (by omega), b6.frozen 0, fun w7 hw7 => ?_⟩
  have g7 := setCell_grown w6 tb 0 (.slice (some ⟨g6, 0, none⟩) (s.length + 1) cap6)
  rw [← hw7] at g7
  have F7 : FrT (w.heap.size + 1) [89, 71, 41] w6 w7 := FrT.of_grown g7 (by have := h.tbN; omega) (row_tag b6 _ (by simp))
  have b7 : w7.rowIs tb 89 3 (tF (some ⟨g6, 0, none⟩) (s.length + 1) cap6 (some ⟨gu, 0, none⟩) u.length ucap) := by rw [hw7]; exact tF_set0 b6
  have u7 : OR w7 w.heap.size 41 (some ⟨gu, 0, none⟩) u.length ucap (u.map (.int .u32)) := u6.of_block fun b hb hlt => g7.block b hlt (by
    have := OR.ne b6 u6 (by decide)
    rw [hb] at this
    exact this.symm)
  have s7 : OR w7 w.heap.size 71 (some ⟨g6, 0, none⟩) (s.length + 1) cap6 ((s ++ [p]).map (.int .u32)) := by
    rw [List.map_append]
    exact o6.of_block fun b hb hlt => g7.block b hlt (by
      have := OR.ne b6 o6 (by decide)
      rw [hb] at this
      exact this.symm)
  -- the state there, the table told anew
  have T7 : TSt w base ib nao nn ncap nm (s ++ [p], u, tab) E m cb tb eb f zs oao on ocap w7 := a1.turnTab (F6.trans F7) (sao := some ⟨g6, 0, none⟩) (scap := cap6) (uao := some ⟨gu, 0, none⟩) (ucap := ucap) ⟨by simpa using b7, by simpa using s7, u7⟩ rfl
  refine ⟨b7.cell (by omega), ?_⟩
  have a8 := T7.alloc (.cells #[.int .u32 v] 41)
  have t8 : TabAt (w7.alloc (.cells #[.int .u32 v] 41)) w.heap.size tb (s ++ [p], u) (some ⟨g6, 0, none⟩) cap6 (some ⟨gu, 0, none⟩) ucap := TabAt.fr (wr := w7) ⟨by simpa using b7, by simpa using s7, u7⟩ (S := []) (FrT.alloc _ _) (by decide)
  obtain ⟨g8, cap8, w8, r8, o8, gr8, -⟩ := appendOR 23 41 (.int .u32 0) 4 Tryz.underlying23 info41 rfl (by omega) w.heap.size (some ⟨gu, 0, none⟩) u.length ucap _ _ t8.2.2 w7.heap.size 1 [.int .u32 v] rfl (by omega) (alloc_new _ _) (fun x hx => by simp at hx; subst hx; rfl) (by omega) a8.fr.size
  have F8 : FrT (w.heap.size + 1) [89, 71, 41] (w7.alloc (.cells #[.int .u32 v] 41)) w8 := (t8.2.2.up a8.res (by decide)).fr gr8 (by simp)
  have b8 : w8.rowIs tb 89 3 (tF (some ⟨g6, 0, none⟩) (s ++ [p]).length cap6 (some ⟨gu, 0, none⟩) u.length ucap) := t8.1.of_block (gr8.block tb t8.1.lt (OR.ne t8.1 t8.2.2 (by decide)))
  have s8 : OR w8 w.heap.size 71 (some ⟨g6, 0, none⟩) (s ++ [p]).length cap6 ((s ++ [p]).map (.int .u32)) := t8.2.1.of_block fun b hb hlt => gr8.block b hlt (rows_ne t8.2.1 t8.2.2 (by decide) b hb)
  have g9 := setCell_grown w8 tb 1 (.slice (some ⟨g8, 0, none⟩) (u.length + 1) cap8)
  have F9 : FrT (w.heap.size + 1) [89, 71, 41] w8 (w8.setCell ⟨tb, 1, none⟩ (.slice (some ⟨g8, 0, none⟩) (u.length + 1) cap8)) := FrT.of_grown g9 (by have := h.tbN; omega) (row_tag b8 _ (by simp))
  refine ⟨g8, cap8, w8, r8, b8.cell (by omega), b8.frozen 1, ?_⟩
  refine a8.turnTab (F8.trans F9) (sao := some ⟨g6, 0, none⟩) (scap := cap6) (uao := some ⟨g8, 0, none⟩) (ucap := cap8) ⟨?_, ?_, ?_⟩ rfl
  · show World.rowIs _ tb 89 3 (tF _ (s ++ [p]).length cap6 _ (u ++ [v]).length cap8)
    have hul : (u ++ [v]).length = u.length + 1 := by simp
    rw [hul]
    exact tF_set1 b8
  · exact s8.of_block fun b hb hlt => g9.block b hlt (by
      have := OR.ne b8 s8 (by decide)
      rw [hb] at this
      exact this.symm)
  · show OR _ _ _ _ (u ++ [v]).length _ ((u ++ [v]).map (.int .u32))
    rw [List.length_append, List.map_append]
    exact o8.of_block fun b hb hlt => g9.block b hlt (by
      have := OR.ne b8 o8 (by decide)
      rw [hb] at this
      exact this.symm)

end TSt

end Go.Proofs.Qxb6618911aGreat
