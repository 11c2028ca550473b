/-
  What zzBuildNode has laid so far, said of cells; what each step of its loop does to that. No walk here.
-/
import Derived.Test.Qxb6618555aAlk
import Derived.WalkKit
namespace Go.Proofs.Qxb6618555a
open Go.RowKit

/-- Cell o of block b, a block from lo on, holds v. -/
def At (w : World) (lo b o : Nat) (v : Value) : Prop := lo ≤ b ∧ w.cell? ⟨b, o, none⟩ = some v

theorem lt_of_cell {w : World} {b o : Nat} {v : Value} (h : w.cell? ⟨b, o, none⟩ = some v) : b < w.heap.size := by
  rcases Nat.lt_or_ge b w.heap.size with h1 | h1
  · exact h1
  · simp [World.cell?, Array.getElem?_eq_none h1] at h

theorem At.lt {w : World} {lo b o : Nat} {v : Value} (h : At w lo b o v) : b < w.heap.size := lt_of_cell h.2

theorem At.of_block {w w' : World} {lo b o : Nat} {v : Value} (h : At w lo b o v) (e : ∀ k, k < w.heap.size → w'.heap[k]? = w.heap[k]?) : At w' lo b o v :=
  ⟨h.1, (World.cell?_of_block (w := w) (a := ⟨b, o, none⟩) (e b h.lt)).trans h.2⟩

theorem At.setOther {w : World} {lo b o : Nat} {v : Value} (h : At w lo b o v) {a : Addr} (ha : b ≠ a.block) (u : Value) : At (w.setCell a u) lo b o v :=
  ⟨h.1, (World.cell?_of_block (w := w) (a := ⟨b, o, none⟩) (Below.heap_setCell w a u b ha)).trans h.2⟩

def comV : Option (Nat × Nat) → Value
  | none => .slice none 0 0
  | some (c, cap) => .slice (some ⟨c, 0, none⟩) 1 cap

def ptrV : Option Nat → Value
  | none => .pointer none
  | some q => .pointer (some ⟨q, 0, none⟩)

/-- Function f, turned at one place. -/
def upd {α : Type} (f : Nat → α) (k : Nat) (x : α) : Nat → α := fun j => if j = k then x else f j

theorem upd_same {α : Type} (f : Nat → α) (k : Nat) (x : α) : upd f k x k = x := if_pos rfl
theorem upd_other {α : Type} (f : Nat → α) {k j : Nat} (x : α) (h : j ≠ k) : upd f k x j = f j := if_neg h

/-- The block is none of the four rows. -/
def Out (C P H Bk q : Nat) : Prop := q ≠ C ∧ q ≠ P ∧ q ≠ H ∧ q ≠ Bk

structure Bld (w : World) (lo C P H Bk g N n i : Nat) (R Q : Nat → Int) (par : Nat → Option Nat) (com : Nat → Option (Nat × Nat)) (hld : Nat → Bool) (cert : Nat → Nat) : Prop where
  lC : lo ≤ C
  lP : lo ≤ P
  lH : lo ≤ H
  lB : lo ≤ Bk
  rC : w.rowIs C 26 N (fun r => comV (com r))
  rP : w.rowIs P 25 N (fun r => ptrV (par r))
  rH : w.rowIs H 4 N (fun r => .bool (hld r))
  rB : w.rowIs Bk 25 n (fun j => if j < i then ptrV (some (cert j)) else .pointer none)
  nCP : C ≠ P
  nCH : C ≠ H
  nCB : C ≠ Bk
  nPH : P ≠ H
  nPB : P ≠ Bk
  nHB : H ≠ Bk
  par0 : par 0 = some g
  com0 : ∃ x, com 0 = some x
  parOk : ∀ r q, par r = some q → Out C P H Bk q ∧ At w lo q 1 (.int .i64 (r : Int))
  comOk : ∀ r c cap, com r = some (c, cap) → Out C P H Bk c ∧ ∃ q, par r = some q ∧ At w lo c 0 (ptrV (some q))
  hldOk : ∀ r, 0 < r → (hld r = true → ∃ x, com r = some x) ∧ (hld r = false → com r = none)
  certOk : ∀ j, j < i → Out C P H Bk (cert j) ∧ At w lo (cert j) 1 (.int .i64 (R j)) ∧
    (0 < R j → ∃ q, At w lo (cert j) 2 (ptrV (some q)) ∧ par (Q j).toNat = some q ∧ (Q j = R j - 1 → ∃ x, com (Q j).toNat = some x))

namespace Bld
variable {w : World} {lo C P H Bk g N n i : Nat} {R Q : Nat → Int} {par : Nat → Option Nat} {com : Nat → Option (Nat × Nat)} {hld : Nat → Bool} {cert : Nat → Nat}

/-- A world with the same old blocks. -/
theorem of_block {w' : World} (h : Bld w lo C P H Bk g N n i R Q par com hld cert) (e : ∀ k, k < w.heap.size → w'.heap[k]? = w.heap[k]?) : Bld w' lo C P H Bk g N n i R Q par com hld cert where
  lC := h.lC
  lP := h.lP
  lH := h.lH
  lB := h.lB
  rC := h.rC.of_block (e _ h.rC.lt)
  rP := h.rP.of_block (e _ h.rP.lt)
  rH := h.rH.of_block (e _ h.rH.lt)
  rB := h.rB.of_block (e _ h.rB.lt)
  nCP := h.nCP
  nCH := h.nCH
  nCB := h.nCB
  nPH := h.nPH
  nPB := h.nPB
  nHB := h.nHB
  par0 := h.par0
  com0 := h.com0
  parOk r q hq := ⟨(h.parOk r q hq).1, (h.parOk r q hq).2.of_block e⟩
  comOk r c cap hc := by
    obtain ⟨h1, q, h2, h3⟩ := h.comOk r c cap hc
    exact ⟨h1, q, h2, h3.of_block e⟩
  hldOk := h.hldOk
  certOk j hj := by
    obtain ⟨h1, h2, h3⟩ := h.certOk j hj
    refine ⟨h1, h2.of_block e, fun hr => ?_⟩
    obtain ⟨q, g1, g2, g3⟩ := h3 hr
    exact ⟨q, g1.of_block e, g2, g3⟩

theorem alloc (h : Bld w lo C P H Bk g N n i R Q par com hld cert) (o : Obj) : Bld (w.alloc o) lo C P H Bk g N n i R Q par com hld cert :=
  h.of_block fun k hk => Below.heap_alloc w o k hk

/-- A block that is new is none of the four rows. -/
theorem fresh (h : Bld w lo C P H Bk g N n i R Q par com hld cert) {q : Nat} (hq : w.heap.size ≤ q) : Out C P H Bk q := by
  have h1 := h.rC.lt
  have h2 := h.rP.lt
  have h3 := h.rH.lt
  have h4 := h.rB.lt
  exact ⟨by omega, by omega, by omega, by omega⟩

/-- 'parentAt[pr] = b'. -/
theorem parent (h : Bld w lo C P H Bk g N n i R Q par com hld cert) {pr q : Nat} (hn : par pr = none) (ho : Out C P H Bk q) (hq : At w lo q 1 (.int .i64 (pr : Int))) :
    Bld (w.setCell ⟨P, pr, none⟩ (.pointer (some ⟨q, 0, none⟩))) lo C P H Bk g N n i R Q (upd par pr (some q)) com hld cert where
  lC := h.lC
  lP := h.lP
  lH := h.lH
  lB := h.lB
  rC := h.rC.setOther h.nCP _
  rP := (h.rP.set pr _).congr fun j _ => by
    by_cases e : j = pr
    · subst e; simp [upd_same, ptrV]
    · simp [upd_other _ _ e, e]
  rH := h.rH.setOther (Ne.symm h.nPH) _
  rB := h.rB.setOther (Ne.symm h.nPB) _
  nCP := h.nCP
  nCH := h.nCH
  nCB := h.nCB
  nPH := h.nPH
  nPB := h.nPB
  nHB := h.nHB
  par0 := by
    rw [upd_other _ _ (fun e => by rw [← e, h.par0] at hn; cases hn)]
    exact h.par0
  com0 := h.com0
  parOk r x hx := by
    by_cases e : r = pr
    · subst e
      rw [upd_same] at hx
      cases hx
      exact ⟨ho, hq.setOther ho.2.1 _⟩
    · rw [upd_other _ _ e] at hx
      obtain ⟨h1, h2⟩ := h.parOk r x hx
      exact ⟨h1, h2.setOther h1.2.1 _⟩
  comOk r c cap hc := by
    obtain ⟨h1, x, h2, h3⟩ := h.comOk r c cap hc
    refine ⟨h1, x, ?_, h3.setOther h1.2.1 _⟩
    rw [upd_other _ _ (fun e => by rw [e, hn] at h2; cases h2)]
    exact h2
  hldOk := h.hldOk
  certOk j hj := by
    obtain ⟨h1, h2, h3⟩ := h.certOk j hj
    refine ⟨h1, h2.setOther h1.2.1 _, fun hr => ?_⟩
    obtain ⟨x, g1, g2, g3⟩ := h3 hr
    refine ⟨x, g1.setOther h1.2.1 _, ?_, g3⟩
    rw [upd_other _ _ (fun e => by rw [e, hn] at g2; cases g2)]
    exact g2

/-- 'committed[pr] = append(nil, b); held[pr] = true'. -/
theorem commit (h : Bld w lo C P H Bk g N n i R Q par com hld cert) {pr q c cap : Nat} (hp : 0 < pr) (hq : par pr = some q) (hn : com pr = none) (ho : Out C P H Bk c) (hc : At w lo c 0 (ptrV (some q))) :
    Bld ((w.setCell ⟨C, pr, none⟩ (.slice (some ⟨c, 0, none⟩) 1 cap)).setCell ⟨H, pr, none⟩ (.bool true)) lo C P H Bk g N n i R Q par (upd com pr (some (c, cap))) (upd hld pr true) cert where
  lC := h.lC
  lP := h.lP
  lH := h.lH
  lB := h.lB
  rC := ((h.rC.set pr _).congr (g := fun r => comV (upd com pr (some (c, cap)) r)) fun j _ => by
    by_cases e : j = pr
    · subst e; simp [upd_same, comV]
    · simp [upd_other _ _ e, e]).setOther h.nCH _
  rP := (h.rP.setOther (Ne.symm h.nCP) _).setOther h.nPH _
  rH := ((h.rH.setOther (Ne.symm h.nCH) _).set pr _).congr fun j _ => by
    by_cases e : j = pr
    · subst e; simp [upd_same]
    · simp [upd_other _ _ e, e]
  rB := (h.rB.setOther (Ne.symm h.nCB) _).setOther (Ne.symm h.nHB) _
  nCP := h.nCP
  nCH := h.nCH
  nCB := h.nCB
  nPH := h.nPH
  nPB := h.nPB
  nHB := h.nHB
  par0 := h.par0
  com0 := by
    rw [upd_other _ _ (by omega)]
    exact h.com0
  parOk r x hx := by
    obtain ⟨h1, h2⟩ := h.parOk r x hx
    exact ⟨h1, (h2.setOther h1.1 _).setOther h1.2.2.1 _⟩
  comOk r c' cap' hc' := by
    by_cases e : r = pr
    · subst e
      rw [upd_same] at hc'
      cases hc'
      exact ⟨ho, q, hq, (hc.setOther ho.1 _).setOther ho.2.2.1 _⟩
    · rw [upd_other _ _ e] at hc'
      obtain ⟨h1, x, h2, h3⟩ := h.comOk r c' cap' hc'
      exact ⟨h1, x, h2, (h3.setOther h1.1 _).setOther h1.2.2.1 _⟩
  hldOk r hr := by
    by_cases e : r = pr
    · subst e
      rw [upd_same, upd_same]
      exact ⟨fun _ => ⟨_, rfl⟩, fun h => by cases h⟩
    · rw [upd_other _ _ e, upd_other _ _ e]
      exact h.hldOk r hr
  certOk j hj := by
    obtain ⟨h1, h2, h3⟩ := h.certOk j hj
    refine ⟨h1, (h2.setOther h1.1 _).setOther h1.2.2.1 _, fun hr => ?_⟩
    obtain ⟨x, g1, g2, g3⟩ := h3 hr
    refine ⟨x, (g1.setOther h1.1 _).setOther h1.2.2.1 _, g2, fun e => ?_⟩
    obtain ⟨y, hy⟩ := g3 e
    refine ⟨y, ?_⟩
    rw [upd_other _ _ (fun e => by rw [e, hn] at hy; cases hy)]
    exact hy

/-- 'blocks[i] = b'. -/
theorem add (h : Bld w lo C P H Bk g N n i R Q par com hld cert) {q : Nat} (ho : Out C P H Bk q) (h1 : At w lo q 1 (.int .i64 (R i)))
    (h2 : 0 < R i → ∃ x, At w lo q 2 (ptrV (some x)) ∧ par (Q i).toNat = some x ∧ (Q i = R i - 1 → ∃ y, com (Q i).toNat = some y)) :
    Bld (w.setCell ⟨Bk, i, none⟩ (.pointer (some ⟨q, 0, none⟩))) lo C P H Bk g N n (i + 1) R Q par com hld (upd cert i q) where
  lC := h.lC
  lP := h.lP
  lH := h.lH
  lB := h.lB
  rC := h.rC.setOther h.nCB _
  rP := h.rP.setOther h.nPB _
  rH := h.rH.setOther h.nHB _
  rB := (h.rB.set i _).congr fun j _ => by
    by_cases e : j = i
    · subst e; simp [upd_same, ptrV]
    · by_cases e2 : j < i
      · simp [upd_other _ _ e, e, e2, show j < i + 1 from by omega]
      · simp [e, e2, show ¬ j < i + 1 from by omega]
  nCP := h.nCP
  nCH := h.nCH
  nCB := h.nCB
  nPH := h.nPH
  nPB := h.nPB
  nHB := h.nHB
  par0 := h.par0
  com0 := h.com0
  parOk r x hx := by
    obtain ⟨g1, g2⟩ := h.parOk r x hx
    exact ⟨g1, g2.setOther g1.2.2.2 _⟩
  comOk r c cap hc := by
    obtain ⟨g1, x, g2, g3⟩ := h.comOk r c cap hc
    exact ⟨g1, x, g2, g3.setOther g1.2.2.2 _⟩
  hldOk := h.hldOk
  certOk j hj := by
    by_cases e : j = i
    · subst e
      rw [upd_same]
      refine ⟨ho, h1.setOther ho.2.2.2 _, fun hr => ?_⟩
      obtain ⟨x, g1, g2, g3⟩ := h2 hr
      exact ⟨x, g1.setOther ho.2.2.2 _, g2, g3⟩
    · rw [upd_other _ _ e]
      obtain ⟨g0, g1, g2⟩ := h.certOk j (by omega)
      refine ⟨g0, g1.setOther g0.2.2.2 _, fun hr => ?_⟩
      obtain ⟨x, e1, e2, e3⟩ := g2 hr
      exact ⟨x, e1.setOther g0.2.2.2 _, e2, e3⟩

end Bld
end Go.Proofs.Qxb6618555a
