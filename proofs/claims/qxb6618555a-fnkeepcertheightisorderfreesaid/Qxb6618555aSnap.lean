/-
  The snapshot loop, the node, and what zzBuildNode leaves. No walk here.
-/
import Derived.Test.Qxb6618555aInv
namespace Go.Proofs.Qxb6618555a
open Go.RowKit

/-- The first k lists of C and of S hold the same pointers. -/
def SameUpTo (w : World) (lo C S k : Nat) : Prop :=
  ∀ i, i < k → ∃ ca sa la ka ks, At w lo C i (.slice ca la ka) ∧ At w lo S i (.slice sa la ks) ∧ la ≤ 1 ∧
    ∀ j, j < la → ∃ c s x, ca = some ⟨c, 0, none⟩ ∧ sa = some ⟨s, 0, none⟩ ∧ c ≠ S ∧ s ≠ S ∧ At w lo c j (.pointer (some x)) ∧ At w lo s j (.pointer (some x))

theorem SameUpTo.sameC {w : World} {lo C S N : Nat} (h : SameUpTo w lo C S N) : SameC w C S N := by
  intro i hi
  obtain ⟨ca, sa, la, ka, ks, h1, h2, h3, h4⟩ := h i hi
  refine ⟨ca, sa, la, ka, ks, h1.2, h2.2, h3, fun j hj => ?_⟩
  obtain ⟨c, s, x, e1, e2, _, _, e3, e4⟩ := h4 j hj
  exact ⟨c, s, x, e1, e2, e3.2, e4.2⟩

theorem SameUpTo.of_cells {w w' : World} {lo C S N : Nat} (h : SameUpTo w lo C S N) (e : ∀ b o v, At w lo b o v → (b = C ∨ b = S ∨ o = 0) → At w' lo b o v) : SameUpTo w' lo C S N := by
  intro i hi
  obtain ⟨ca, sa, la, ka, ks, h1, h2, h3, h4⟩ := h i hi
  refine ⟨ca, sa, la, ka, ks, e _ _ _ h1 (.inl rfl), e _ _ _ h2 (.inr (.inl rfl)), h3, fun j hj => ?_⟩
  obtain ⟨c, s, x, e1, e2, e5, e6, e3, e4⟩ := h4 j hj
  have hj0 : j = 0 := by omega
  subst hj0
  exact ⟨c, s, x, e1, e2, e5, e6, e _ _ _ e3 (.inr (.inr rfl)), e _ _ _ e4 (.inr (.inr rfl))⟩

/-- What the snapshot loop's rounds keep: wb: the world ahead of it; S: the snapshot's block. -/
def Snap (wb : World) (lo C S N k : Nat) (wr : World) : Prop :=
  Below wb.heap.size wb wr ∧ S < wr.heap.size ∧ lo ≤ S ∧ C ≠ S ∧ (∃ f, wr.rowIs S 26 N f) ∧ SameUpTo wr lo C S k

theorem snap_start (wb : World) (lo C N : Nat) (hlo : lo ≤ wb.heap.size) (hC : C < wb.heap.size) :
    Snap wb lo C wb.heap.size N 0 (wb.alloc (.cells (madeCells #[.slice none 0 0] N) 26)) :=
  ⟨(Below.refl _ _).alloc (Nat.le_refl _) _, by simp, hlo, by omega, ⟨_, World.rowIs_made _ _ _ _⟩, fun i hi => by omega⟩

theorem cell_set_other {w : World} {b o o' : Nat} (h : o' ≠ o) (u : Value) : (w.setCell ⟨b, o, none⟩ u).cell? ⟨b, o', none⟩ = w.cell? ⟨b, o', none⟩ :=
  World.cell?_setCell_other w ⟨b, o, none⟩ ⟨b, o', none⟩ u (fun e => h (by cases e; rfl))

/-- One round: the list s, made and filled, is laid at place k. -/
theorem snap_step {wb wr wi : World} {lo C S N k s la ka : Nat} {ca : Option Addr} (h : Snap wb lo C S N k wr) (hk : k < N) (hs : s = wr.heap.size) (hb : Below wr.heap.size wr wi) (hwb : wb.heap.size ≤ S)
    (hC : At wr lo C k (.slice ca la ka)) (hla : la ≤ 1) (hc : ∀ j, j < la → ∃ c x, ca = some ⟨c, 0, none⟩ ∧ c ≠ S ∧ At wr lo c j (.pointer (some x)) ∧ wi.cell? ⟨s, j, none⟩ = some (.pointer (some x))) :
    Snap wb lo C S N (k + 1) (wi.setCell ⟨S, k, none⟩ (.slice (some ⟨s, 0, none⟩) la la)) := by
  obtain ⟨h1, h2, h3, h4, ⟨f, h5⟩, h6⟩ := h
  have hsz := h1.size
  have hsz2 := hb.size
  have row : wi.rowIs S 26 N f := h5.of_block (hb.block _ h2)
  have keep : ∀ b o v, At wr lo b o v → (b ≠ S ∨ o ≠ k) → At (wi.setCell ⟨S, k, none⟩ (.slice (some ⟨s, 0, none⟩) la la)) lo b o v := by
    intro b o v ha hne
    have hi : At wi lo b o v := ha.of_block fun k hk => hb.block k hk
    by_cases e : b = S
    · subst e
      have ho : o ≠ k := by rcases hne with h | h; exact absurd rfl h; exact h
      exact ⟨hi.1, (cell_set_other ho _).trans hi.2⟩
    · exact hi.setOther e _
  refine ⟨?_, by simp [World.setCell]; omega, h3, h4, ⟨_, row.set k _⟩, ?_⟩
  · refine (h1.trans (hb.mono hsz)).setCell hwb _
  · intro i hi
    by_cases e : i = k
    · subst e
      refine ⟨ca, some ⟨s, 0, none⟩, la, ka, la, keep _ _ _ hC (.inl h4), ⟨h3, ?_⟩, hla, fun j hj => ?_⟩
      · have := (row.set i (.slice (some ⟨s, 0, none⟩) la la)).cell hk
        simpa using this
      · obtain ⟨c, x, e1, e2, e3, e4⟩ := hc j hj
        refine ⟨c, s, x, e1, rfl, e2, by omega, keep _ _ _ e3 (.inl e2), ?_⟩
        have : At wi lo s j (.pointer (some x)) := ⟨by omega, e4⟩
        exact this.setOther (show s ≠ S from by omega) _
    · obtain ⟨ca', sa', la', ka', ks', g1, g2, g3, g4⟩ := h6 i (by omega)
      refine ⟨ca', sa', la', ka', ks', keep _ _ _ g1 (.inl h4), keep _ _ _ g2 (.inr e), g3, fun j hj => ?_⟩
      obtain ⟨c, s', x, e1, e2, e3, e4, e5, e6⟩ := g4 j hj
      exact ⟨c, s', x, e1, e2, e3, e4, keep _ _ _ e5 (.inl e3), keep _ _ _ e6 (.inl e4)⟩

theorem node_cells {w : World} {b n m : Nat} {p c : Option Addr} (h : w.heap[b]? = some (nodeObj p c n m)) :
    w.cell? ⟨b, 10, none⟩ = some (.pointer p) ∧ w.frozen? ⟨b, 10, none⟩ = false ∧ w.cell? ⟨b, 16, none⟩ = some (.slice c n m) := by
  unfold nodeObj at h
  refine ⟨?_, ?_, ?_⟩ <;> simp [World.cell?, World.frozen?, h]

/-- WHAT zzBuildNode LEAVES. -/
structure Built (w : World) (lo nb hq C S Bk N n : Nat) (z : Int) (R Q : Nat → Int) (cert : Nat → Nat) : Prop where
  hi : At w lo nb 10 (ptrV (some hq))
  fz : w.frozen? ⟨nb, 10, none⟩ = false
  cm : At w lo nb 16 (.slice (some ⟨C, 0, none⟩) N N)
  hr : At w lo hq 1 (.int .i64 z)
  bk : ∀ j, j < n → At w lo Bk j (ptrV (some (cert j)))
  ce : ∀ j, j < n → At w lo (cert j) 1 (.int .i64 (R j))
  pa : ∀ j, j < n → 0 < R j → ∃ q, At w lo (cert j) 2 (ptrV (some q)) ∧ At w lo q 1 (.int .i64 (Q j)) ∧
    (Q j = R j - 1 → ∃ c cap, (Q j).toNat < N ∧ At w lo C (Q j).toNat (.slice (some ⟨c, 0, none⟩) 1 cap) ∧ At w lo c 0 (ptrV (some q)))
  sm : SameUpTo w lo C S N
  nB : Bk ≠ nb
  nC : C ≠ nb
  nS : S ≠ nb

theorem built_of {w wb wr : World} {M n : Nat} {z : Int} {R Q : Nat → Int} {hq Bk S : Nat} {par : Nat → Option Nat} {com : Nat → Option (Nat × Nat)} {hld : Nat → Bool} {cert : Nat → Nat}
    (hI : Inv w M n z R Q hq Bk n par com hld cert wb) (hS : Snap wb w.heap.size (w.heap.size + 1) S (M + 1) (M + 1) wr) (hd : Dom z R Q n) (hM : ∀ j, j < n → R j ≤ M) :
    Built (wr.alloc (nodeObj (some ⟨hq, 0, none⟩) (some ⟨w.heap.size + 1, 0, none⟩) (M + 1) (M + 1))) w.heap.size wr.heap.size hq (w.heap.size + 1) S Bk (M + 1) n z R Q cert ∧
      Below w.heap.size w (wr.alloc (nodeObj (some ⟨hq, 0, none⟩) (some ⟨w.heap.size + 1, 0, none⟩) (M + 1) (M + 1))) := by
  obtain ⟨hB, hO, hq1, hbel⟩ := hI
  obtain ⟨s1, s2, s3, s4, s5, s6⟩ := hS
  have hz1 := hbel.size
  have hz2 := s1.size
  generalize hN : nodeObj (some ⟨hq, 0, none⟩) (some ⟨w.heap.size + 1, 0, none⟩) (M + 1) (M + 1) = nd
  have up : ∀ b o v, At wb w.heap.size b o v → At (wr.alloc nd) w.heap.size b o v := fun b o v h =>
    (h.of_block fun k hk => s1.block k hk).of_block fun k hk => Below.heap_alloc _ _ _ hk
  have up2 : ∀ b o v, At wr w.heap.size b o v → At (wr.alloc nd) w.heap.size b o v := fun b o v h => h.of_block fun k hk => Below.heap_alloc _ _ _ hk
  have ndb : (wr.alloc nd).heap[wr.heap.size]? = some nd := alloc_new _ _
  have row : ∀ {b t m f}, w.heap.size ≤ b → wb.rowIs b t m f → ∀ i, i < m → At wb w.heap.size b i (f i) := fun hb h i hi => ⟨hb, h.cell hi⟩
  have ltB := hB.rB.lt
  have ltC := hB.rC.lt
  refine ⟨⟨⟨by omega, ?_⟩, ?_, ⟨by omega, ?_⟩, up _ _ _ hq1, ?_, ?_, ?_, ?_, by omega, by omega, by omega⟩, ?_⟩
  · rw [← hN] at ndb ⊢; exact (node_cells ndb).1
  · rw [← hN] at ndb ⊢; exact (node_cells ndb).2.1
  · rw [← hN] at ndb ⊢; exact (node_cells ndb).2.2
  · intro j hj
    have := row hB.lB hB.rB j hj
    rw [if_pos hj] at this
    exact up _ _ _ this
  · intro j hj
    exact up _ _ _ (hB.certOk j hj).2.1
  · intro j hj hr
    obtain ⟨d1, d2, d3⟩ := hd.2.2 j hj
    obtain ⟨d4, d5⟩ := d3 hr
    obtain ⟨_, _, g3⟩ := hB.certOk j hj
    obtain ⟨q, g1, g2, g4⟩ := g3 hr
    obtain ⟨_, e2⟩ := hB.parOk _ _ g2
    have hm := hM j hj
    have hn : (((Q j).toNat : Nat) : Int) = Q j := by omega
    rw [hn] at e2
    refine ⟨q, up _ _ _ g1, up _ _ _ e2, fun e => ?_⟩
    obtain ⟨⟨c, cap⟩, hc⟩ := g4 e
    obtain ⟨_, q', e3, e4⟩ := hB.comOk _ _ _ hc
    have hqq : q' = q := by rw [g2] at e3; exact (Option.some.inj e3).symm
    subst hqq
    have hlt : (Q j).toNat < M + 1 := by omega
    have := row hB.lC hB.rC (Q j).toNat hlt
    rw [hc] at this
    exact ⟨c, cap, hlt, up _ _ _ this, up _ _ _ e4⟩
  · exact s6.of_cells fun b o v h _ => up2 _ _ _ h
  · exact (hbel.trans (s1.mono hz1)).alloc (by omega) _

end Go.Proofs.Qxb6618555a
