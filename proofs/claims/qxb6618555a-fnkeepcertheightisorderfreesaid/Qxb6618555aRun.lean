/-
  The node behind some certificates: what keepCert does to it; the plain laws on rounds. 
-/
import Derived.Test.Qxb6618555aSnap
import Derived.Test.Qxb6618555aKeep
namespace Go.Proofs.Qxb6618555a
open Go.RowKit

/-- Cell o of block b, a block from lo on and below hi, holds v. -/
def In (w : World) (lo hi b o : Nat) (v : Value) : Prop := lo ≤ b ∧ b < hi ∧ w.cell? ⟨b, o, none⟩ = some v

/-- THE NODE nb WITH ITS BLOCKS, whose highest certificate is the block cur, of round cr. (Built, said of whatever cells.) -/
structure Run (A : Nat → Nat → Value → Prop) (nb cur C S Bk N n : Nat) (cr : Int) (R Q : Nat → Int) (cert : Nat → Nat) : Prop where
  hi : A nb 10 (ptrV (some cur))
  cm : A nb 16 (.slice (some ⟨C, 0, none⟩) N N)
  hr : A cur 1 (.int .i64 cr)
  bk : ∀ j, j < n → A Bk j (ptrV (some (cert j)))
  ce : ∀ j, j < n → A (cert j) 1 (.int .i64 (R j))
  pa : ∀ j, j < n → 0 < R j → ∃ q, A (cert j) 2 (ptrV (some q)) ∧ A q 1 (.int .i64 (Q j)) ∧
    (Q j = R j - 1 → ∃ c cap, (Q j).toNat < N ∧ A C (Q j).toNat (.slice (some ⟨c, 0, none⟩) 1 cap) ∧ A c 0 (ptrV (some q)))
  sm : ∀ i, i < N → ∃ ca sa la ka ks, A C i (.slice ca la ka) ∧ A S i (.slice sa la ks) ∧ la ≤ 1 ∧
    ∀ j, j < la → ∃ c s x, ca = some ⟨c, 0, none⟩ ∧ sa = some ⟨s, 0, none⟩ ∧ A c j (.pointer (some x)) ∧ A s j (.pointer (some x))
  nB : Bk ≠ nb
  nC : C ≠ nb
  nS : S ≠ nb

variable {nb cur C S Bk N n : Nat} {cr : Int} {R Q : Nat → Int} {cert : Nat → Nat}

theorem Run.map {A A' : Nat → Nat → Value → Prop} (h : Run A nb cur C S Bk N n cr R Q cert) (e : ∀ b o v, A b o v → A' b o v) : Run A' nb cur C S Bk N n cr R Q cert where
  hi := e _ _ _ h.hi
  cm := e _ _ _ h.cm
  hr := e _ _ _ h.hr
  bk j hj := e _ _ _ (h.bk j hj)
  ce j hj := e _ _ _ (h.ce j hj)
  pa j hj hr := by
    obtain ⟨q, h1, h2, h3⟩ := h.pa j hj hr
    refine ⟨q, e _ _ _ h1, e _ _ _ h2, fun x => ?_⟩
    obtain ⟨c, cap, g1, g2, g3⟩ := h3 x
    exact ⟨c, cap, g1, e _ _ _ g2, e _ _ _ g3⟩
  sm i hi := by
    obtain ⟨ca, sa, la, ka, ks, h1, h2, h3, h4⟩ := h.sm i hi
    refine ⟨ca, sa, la, ka, ks, e _ _ _ h1, e _ _ _ h2, h3, fun j hj => ?_⟩
    obtain ⟨c, s, x, e1, e2, e3, e4⟩ := h4 j hj
    exact ⟨c, s, x, e1, e2, e _ _ _ e3, e _ _ _ e4⟩
  nB := h.nB
  nC := h.nC
  nS := h.nS

/-- All but the highest certificate's own cell carried over; that cell told anew. -/
theorem Run.turn {A A' : Nat → Nat → Value → Prop} (h : Run A nb cur C S Bk N n cr R Q cert) (e : ∀ b o v, A b o v → (b ≠ nb ∨ o ≠ 10) → A' b o v) {cur' : Nat} {cr' : Int} (h1 : A' nb 10 (ptrV (some cur'))) (h2 : A' cur' 1 (.int .i64 cr')) :
    Run A' nb cur' C S Bk N n cr' R Q cert where
  hi := h1
  cm := e _ _ _ h.cm (.inr (by decide))
  hr := h2
  bk j hj := e _ _ _ (h.bk j hj) (.inl h.nB)
  ce j hj := e _ _ _ (h.ce j hj) (.inr (by decide))
  pa j hj hr := by
    obtain ⟨q, h1, h2, h3⟩ := h.pa j hj hr
    refine ⟨q, e _ _ _ h1 (.inr (by decide)), e _ _ _ h2 (.inr (by decide)), fun x => ?_⟩
    obtain ⟨c, cap, g1, g2, g3⟩ := h3 x
    exact ⟨c, cap, g1, e _ _ _ g2 (.inl h.nC), e _ _ _ g3 (.inr (by decide))⟩
  sm i hi := by
    obtain ⟨ca, sa, la, ka, ks, h1, h2, h3, h4⟩ := h.sm i hi
    refine ⟨ca, sa, la, ka, ks, e _ _ _ h1 (.inl h.nC), e _ _ _ h2 (.inl h.nS), h3, fun j hj => ?_⟩
    obtain ⟨c, s, x, e1, e2, e3, e4⟩ := h4 j hj
    have hj0 : j ≠ 10 := by omega
    exact ⟨c, s, x, e1, e2, e _ _ _ e3 (.inr hj0), e _ _ _ e4 (.inr hj0)⟩
  nB := h.nB
  nC := h.nC
  nS := h.nS

theorem Run.of_built {w : World} {lo : Nat} (h : Built w lo nb cur C S Bk N n cr R Q cert) : Run (In w lo w.heap.size) nb cur C S Bk N n cr R Q cert := by
  have e : ∀ b o v, At w lo b o v → In w lo w.heap.size b o v := fun b o v h => ⟨h.1, h.lt, h.2⟩
  refine ⟨e _ _ _ h.hi, e _ _ _ h.cm, e _ _ _ h.hr, fun j hj => e _ _ _ (h.bk j hj), fun j hj => e _ _ _ (h.ce j hj), fun j hj hr => ?_, fun i hi => ?_, h.nB, h.nC, h.nS⟩
  · obtain ⟨q, h1, h2, h3⟩ := h.pa j hj hr
    refine ⟨q, e _ _ _ h1, e _ _ _ h2, fun x => ?_⟩
    obtain ⟨c, cap, g1, g2, g3⟩ := h3 x
    exact ⟨c, cap, g1, e _ _ _ g2, e _ _ _ g3⟩
  · obtain ⟨ca, sa, la, ka, ks, h1, h2, h3, h4⟩ := h.sm i hi
    refine ⟨ca, sa, la, ka, ks, e _ _ _ h1, e _ _ _ h2, h3, fun j hj => ?_⟩
    obtain ⟨c, s, x, e1, e2, _, _, e3, e4⟩ := h4 j hj
    exact ⟨c, s, x, e1, e2, e _ _ _ e3, e _ _ _ e4⟩

theorem Run.same {w : World} {lo hi : Nat} (h : Run (In w lo hi) nb cur C S Bk N n cr R Q cert) : SameC w C S N := by
  intro i hi
  obtain ⟨ca, sa, la, ka, ks, h1, h2, h3, h4⟩ := h.sm i hi
  refine ⟨ca, sa, la, ka, ks, h1.2.2, h2.2.2, h3, fun j hj => ?_⟩
  obtain ⟨c, s, x, e1, e2, e3, e4⟩ := h4 j hj
  exact ⟨c, s, x, e1, e2, e3.2.2, e4.2.2⟩

/-- Behind keepCert only the node's own block has turned. -/
structure But (nb : Nat) (w w' : World) : Prop where
  os : w'.os = w.os
  tape : w'.tape = w.tape
  output : w'.output = w.output
  size : w'.heap.size = w.heap.size
  block : ∀ k, k ≠ nb → w'.heap[k]? = w.heap[k]?

theorem But.below {w w' : World} (h : But nb w w') {lo : Nat} (hlo : lo ≤ nb) : Below lo w w' := ⟨h.os, h.tape, h.output, by rw [h.size]; exact Nat.le_refl _, fun k hk => h.block k (by omega)⟩

theorem But.trans {w w' w'' : World} (h : But nb w w') (k : But nb w' w'') : But nb w w'' :=
  ⟨k.os.trans h.os, k.tape.trans h.tape, k.output.trans h.output, k.size.trans h.size, fun i hi => (k.block i hi).trans (h.block i hi)⟩

theorem But.refl (nb : Nat) (w : World) : But nb w w := ⟨rfl, rfl, rfl, rfl, fun _ _ => rfl⟩

theorem In.of_block {w w' : World} {lo hi b o : Nat} {v : Value} (h : In w lo hi b o v) (e : w'.heap[b]? = w.heap[b]?) : In w' lo hi b o v :=
  ⟨h.1, h.2.1, (World.cell?_of_block (w := w) (a := ⟨b, o, none⟩) e).trans h.2.2⟩

/-- Another node's blocks are as they were. -/
theorem Run.but {w w' : World} {lo hi nb' : Nat} (h : Run (In w lo hi) nb cur C S Bk N n cr R Q cert) (hb : But nb' w w') (hn : nb' < lo ∨ hi ≤ nb') : Run (In w' lo hi) nb cur C S Bk N n cr R Q cert :=
  h.map fun b o v hI => hI.of_block (hb.block b (by have := hI.1; have := hI.2.1; omega))

theorem But.of_kept {w w' : World} {b : Nat} {hr r : Int} (ha : Alk w' (kept w nb b hr r)) : But nb w w' := by
  unfold kept at ha
  split at ha
  · exact ⟨ha.os, ha.tape, ha.output, by rw [ha.heap]; simp [World.setCell], fun k hk => by rw [ha.heap]; exact Below.heap_setCell _ _ _ _ hk⟩
  · exact ⟨ha.os, ha.tape, ha.output, by rw [ha.heap], fun k hk => by rw [ha.heap]⟩

theorem frozen_set (w : World) (a : Addr) (v : Value) (b : Addr) : (w.setCell a v).frozen? b = w.frozen? b := by simp

/-- keepCert's world, of the node. -/
theorem Run.kept {w w' : World} {lo hi : Nat} (h : Run (In w lo hi) nb cur C S Bk N n cr R Q cert) (hf : w.frozen? ⟨nb, 10, none⟩ = false) {j : Nat} (hj : j < n) (ha : Alk w' (kept w nb (cert j) cr (R j))) :
    Run (In w' lo hi) nb (if cr < R j then cert j else cur) C S Bk N n (if cr < R j then R j else cr) R Q cert ∧ w'.frozen? ⟨nb, 10, none⟩ = false := by
  by_cases c : cr < R j
  · have hk : Qxb6618555a.kept w nb (cert j) cr (R j) = w.setCell ⟨nb, 10, none⟩ (.pointer (some ⟨cert j, 0, none⟩)) := if_pos c
    rw [hk] at ha
    rw [if_pos c, if_pos c]
    have e : ∀ b o v, In w lo hi b o v → (b ≠ nb ∨ o ≠ 10) → In w' lo hi b o v := fun b o v hI hne => by
      refine ⟨hI.1, hI.2.1, ?_⟩
      rw [ha.cell, World.cell?_setCell_other w _ _ _ (fun x => by cases x; rcases hne with h | h <;> exact h rfl)]
      exact hI.2.2
    refine ⟨h.turn e ⟨h.hi.1, h.hi.2.1, ?_⟩ (e _ _ _ (h.ce j hj) (.inr (by decide))), ?_⟩
    · rw [ha.cell]; exact World.cell?_setCell_same w _ _ h.hi.2.2
    · rw [ha.frozen, frozen_set]; exact hf
  · have hk : Qxb6618555a.kept w nb (cert j) cr (R j) = w := if_neg c
    rw [hk] at ha
    rw [if_neg c, if_neg c]
    exact ⟨h.map fun b o v hI => ⟨hI.1, hI.2.1, (ha.cell _).trans hI.2.2⟩, (ha.frozen _).trans hf⟩

/-- keepCert at the node, of the j-th block. -/
theorem keep_run {w : World} {lo hi : Nat} (h : Run (In w lo hi) nb cur C S Bk N n cr R Q cert) (hf : w.frozen? ⟨nb, 10, none⟩ = false) (hcr : 0 ≤ cr) {j : Nat} (hj : j < n) (h0 : 0 ≤ R j) (h1 : R j ≤ 65536) (h2 : 0 < R j → 0 ≤ Q j) :
    Calls Try.prog 8 #[.pointer (some ⟨nb, 0, none⟩), .pointer (some ⟨cert j, 0, none⟩)] w fun e w' => e = .returned (.tuple #[]) ∧ Alk w' (kept w nb (cert j) cr (R j)) := by
  refine zzKeepCert_any _ _ _ _ ?_
  obtain ⟨p, hp⟩ : ∃ p, 0 < R j → In w lo hi (cert j) 2 (ptrV (some p)) ∧ In w lo hi p 1 (.int .i64 (Q j)) ∧
      (Q j = R j - 1 → ∃ c cap, (Q j).toNat < N ∧ In w lo hi C (Q j).toNat (.slice (some ⟨c, 0, none⟩) 1 cap) ∧ In w lo hi c 0 (ptrV (some p))) := by
    by_cases c : 0 < R j
    · obtain ⟨q, hq⟩ := h.pa j hj c
      exact ⟨q, fun _ => hq⟩
    · exact ⟨0, fun x => absurd x c⟩
  refine keepCert_any nb (cert j) cur cr (R j) (Q j) p w h.hi.2.2 hf h.hr.2.2 (h.ce j hj).2.2 (fun c => (hp c).1.2.2) (fun c => (hp c).2.1.2.2) hcr h0 h1 ?_
  intro w' ha c e
  obtain ⟨_, g2, g3⟩ := hp c
  obtain ⟨c0, cap, k1, k2, k3⟩ := g3 e
  obtain ⟨r1, r2⟩ := h.kept hf hj ha
  have up : ∀ b o v, In w lo hi b o v → (b ≠ nb ∨ o ≠ 10) → w'.cell? ⟨b, o, none⟩ = some v := fun b o v hI hne => by
    rw [ha.cell]
    unfold Qxb6618555a.kept
    split
    · rw [World.cell?_setCell_other w _ _ _ (fun x => by cases x; rcases hne with h | h <;> exact h rfl)]
      exact hI.2.2
    · exact hI.2.2
  have hq : (((Q j).toNat : Nat) : Int) = Q j := by have := h2 c; omega
  exact commit_held nb C N N p c0 cap 1 (Q j).toNat w' (by omega) k1 r1.cm.2.2 (by rw [hq]; exact up _ _ _ g2 (.inr (by decide))) (up _ _ _ k2 (.inl h.nC)) (up _ _ _ k3 (.inr (by decide)))

/-! ### Plain laws on rounds -/

/-- The highest certificate behind the first k blocks, handed in order. -/
def curOf (z : Int) (R : Nat → Int) (hq : Nat) (cert : Nat → Nat) : Nat → Nat
  | 0 => hq
  | k + 1 => if mx z R k < R k then cert k else curOf z R hq cert k

theorem curOf_none (z : Int) (R : Nat → Int) (hq : Nat) (cert : Nat → Nat) : ∀ k, mx z R k ≤ z → curOf z R hq cert k = hq
  | 0, _ => rfl
  | k + 1, h => by
    have h0 := (mx_ge z R k).1
    by_cases c : mx z R k < R k
    · simp only [mx, if_pos c] at h; omega
    · simp only [mx, if_neg c] at h
      simp only [curOf, if_neg c]
      exact curOf_none z R hq cert k h

theorem mx_hit (z : Int) (R : Nat → Int) : ∀ k, z < mx z R k → ∃ j, j < k ∧ R j = mx z R k
  | 0, h => by simp [mx] at h
  | k + 1, h => by
    by_cases c : mx z R k < R k
    · exact ⟨k, by omega, by simp only [mx, if_pos c]⟩
    · simp only [mx, if_neg c] at h ⊢
      obtain ⟨j, h1, h2⟩ := mx_hit z R k h
      exact ⟨j, by omega, h2⟩

theorem curOf_first (z : Int) (R : Nat → Int) (hq : Nat) (cert : Nat → Nat) : ∀ k i, i < k → R i = mx z R k → (∀ j, j < i → R j ≠ mx z R k) → z < mx z R k → curOf z R hq cert k = cert i
  | 0, i, h, _, _, _ => by omega
  | k + 1, i, h, h1, h2, h3 => by
    by_cases c : mx z R k < R k
    · simp only [mx, if_pos c] at h1 h2 h3
      simp only [curOf, if_pos c]
      by_cases e : i = k
      · rw [e]
      · have := (mx_ge z R k).2 i (by omega)
        omega
    · simp only [mx, if_neg c] at h1 h2 h3
      simp only [curOf, if_neg c]
      by_cases e : i = k
      · obtain ⟨j, g1, g2⟩ := mx_hit z R k h3
        exact absurd g2 (h2 j (by omega))
      · exact curOf_first z R hq cert k i (by omega) h1 h2 h3

end Go.Proofs.Qxb6618555a
