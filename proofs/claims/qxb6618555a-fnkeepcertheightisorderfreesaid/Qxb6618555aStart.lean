/-
  The world as zzBuildNode's second loop finds it; what its later loops lay. No walk here.
-/
import Derived.Test.Qxb6618555aShape
import Derived.Test.Qxb6618555aCalls
import Derived.Test.Qxb6618555aSame
namespace Go.Proofs.Qxb6618555a
open Go.RowKit

theorem made_get (z : Value) (n i : Nat) (hi : i < n) : (madeCells #[z] n)[i]? = some z := by simp [madeCells, hi, Nat.mod_one]
theorem made_size (z : Value) (n : Nat) : (madeCells #[z] n).size = n := by simp [madeCells]

def par0 (g : Nat) : Nat → Option Nat := fun r => if r = 0 then some g else none
def com0 (c : Nat) : Nat → Option (Nat × Nat) := fun r => if r = 0 then some (c, 1) else none

/-- The genesis block, 'committed', 'parentAt' and 'held', as they lie ahead of 'high'. -/
def W5 (w : World) (s : ByteArray) (M : Nat) : World :=
  ((((w.alloc (blkObj s 0 none)).alloc (.cells ((madeCells #[.slice none 0 0] (M + 1)).setIfInBounds 0 (.slice (some ⟨w.heap.size + 1 + 1, 0, none⟩) 1 1)) 26)).alloc
    (.cells #[.pointer (some ⟨w.heap.size, 0, none⟩)] 25)).alloc (.cells ((madeCells #[.pointer none] (M + 1)).setIfInBounds 0 (.pointer (some ⟨w.heap.size, 0, none⟩))) 25)).alloc (.cells (madeCells #[.bool false] (M + 1)) 4)

theorem W5_size (w : World) (s : ByteArray) (M : Nat) : (W5 w s M).heap.size = w.heap.size + 5 := by simp [W5]

theorem alloc_new (w : World) (o : Obj) : (w.alloc o).heap[w.heap.size]? = some o := Deep.blk_alloc_new w o

theorem alloc_old (w : World) (o : Obj) (k : Nat) (x : Option Obj) (hk : k < w.heap.size) (h : w.heap[k]? = x) : (w.alloc o).heap[k]? = x := (Below.heap_alloc w o k hk).trans h

theorem W5_0 (w : World) (s : ByteArray) (M : Nat) : (W5 w s M).heap[w.heap.size]? = some (blkObj s 0 none) := by
  unfold W5
  refine alloc_old _ _ _ _ (by simp <;> omega) (alloc_old _ _ _ _ (by simp <;> omega) (alloc_old _ _ _ _ (by simp <;> omega) (alloc_old _ _ _ _ (by simp) (alloc_new _ _))))

theorem W5_1 (w : World) (s : ByteArray) (M : Nat) : (W5 w s M).heap[w.heap.size + 1]? = some (.cells ((madeCells #[.slice none 0 0] (M + 1)).setIfInBounds 0 (.slice (some ⟨w.heap.size + 1 + 1, 0, none⟩) 1 1)) 26) := by
  unfold W5
  refine alloc_old _ _ _ _ (by simp <;> omega) (alloc_old _ _ _ _ (by simp <;> omega) (alloc_old _ _ _ _ (by simp) ?_))
  have := alloc_new (w.alloc (blkObj s 0 none)) (.cells ((madeCells #[.slice none 0 0] (M + 1)).setIfInBounds 0 (.slice (some ⟨w.heap.size + 1 + 1, 0, none⟩) 1 1)) 26)
  simpa using this

theorem W5_2 (w : World) (s : ByteArray) (M : Nat) : (W5 w s M).heap[w.heap.size + 1 + 1]? = some (.cells #[.pointer (some ⟨w.heap.size, 0, none⟩)] 25) := by
  unfold W5
  refine alloc_old _ _ _ _ (by simp <;> omega) (alloc_old _ _ _ _ (by simp) ?_)
  generalize hW : (w.alloc (blkObj s 0 none)).alloc (.cells ((madeCells #[.slice none 0 0] (M + 1)).setIfInBounds 0 (.slice (some ⟨w.heap.size + 1 + 1, 0, none⟩) 1 1)) 26) = W
  have hs : w.heap.size + 1 + 1 = W.heap.size := by rw [← hW]; simp
  rw [hs]
  exact alloc_new W _

theorem W5_3 (w : World) (s : ByteArray) (M : Nat) : (W5 w s M).heap[w.heap.size + 1 + 1 + 1]? = some (.cells ((madeCells #[.pointer none] (M + 1)).setIfInBounds 0 (.pointer (some ⟨w.heap.size, 0, none⟩))) 25) := by
  unfold W5
  refine alloc_old _ _ _ _ (by simp) ?_
  generalize hW : ((w.alloc (blkObj s 0 none)).alloc (.cells ((madeCells #[.slice none 0 0] (M + 1)).setIfInBounds 0 (.slice (some ⟨w.heap.size + 1 + 1, 0, none⟩) 1 1)) 26)).alloc (.cells #[.pointer (some ⟨w.heap.size, 0, none⟩)] 25) = W
  have hs : w.heap.size + 1 + 1 + 1 = W.heap.size := by rw [← hW]; simp
  rw [hs]
  exact alloc_new W _

theorem W5_4 (w : World) (s : ByteArray) (M : Nat) : (W5 w s M).heap[w.heap.size + 1 + 1 + 1 + 1]? = some (.cells (madeCells #[.bool false] (M + 1)) 4) := by
  unfold W5
  generalize hW : (((w.alloc (blkObj s 0 none)).alloc (.cells ((madeCells #[.slice none 0 0] (M + 1)).setIfInBounds 0 (.slice (some ⟨w.heap.size + 1 + 1, 0, none⟩) 1 1)) 26)).alloc (.cells #[.pointer (some ⟨w.heap.size, 0, none⟩)] 25)).alloc (.cells ((madeCells #[.pointer none] (M + 1)).setIfInBounds 0 (.pointer (some ⟨w.heap.size, 0, none⟩))) 25) = W
  have hs : w.heap.size + 1 + 1 + 1 + 1 = W.heap.size := by rw [← hW]; simp
  rw [hs]
  exact alloc_new W _

theorem W5_below (w : World) (s : ByteArray) (M : Nat) : Below w.heap.size w (W5 w s M) := by
  unfold W5
  exact ((((((Below.refl _ _).alloc (Nat.le_refl _) _).alloc (by simp) _).alloc (by simp <;> omega) _).alloc (by simp <;> omega) _).alloc (by simp <;> omega) _)

/-- Whatever new blocks follow, and then 'blocks'. -/
theorem bld_start (w : World) (s : ByteArray) (M n : Nat) (R Q : Nat → Int) (cert : Nat → Nat) (V : World) (hV : ∀ k, k < w.heap.size + 5 → V.heap[k]? = (W5 w s M).heap[k]?) (hsz : w.heap.size + 5 ≤ V.heap.size) :
    Bld (V.alloc (.cells (madeCells #[.pointer none] n) 25)) w.heap.size (w.heap.size + 1) (w.heap.size + 1 + 1 + 1) (w.heap.size + 1 + 1 + 1 + 1) V.heap.size w.heap.size (M + 1) n 0 R Q
      (par0 w.heap.size) (com0 (w.heap.size + 1 + 1)) (fun _ => false) cert := by
  have blk : ∀ k o, k < w.heap.size + 5 → (W5 w s M).heap[k]? = some o → (V.alloc (.cells (madeCells #[.pointer none] n) 25)).heap[k]? = some o := fun k o hk h =>
    alloc_old _ _ _ _ (by omega) ((hV k hk).trans h)
  have cel : ∀ k i o v, k < w.heap.size + 5 → (W5 w s M).heap[k]? = some o → (∀ w' : World, w'.heap[k]? = some o → w'.cell? ⟨k, i, none⟩ = some v) → At (V.alloc (.cells (madeCells #[.pointer none] n) 25)) k k i v := fun k i o v hk h hc =>
    ⟨Nat.le_refl _, hc _ (blk k o hk h)⟩
  refine ⟨by omega, by omega, by omega, by omega, ?_, ?_, ?_, ?_, by omega, by omega, by omega, by omega, by omega, by omega, rfl, ⟨_, rfl⟩, ?_, ?_, ?_, fun j hj => by omega⟩
  · refine ⟨_, blk _ _ (by omega) (W5_1 w s M), by simp [made_size], fun i hi => ?_⟩
    rw [Array.getElem?_setIfInBounds]
    by_cases e : i = 0
    · subst e; simp [made_size, com0, comV]
    · rw [if_neg (fun h => e h.symm), made_get _ _ _ hi]; simp [com0, e, comV]
  · refine ⟨_, blk _ _ (by omega) (W5_3 w s M), by simp [made_size], fun i hi => ?_⟩
    rw [Array.getElem?_setIfInBounds]
    by_cases e : i = 0
    · subst e; simp [made_size, par0, ptrV]
    · rw [if_neg (fun h => e h.symm), made_get _ _ _ hi]; simp [par0, e, ptrV]
  · exact ⟨_, blk _ _ (by omega) (W5_4 w s M), made_size _ _, fun i hi => made_get _ _ _ hi⟩
  · refine ⟨_, alloc_new _ _, made_size _ _, fun i hi => ?_⟩
    rw [made_get _ _ _ hi]; simp
  · intro r q hq
    have hr : r = 0 ∧ q = w.heap.size := by
      unfold par0 at hq
      split at hq
      · exact ⟨‹_›, by cases hq; rfl⟩
      · cases hq
    obtain ⟨rfl, rfl⟩ := hr
    refine ⟨⟨by omega, by omega, by omega, by omega⟩, ?_⟩
    exact cel _ _ _ _ (by omega) (W5_0 w s M) fun w' h => by simp [World.cell?, h, blkObj]
  · intro r c cap hc
    have hr : r = 0 ∧ c = w.heap.size + 1 + 1 := by
      unfold com0 at hc
      split at hc
      · exact ⟨‹_›, by cases hc; rfl⟩
      · cases hc
    obtain ⟨rfl, rfl⟩ := hr
    refine ⟨⟨by omega, by omega, by omega, by omega⟩, w.heap.size, rfl, by omega, ?_⟩
    have hb := blk _ _ (by omega) (W5_2 w s M)
    simp [World.cell?, hb, ptrV]
  · intro r hr
    refine ⟨fun h => (by cases h), fun _ => ?_⟩
    unfold com0
    rw [if_neg (by omega)]

end Go.Proofs.Qxb6618555a
