/-
  buildTable (key4): the state at the sweep's start.
-/
import Derived.Test.Qxb6618911aGreatTabEnd
namespace Go.Proofs.Qxb6618911aGreat
open Go.RowKit Go.Lib Go.Shelf Go.Sort

theorem tab_start {w w2 : World} {base ib : Nat} {nao : Option Addr} {nn ncap : Nat} {nm : Nat → ByteArray} {tab : List (List Int)} {l E : List T3} {m : Nat} (hs2 : w.heap.size + 2 ≤ w2.heap.size) (hbase : base ≤ w.heap.size)
    (hR : R3 evV w2 (w.heap.size + 1) m (fun i => E[i]!)) (hT : TagIs w2 (w.heap.size + 1) 125) (hB : Below (w.heap.size + 1) (w.alloc (.cells #[.slice none 0 0, .slice none 0 0, .slice none 0 0] 89)) w2) (hI : ItnE w base ib nao nn ncap nm tab) :
    TRel w base ib nao nn ncap nm (tfold nn l tab []) E m w2.heap.size (w2.heap.size + 1 + 1 + 1) (w.heap.size + 1) 0 none 0 0
      ((((w2.alloc (.cells (madeCells #[.int .i32 0] nn) 21)).alloc (.cells #[.int .u32 0] 71)).alloc (.cells #[.int .u32 0] 41)).alloc (.cells #[.slice (some ⟨w2.heap.size + 1, 0, none⟩) 1 1, .slice (some ⟨w2.heap.size + 1 + 1, 0, none⟩) 1 1, .slice none 0 0] 89)) := by
  have h0 : openOf nn (cntOf (E.take 0)) = [] := by
    refine List.eq_nil_iff_forall_not_mem.2 fun x hx => ?_
    have := (mem_openOf.1 hx).2.2
    simp [cnt_nil] at this
  generalize hW : (((w2.alloc (.cells (madeCells #[.int .i32 0] nn) 21)).alloc (.cells #[.int .u32 0] 71)).alloc (.cells #[.int .u32 0] 41)).alloc (.cells #[.slice (some ⟨w2.heap.size + 1, 0, none⟩) 1 1, .slice (some ⟨w2.heap.size + 1 + 1, 0, none⟩) 1 1, .slice none 0 0] 89) = W
  have o : ∀ k, k < w2.heap.size → W.heap[k]? = w2.heap[k]? := fun k hk => by
    rw [← hW, Below.heap_alloc _ _ _ (by simp; omega), Below.heap_alloc _ _ _ (by simp; omega), Below.heap_alloc _ _ _ (by simp; omega), Below.heap_alloc _ _ _ hk]
  have sW : W.heap.size = w2.heap.size + 4 := by rw [← hW]; simp
  have q1 : W.rowIs w2.heap.size 21 nn (fun _ => .int .i32 0) := by
    rw [← hW]
    refine (World.rowIs_made w2 (.int .i32 0) nn 21).of_block ?_
    rw [Below.heap_alloc _ _ _ (by simp; omega), Below.heap_alloc _ _ _ (by simp; omega), Below.heap_alloc _ _ _ (by simp)]
  have q2 : W.rowIs (w2.heap.size + 1) 71 1 (fun _ => .int .u32 0) := by
    refine ⟨#[.int .u32 0], ?_, rfl, fun i hi => ?_⟩
    · rw [← hW, Below.heap_alloc _ _ _ (by simp), Below.heap_alloc _ _ _ (by simp)]
      rw [show w2.heap.size + 1 = (w2.alloc (.cells (madeCells #[.int .i32 0] nn) 21)).heap.size from by simp]
      exact alloc_new _ _
    · obtain rfl : i = 0 := by omega
      rfl
  have q3 : W.rowIs (w2.heap.size + 1 + 1) 41 1 (fun _ => .int .u32 0) := by
    refine ⟨#[.int .u32 0], ?_, rfl, fun i hi => ?_⟩
    · rw [← hW, Below.heap_alloc _ _ _ (by simp)]
      rw [show w2.heap.size + 1 + 1 = ((w2.alloc (.cells (madeCells #[.int .i32 0] nn) 21)).alloc (.cells #[.int .u32 0] 71)).heap.size from by simp]
      exact alloc_new _ _
    · obtain rfl : i = 0 := by omega
      rfl
  have q4 : W.rowIs (w2.heap.size + 1 + 1 + 1) 89 3 (tF (some ⟨w2.heap.size + 1, 0, none⟩) 1 1 (some ⟨w2.heap.size + 1 + 1, 0, none⟩) 1 1) := by
    refine ⟨#[.slice (some ⟨w2.heap.size + 1, 0, none⟩) 1 1, .slice (some ⟨w2.heap.size + 1 + 1, 0, none⟩) 1 1, .slice none 0 0], ?_, rfl, fun i hi => ?_⟩
    · rw [← hW]
      rw [show w2.heap.size + 1 + 1 + 1 = (((w2.alloc (.cells (madeCells #[.int .i32 0] nn) 21)).alloc (.cells #[.int .u32 0] 71)).alloc (.cells #[.int .u32 0] 41)).heap.size from by simp]
      exact alloc_new _ _
    · match i, hi with
      | 0, _ => rfl
      | 1, _ => rfl
      | 2, _ => rfl
  have F : ∀ S, FrT base S w W := fun S => ⟨by rw [← hW]; exact hB.os, by rw [← hW]; exact hB.tape, by rw [← hW]; exact hB.output, by omega, fun k hk => .inl (by rw [o k (by omega), hB.block k (by omega), Below.heap_alloc _ _ _ hk])⟩
  unfold TRel
  rw [h0]
  refine ⟨hR.of_block (o _ (by omega)), ?_, ?_, by omega, ⟨rfl, .inl ⟨rfl, rfl, rfl⟩⟩, by simp [blkOf], ?_, by omega, hI.fr (F []) hbase (by decide), F _, ?_, hbase⟩
  · obtain ⟨c, fr, hx⟩ := hT
    exact ⟨c, fr, (o _ (by omega)).trans hx⟩
  · exact q1.congr fun j hj => by simp [cnt_nil]
  · refine ⟨some ⟨w2.heap.size + 1, 0, none⟩, 1, some ⟨w2.heap.size + 1 + 1, 0, none⟩, 1, q4, ?_, ?_⟩
    · exact ⟨rfl, .inr ⟨_, _, rfl, by omega, by simp [tfold], by simp [maxLen], q2, fun j hj => by
        obtain rfl : j = 0 := by simp [tfold] at hj; omega
        rfl⟩⟩
    · exact ⟨rfl, .inr ⟨_, _, rfl, by omega, by simp [tfold], by simp [maxLen], q3, fun j hj => by
        obtain rfl : j = 0 := by simp [tfold] at hj; omega
        rfl⟩⟩
  · refine ⟨#[.slice none 0 0, .slice none 0 0, .slice none 0 0], ?_, rfl, fun i hi => ?_⟩
    · rw [o _ (by omega), hB.block _ (by omega)]; exact alloc_new _ _
    · match i, hi with
      | 0, _ => rfl
      | 1, _ => rfl
      | 2, _ => rfl

end Go.Proofs.Qxb6618911aGreat
