/-
  buildTable (key6) at no spans.
-/
import Derived.Test.Qxb6618911aGreatTabPre
namespace Go.Proofs.Qxb6618911aGreat
open Go.RowKit Go.Lib Go.Shelf Go.Sort

theorem info137 : (Tryz.prog.info? 137).map (fun i => (i.zero, i.size, i.bytes)) = some (some (.agg #[.int .u64 0, .int .u64 0, .int .i32 0, .int .i32 0]), 4, 24) := by kernel_rfl

def Tab6Post (w : World) (e : Ending) (w' : World) : Prop :=
  ∃ sb ub, e = .returned (.agg #[.slice (some ⟨sb, 0, none⟩) 1 1, .slice (some ⟨ub, 0, none⟩) 1 1, .slice none 0 0]) ∧ w'.cell? ⟨sb, 0, none⟩ = some (.int .u64 0) ∧ w'.cell? ⟨sb, 1, none⟩ = some (.int .u64 0) ∧ w'.cell? ⟨ub, 0, none⟩ = some (.int .u32 0) ∧ w.heap.size ≤ sb ∧ w.heap.size ≤ ub ∧ w.grownBy w' none

set_option maxRecDepth 100000 in
set_option maxHeartbeats 4000000 in
theorem table6_none (nn : Nat) (p : Value) (w : World) (hnn : nn ≤ 4096) : Calls Tryz.prog 38 #[.slice none 0 0, .int .i64 nn, p] w fun e w' => Tab6Post w e w' := by
  have mk1 : ∀ w : World, (Instr.makeSlice 133 (.int .i64 0) (.int .i64 0)).run Tryz.prog w = .ok (.slice (some ⟨w.heap.size, 0, none⟩) 0 0) (w.alloc (.cells (madeCells (Value.agg #[.int .u64 0, .int .u64 0, .int .i32 0, .int .i32 0]).cells (0 * 4)) 137)) := fun w =>
    makeK 133 137 (.agg #[.int .u64 0, .int .u64 0, .int .i32 0, .int .i32 0]) 4 24 Tryz.underlying133 info137 0 0 (by omega) (by omega) (by omega) w
  have mk2 := fun w => run_make_row' (P := Tryz.prog) 24 21 (.int .i32 0) 4 Tryz.underlying24 info21' rfl .i64 .i64 nn (by omega) (by omega) w
  go_enter Tryz.func38, Tryz.ntmps38
  go_wp2
  clear mk1
  generalize hw2 : (w.alloc _).alloc _ = w2
  have G2 : w.grownBy w2 none ∧ w2.heap.size = w.heap.size + 2 ∧ w2.heap[w.heap.size]? = some (.cells #[.slice none 0 0, .slice none 0 0, .slice none 0 0] 91) := by
    rw [← hw2]
    refine ⟨⟨rfl, rfl, rfl, by simp; omega, fun k hk _ => by rw [Below.heap_alloc _ _ _ (by simp; omega), Below.heap_alloc _ _ _ hk]⟩, by simp, ?_⟩
    rw [Below.heap_alloc _ _ _ (by simp)]; exact alloc_new _ _
  have H2 : Hid (w.grownBy w2 none ∧ w2.heap.size = w.heap.size + 2 ∧ w2.heap[w.heap.size]? = some (.cells #[.slice none 0 0, .slice none 0 0, .slice none 0 0] 91)) := G2
  clear G2 hw2
  go_loopg [7, 32] 0 (fun gk x7 x32 wr => gk = 0 ∧ x7 = .slice (some ⟨w.heap.size + 1, 0, none⟩) 0 0 ∧ x32 = .int .i64 0 ∧ wr = w2)
  case atStart => exact ⟨rfl, rfl, rfl, rfl⟩
  case round =>
    obtain ⟨-, rfl, rfl, hw⟩ := hrel
    subst wr
    go_wp2_with fail
    refine (sortE6_none _ _ _ _).mono ?_
    rintro e w3 ⟨rfl, hw⟩
    subst w3
    go_wp2
    clear mk2
    generalize hw3 : ((((w2.alloc _).alloc _).alloc _).alloc _).alloc _ = w3
    have H3 : Hid (w.grownBy w3 none ∧ w3.heap.size = w2.heap.size + 5 ∧ w3.heap[w2.heap.size + 1 + 1]? = some (.cells #[.int .u64 0, .int .u64 0] 86) ∧ w3.heap[w2.heap.size + 1 + 1 + 1]? = some (.cells #[.int .u32 0] 41)) := by
      rw [← hw3]
      refine ⟨grownBy_trans H2.out.1 ⟨rfl, rfl, rfl, by simp; omega, fun k hk _ => ?_⟩, by simp, ?_, ?_⟩
      · rw [Below.heap_alloc _ _ _ (by simp; omega), Below.heap_alloc _ _ _ (by simp; omega), Below.heap_alloc _ _ _ (by simp; omega), Below.heap_alloc _ _ _ (by simp; omega), Below.heap_alloc _ _ _ hk]
      · rw [Below.heap_alloc _ _ _ (by simp), Below.heap_alloc _ _ _ (by simp)]
        rw [show w2.heap.size + 1 + 1 = ((w2.alloc (.cells (madeCells #[.int .i32 0] nn) 21)).alloc (.cells #[.int .u64 0, .int .u64 0] 86)).heap.size from by simp]
        exact alloc_new _ _
      · rw [Below.heap_alloc _ _ _ (by simp)]
        rw [show w2.heap.size + 1 + 1 + 1 = (((w2.alloc (.cells (madeCells #[.int .i32 0] nn) 21)).alloc (.cells #[.int .u64 0, .int .u64 0] 86)).alloc (.cells #[.int .u64 0, .int .u64 0] 86)).heap.size from by simp]
        exact alloc_new _ _
    have t3 : w3.heap[w2.heap.size + 1 + 1 + 1 + 1]? = some (.cells #[.slice (some ⟨w2.heap.size + 1 + 1, 0, none⟩) 1 1, .slice (some ⟨w2.heap.size + 1 + 1 + 1, 0, none⟩) 1 1, .slice none 0 0] 91) := by
      rw [← hw3]
      rw [show w2.heap.size + 1 + 1 + 1 + 1 = ((((w2.alloc (.cells (madeCells #[.int .i32 0] nn) 21)).alloc (.cells #[.int .u64 0, .int .u64 0] 86)).alloc (.cells #[.int .u64 0, .int .u64 0] 86)).alloc (.cells #[.int .u32 0] 41)).heap.size from by simp]
      exact alloc_new _ _
    have z3 : w3.heap[w.heap.size]? = some (.cells #[.slice none 0 0, .slice none 0 0, .slice none 0 0] 91) := by
      have h2 := H2.out.2.1
      rw [← hw3, Below.heap_alloc _ _ _ (by simp; omega), Below.heap_alloc _ _ _ (by simp; omega), Below.heap_alloc _ _ _ (by simp; omega), Below.heap_alloc _ _ _ (by simp; omega), Below.heap_alloc _ _ _ (by omega)]
      exact H2.out.2.2
    have y0 : w3.cell? ⟨w2.heap.size + 1 + 1 + 1 + 1, 0, none⟩ = some (.slice (some ⟨w2.heap.size + 1 + 1, 0, none⟩) 1 1) := by simp [World.cell?, t3]
    have y1 : w3.cell? ⟨w2.heap.size + 1 + 1 + 1 + 1, 1, none⟩ = some (.slice (some ⟨w2.heap.size + 1 + 1 + 1, 0, none⟩) 1 1) := by simp [World.cell?, t3]
    have y2 : w3.cell? ⟨w2.heap.size + 1 + 1 + 1 + 1, 2, none⟩ = some (.slice none 0 0) := by simp [World.cell?, t3]
    have x0 : w3.cell? ⟨w.heap.size, 0, none⟩ = some (.slice none 0 0) := by simp [World.cell?, z3]
    have x1 : w3.cell? ⟨w.heap.size, 1, none⟩ = some (.slice none 0 0) := by simp [World.cell?, z3]
    have x2 : w3.cell? ⟨w.heap.size, 2, none⟩ = some (.slice none 0 0) := by simp [World.cell?, z3]
    have f0 : w3.frozen? ⟨w.heap.size, 0, none⟩ = false := by simp [World.frozen?, z3]
    have f1 : w3.frozen? ⟨w.heap.size, 1, none⟩ = false := by simp [World.frozen?, z3]
    have f2 : w3.frozen? ⟨w.heap.size, 2, none⟩ = false := by simp [World.frozen?, z3]
    clear t3 z3 hw3
    go_loopg [13, 14] 0 (fun gk x13 x14 wr => gk = 0 ∧ x13 = .slice none 0 0 ∧ x14 = .int .i64 0 ∧ wr = w3)
    case atStart => exact ⟨rfl, rfl, rfl, rfl⟩
    case round =>
      obtain ⟨-, rfl, rfl, hw⟩ := hrel
      subst wr
      go_wp2
      refine bodyPost_ret (v := .agg #[.slice (some ⟨w2.heap.size + 1 + 1, 0, none⟩) 1 1, .slice (some ⟨w2.heap.size + 1 + 1 + 1, 0, none⟩) 1 1, .slice none 0 0]) (by simp [results, Tryz.results38, x0, x1, x2, go_sem]) rfl ?_
      have h2 := H2.out.2.1
      obtain ⟨g3, s3, b3, c3⟩ := H3.out
      have hk : ∀ k, k ≠ w.heap.size → (((w3.setCell ⟨w.heap.size, 0, none⟩ (.slice (some ⟨w2.heap.size + 1 + 1, 0, none⟩) 1 1)).setCell ⟨w.heap.size, 1, none⟩ (.slice (some ⟨w2.heap.size + 1 + 1 + 1, 0, none⟩) 1 1)).setCell ⟨w.heap.size, 2, none⟩ (.slice none 0 0)).heap[k]? = w3.heap[k]? := fun k hk => by
        rw [Below.heap_setCell _ _ _ _ hk, Below.heap_setCell _ _ _ _ hk, Below.heap_setCell _ _ _ _ hk]
      refine ⟨w2.heap.size + 1 + 1, w2.heap.size + 1 + 1 + 1, rfl, ?_, ?_, ?_, by omega, by omega, g3.os, g3.tape, g3.output, ?_, fun k hk1 _ => ?_⟩
      · rw [World.cell?_of_block (w := w3) (hk _ (by show w2.heap.size + 1 + 1 ≠ _; omega))]; simp [World.cell?, b3]
      · rw [World.cell?_of_block (w := w3) (hk _ (by show w2.heap.size + 1 + 1 ≠ _; omega))]; simp [World.cell?, b3]
      · rw [World.cell?_of_block (w := w3) (hk _ (by show w2.heap.size + 1 + 1 + 1 ≠ _; omega))]; simp [World.cell?, c3]
      · have := g3.size
        simpa [World.setCell] using this
      · rw [hk k (by omega)]; exact g3.block k hk1 (by simp)
end Go.Proofs.Qxb6618911aGreat
