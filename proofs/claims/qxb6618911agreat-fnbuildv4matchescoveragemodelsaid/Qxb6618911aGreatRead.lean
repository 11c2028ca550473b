/-
  The readers: ZZIndex4Table, ZZIndexSets, ZZIndex4Entries, ZZIndexNames, ZZIndex6, ZZBuilderState.
-/
import Derived.Test.Qxb6618911aGreatClones
import Derived.Deep.QuietTactic
import Derived.BigQuiet
import Derived.Deep.LoopGhost
namespace Go.Proofs.Qxb6618911aGreat
open Go.RowKit

set_option maxHeartbeats 400000 in
theorem sets14 (xb : Nat) (v : Value) (w : World) (h : w.cell? ⟨xb, 6, none⟩ = some v) : Calls Tryz.prog 14 #[.pointer (some ⟨xb, 0, none⟩)] w fun e w' => e = .returned v ∧ w' = w := by
  go_enter Tryz.func14, Tryz.ntmps14
  go_wp2
  go_ret
  exact ⟨rfl, rfl⟩

set_option maxHeartbeats 400000 in
theorem names16 (xb : Nat) (v : Value) (w : World) (h : w.cell? ⟨xb, 11, none⟩ = some v) : Calls Tryz.prog 16 #[.pointer (some ⟨xb, 0, none⟩)] w fun e w' => e = .returned v ∧ w' = w := by
  go_enter Tryz.func16, Tryz.ntmps16
  go_wp2
  go_ret
  exact ⟨rfl, rfl⟩

theorem rowIs_other {w : World} {g b o : Nat} {t : TypeId} {n : Nat} {f : Nat → Value} (h : w.rowIs g t n f) (v : Value) (hne : g ≠ b) : (w.setCell ⟨b, o, none⟩ v).rowIs g t n f :=
  h.of_block (Below.heap_setCell _ _ _ _ hne)

theorem rowIs_step {w : World} {g : Nat} {t : TypeId} {n k : Nat} {f : Nat → Value} {z : Value} (h : w.rowIs g t n (fun j => if j < k then f j else z)) : (w.setCell ⟨g, k, none⟩ (f k)).rowIs g t n (fun j => if j < k + 1 then f j else z) :=
  (h.set k _).congr fun j hj => by
    by_cases e : j = k
    · subst e; simp
    · by_cases e2 : j < k
      · simp [e, e2, show j < k + 1 from by omega]
      · simp [e, e2, show ¬ j < k + 1 from by omega]

set_option maxRecDepth 20000 in
set_option maxHeartbeats 1000000 in
theorem table13 (xb n c1 m c2 : Nat) (sa ua : Option Addr) (f : Nat → Int) (B : Nat) (w : World) (hn : n ≤ 1000000) (k0 : w.cell? ⟨xb, 0, none⟩ = some (.slice sa n c1)) (k1 : w.cell? ⟨xb, 1, none⟩ = some (.slice ua m c2)) (k2 : w.cell? ⟨xb, 2, none⟩ = some (.slice none 0 0))
    (hr : Row w 0 B sa n (fun i => .int .u32 (f i))) :
    Calls Tryz.prog 13 #[.pointer (some ⟨xb, 0, none⟩)] w fun e w' => e = .returned (.tuple #[.slice (some ⟨w.heap.size, 0, none⟩) n n, .slice ua m c2, .int .i64 0]) ∧ w'.rowIs w.heap.size 41 n (fun i => .int .u32 (f i)) ∧ Below w.heap.size w w' := by
  have mk := fun w => run_make_row' (P := Tryz.prog) 23 41 (.int .u32 0) 4 Tryz.underlying23 info41 rfl .i64 .i64 n (by omega) (by omega) w
  have HR : Hid (Row w 0 B sa n (fun i => .int .u32 (f i))) := hr
  clear hr
  have hx := lt_of_cell k0
  have K : Hid (w.cell? ⟨xb, 0, none⟩ = some (.slice sa n c1) ∧ w.cell? ⟨xb, 1, none⟩ = some (.slice ua m c2) ∧ w.cell? ⟨xb, 2, none⟩ = some (.slice none 0 0)) := ⟨k0, k1, k2⟩
  go_enter Tryz.func13, Tryz.ntmps13
  go_wp2
  clear k0 k1 k2
  go_loopg [6, 20] n (fun gk x6 x20 wr => ∃ k : Nat, k ≤ n ∧ gk = n - k ∧ x20 = .int .i64 k ∧ Hid (wr.rowIs w.heap.size 41 n (fun j => if j < k then Value.int .u32 (f j) else .int .u32 0) ∧ Below w.heap.size w wr))
  case atStart => exact ⟨0, Nat.zero_le _, rfl, rfl, (World.rowIs_made w (.int .u32 0) n 41).congr fun i _ => by simp, (Below.refl _ _).alloc (Nat.le_refl _) _⟩
  case round =>
    clear mk
    obtain ⟨k, hk, hgk, rfl, HX⟩ := hrel
    have k0 : wr.cell? ⟨xb, 0, none⟩ = some (.slice sa n c1) := by rw [HX.out.2.cell (p := ⟨xb, 0, none⟩) hx]; exact K.out.1
    by_cases hlt : k < n
    · obtain ⟨b, off, rfl, h0⟩ := HR.out.cell hlt
      rw [← HX.out.2.cell (p := ⟨b, off + k, none⟩) (lt_of_cell h0)] at h0
      have hc : wr.cell? ⟨w.heap.size, k, none⟩ = some (.int .u32 0) := by
        have := HX.out.1.cell hlt
        simpa using this
      have hf := HX.out.1.frozen k
      have hlt' : (k : Int) < (n : Int) := by omega
      go_wp2
      go_roundg (n - (k + 1))
      case measure => omega
      case rel => exact ⟨k + 1, by omega, rfl, by go_num, rowIs_step (f := fun j => Value.int .u32 (f j)) HX.out.1, HX.out.2.setCell (Nat.le_refl _) _⟩
    · obtain rfl : n = k := by omega
      have k1 : wr.cell? ⟨xb, 1, none⟩ = some (.slice ua m c2) := by rw [HX.out.2.cell (p := ⟨xb, 1, none⟩) hx]; exact K.out.2.1
      have k2 : wr.cell? ⟨xb, 2, none⟩ = some (.slice none 0 0) := by rw [HX.out.2.cell (p := ⟨xb, 2, none⟩) hx]; exact K.out.2.2
      go_wp2
      go_quiet (fail)
      go_wp2
      refine bodyPost_ret (v := .tuple #[.slice (some ⟨w.heap.size, 0, none⟩) n n, .slice ua m c2, .int .i64 0]) (by simp [results, Tryz.results13, go_sem]) rfl ?_
      exact ⟨rfl, (HX.out.1.congr fun j hj => by simp [hj]).of_block rfl, HX.out.2.trans ((Alk.drewN _ _).below _)⟩

/-- The spans' cells, through the slice's address. -/
def S3 (w : World) (sp : Option Addr) (n : Nat) (d : Nat → Int × Int × Int) : Prop :=
  ∀ i, i < n → ∃ sb, sp = some ⟨sb, 0, none⟩ ∧ w.cell? ⟨sb, i * 3, none⟩ = some (.int .u32 (d i).1) ∧ w.cell? ⟨sb, i * 3 + 1, none⟩ = some (.int .u32 (d i).2.1) ∧ w.cell? ⟨sb, i * 3 + 2, none⟩ = some (.int .i32 (d i).2.2)

theorem info21r : (Tryz.prog.info? 21).map (fun i => (i.zero, i.size, i.bytes)) = some (some (.int .i32 0), 1, 4) := by kernel_rfl

/-- Amid the entries' first loop. -/
structure EntAt (w : World) (n : Nat) (d : Nat → Int × Int × Int) (k : Nat) (wr : World) : Prop where
  lo : wr.rowIs w.heap.size 41 n (fun j => if j < k then Value.int .u32 (d j).1 else .int .u32 0)
  hi : wr.rowIs (w.heap.size + 1) 41 n (fun j => if j < k then Value.int .u32 (d j).2.1 else .int .u32 0)
  src : wr.rowIs (w.heap.size + 2) 21 n (fun j => if j < k then Value.int .i32 (d j).2.2 else .int .i32 0)
  bel : Below w.heap.size w wr
  size : wr.heap.size = w.heap.size + 3

theorem EntAt.start (w : World) (n : Nat) (d : Nat → Int × Int × Int) : EntAt w n d 0 (((w.alloc (.cells (madeCells #[.int .u32 0] n) 41)).alloc (.cells (madeCells #[.int .u32 0] n) 41)).alloc (.cells (madeCells #[.int .i32 0] n) 21)) := by
  have b1 := (World.rowIs_made w (.int .u32 0) n 41)
  have b2 := (World.rowIs_made (w.alloc (.cells (madeCells #[.int .u32 0] n) 41)) (.int .u32 0) n 41)
  have b3 := (World.rowIs_made ((w.alloc (.cells (madeCells #[.int .u32 0] n) 41)).alloc (.cells (madeCells #[.int .u32 0] n) 41)) (.int .i32 0) n 21)
  have s1 : (w.alloc (.cells (madeCells #[.int .u32 0] n) 41)).heap.size = w.heap.size + 1 := by simp
  have s2 : ((w.alloc (.cells (madeCells #[.int .u32 0] n) 41)).alloc (.cells (madeCells #[.int .u32 0] n) 41)).heap.size = w.heap.size + 2 := by simp
  rw [s1] at b2
  rw [s2] at b3
  refine ⟨?_, ?_, ?_, ?_, by simp⟩
  · exact ((b1.of_block (Below.heap_alloc _ _ _ (by simp))).of_block (Below.heap_alloc _ _ _ (by simp; omega))).congr fun i _ => by simp
  · exact (b2.of_block (Below.heap_alloc _ _ _ (by simp))).congr fun i _ => by simp
  · exact b3.congr fun i _ => by simp
  · exact (((Below.refl _ _).alloc (Nat.le_refl _) _).alloc (by simp) _).alloc (by simp; omega) _

theorem EntAt.step {w : World} {n : Nat} {d : Nat → Int × Int × Int} {k : Nat} {wr : World} (h : EntAt w n d k wr) :
    EntAt w n d (k + 1) (((wr.setCell ⟨w.heap.size, k, none⟩ (.int .u32 (d k).1)).setCell ⟨w.heap.size + 1, k, none⟩ (.int .u32 (d k).2.1)).setCell ⟨w.heap.size + 2, k, none⟩ (.int .i32 (d k).2.2)) := by
  refine ⟨?_, ?_, ?_, ?_, ?_⟩
  · exact rowIs_other (rowIs_other (rowIs_step (f := fun j => Value.int .u32 (d j).1) h.lo) _ (by omega)) _ (by omega)
  · exact rowIs_other (rowIs_step (f := fun j => Value.int .u32 (d j).2.1) (rowIs_other h.hi _ (by omega))) _ (by omega)
  · exact rowIs_step (f := fun j => Value.int .i32 (d j).2.2) (rowIs_other (rowIs_other h.src _ (by omega)) _ (by omega))
  · exact ((h.bel.setCell (Nat.le_refl _) _).setCell (by show _ ≤ w.heap.size + 1; omega) _).setCell (by show _ ≤ w.heap.size + 2; omega) _
  · simpa using h.size

set_option maxRecDepth 20000 in
set_option maxHeartbeats 2000000 in
theorem entries15 (xb n m c1 c2 : Nat) (sp ra : Option Addr) (d : Nat → Int × Int × Int) (r : Nat → Int) (B : Nat) (w : World) (hn : n ≤ 1000000) (hm : m ≤ 1000000) (k7 : w.cell? ⟨xb, 7, none⟩ = some (.slice sp n c1)) (k8 : w.cell? ⟨xb, 8, none⟩ = some (.slice ra m c2))
    (hs : S3 w sp n d) (hr : Row w 0 B ra m (fun i => .int .u32 (r i))) :
    Calls Tryz.prog 15 #[.pointer (some ⟨xb, 0, none⟩)] w fun e w' => e = .returned (.tuple #[.slice (some ⟨w.heap.size, 0, none⟩) n n, .slice (some ⟨w.heap.size + 1, 0, none⟩) n n, .slice (some ⟨w.heap.size + 2, 0, none⟩) n n, .slice (some ⟨w.heap.size + 3, 0, none⟩) m m]) ∧
      w'.rowIs w.heap.size 41 n (fun i => .int .u32 (d i).1) ∧ w'.rowIs (w.heap.size + 1) 41 n (fun i => .int .u32 (d i).2.1) ∧ w'.rowIs (w.heap.size + 2) 21 n (fun i => .int .i32 (d i).2.2) ∧ w'.rowIs (w.heap.size + 3) 41 m (fun i => .int .u32 (r i)) ∧ Below w.heap.size w w' := by
  have mk := fun w => run_make_row' (P := Tryz.prog) 23 41 (.int .u32 0) 4 Tryz.underlying23 info41 rfl .i64 .i64 n (by omega) (by omega) w
  have mk2 := fun w => run_make_row' (P := Tryz.prog) 24 21 (.int .i32 0) 4 Tryz.underlying24 info21r rfl .i64 .i64 n (by omega) (by omega) w
  have HR : Hid (Row w 0 B ra m (fun i => .int .u32 (r i)) ∧ S3 w sp n d) := ⟨hr, hs⟩
  clear hr hs
  have hx := lt_of_cell k7
  have K : Hid (w.cell? ⟨xb, 7, none⟩ = some (.slice sp n c1) ∧ w.cell? ⟨xb, 8, none⟩ = some (.slice ra m c2)) := ⟨k7, k8⟩
  go_enter Tryz.func15, Tryz.ntmps15
  go_wp2
  clear k7 k8
  go_loopg [10] n (fun gk x10 wr => ∃ k : Nat, k ≤ n ∧ gk = n - k ∧ x10 = .int .i64 k ∧ Hid (EntAt w n d k wr))
  case atStart => exact ⟨0, Nat.zero_le _, rfl, rfl, EntAt.start w n d⟩
  case round =>
    clear mk mk2
    obtain ⟨k, hk, hgk, rfl, HX⟩ := hrel
    by_cases hlt : k < n
    · have k7 : wr.cell? ⟨xb, 7, none⟩ = some (.slice sp n c1) := by rw [HX.out.bel.cell (p := ⟨xb, 7, none⟩) hx]; exact K.out.1
      obtain ⟨sb, rfl, d0, d1, d2⟩ := HR.out.2 k hlt
      have hsb := lt_of_cell d0
      rw [← HX.out.bel.cell (p := ⟨sb, k * 3, none⟩) hsb] at d0
      rw [← HX.out.bel.cell (p := ⟨sb, k * 3 + 1, none⟩) hsb] at d1
      rw [← HX.out.bel.cell (p := ⟨sb, k * 3 + 2, none⟩) hsb] at d2
      have c0 := HX.out.lo.cell hlt
      have c1 := HX.out.hi.cell hlt
      have c2 := HX.out.src.cell hlt
      have f0 := HX.out.lo.frozen k
      have f1 := HX.out.hi.frozen k
      have f2 := HX.out.src.frozen k
      simp only [Nat.lt_irrefl, if_false] at c0 c1 c2
      have hlt' : (k : Int) < (n : Int) := by omega
      go_wp2
      go_roundg (n - (k + 1))
      case measure => omega
      case rel => exact ⟨k + 1, by omega, rfl, by go_num, HX.out.step⟩
    · obtain rfl : n = k := by omega
      obtain ⟨wq, rfl⟩ : ∃ wq, wq = wr := ⟨wr, rfl⟩
      have k8 : wq.cell? ⟨xb, 8, none⟩ = some (.slice ra m c2) := by rw [HX.out.bel.cell (p := ⟨xb, 8, none⟩) hx]; exact K.out.2
      have mk := fun w => run_make_row' (P := Tryz.prog) 23 41 (.int .u32 0) 4 Tryz.underlying23 info41 rfl .i64 .i64 m (by omega) (by omega) w
      have SQ : Hid (wq.heap.size = w.heap.size + 3) := HX.out.size
      have hx2 : xb < wq.heap.size := by rw [SQ.out]; omega
      go_wp2
      clear mk k8
      have sq := SQ.out
      rw [sq]
      clear SQ
      go_loopg [12, 79] m (fun gk x12 x79 wr => ∃ k : Nat, k ≤ m ∧ gk = m - k ∧ x79 = .int .i64 k ∧ Hid (wr.rowIs (w.heap.size + 3) 41 m (fun j => if j < k then Value.int .u32 (r j) else .int .u32 0) ∧ Below (w.heap.size + 3) wq wr))
      case atStart => exact ⟨0, Nat.zero_le _, rfl, rfl, (sq ▸ (World.rowIs_made wq (.int .u32 0) m 41)).congr fun i _ => by simp, (Below.refl _ _).alloc (by omega) _⟩
      case round =>
        obtain ⟨k, hk, hgk, rfl, HY⟩ := hrel
        have bel : Hid (Below w.heap.size w wr) := HX.out.bel.trans (HY.out.2.mono (by omega))
        have k8 : wr.cell? ⟨xb, 8, none⟩ = some (.slice ra m c2) := by rw [bel.out.cell (p := ⟨xb, 8, none⟩) hx]; exact K.out.2
        by_cases hlt : k < m
        · obtain ⟨b, off, rfl, h0⟩ := HR.out.1.cell hlt
          rw [← bel.out.cell (p := ⟨b, off + k, none⟩) (lt_of_cell h0)] at h0
          have hc : wr.cell? ⟨w.heap.size + 3, k, none⟩ = some (.int .u32 0) := by
            have := HY.out.1.cell hlt
            simpa using this
          have hf := HY.out.1.frozen k
          have hlt' : (k : Int) < (m : Int) := by omega
          go_wp2
          go_roundg (m - (k + 1))
          case measure => omega
          case rel => exact ⟨k + 1, by omega, rfl, by go_num, rowIs_step (f := fun j => Value.int .u32 (r j)) HY.out.1, HY.out.2.setCell (Nat.le_refl _) _⟩
        · obtain rfl : m = k := by omega
          go_wp2
          try go_quiet (fail)
          try go_wp2
          refine bodyPost_ret (v := .tuple #[.slice (some ⟨w.heap.size, 0, none⟩) n n, .slice (some ⟨w.heap.size + 1, 0, none⟩) n n, .slice (some ⟨w.heap.size + 2, 0, none⟩) n n, .slice (some ⟨w.heap.size + 3, 0, none⟩) m m]) (by simp [results, Tryz.results15, go_sem]) rfl ?_
          have hb := fun g (hg : g < w.heap.size + 3) => HY.out.2.block g hg
          exact ⟨rfl, (HX.out.lo.of_block (hb _ (by omega))).congr fun j hj => by simp [hj], (HX.out.hi.of_block (hb _ (by omega))).congr fun j hj => by simp [hj], (HX.out.src.of_block (hb _ (by omega))).congr fun j hj => by simp [hj], HY.out.1.congr fun j hj => by simp [hj], bel.out⟩
end Go.Proofs.Qxb6618911aGreat
