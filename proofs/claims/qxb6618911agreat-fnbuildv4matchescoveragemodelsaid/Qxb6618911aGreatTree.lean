/-
  newTree (key4; key6 at nil).
-/
import Derived.Test.Qxb6618911aGreatReach
namespace Go.Proofs.Qxb6618911aGreat
open Go.RowKit Go.Lib Go.Shelf Go.Sort

theorem sortedS_len (l : List (Int × Int × Int)) : (sortedS l).length = l.length := by unfold sortedS; exact List.length_mergeSort _

theorem sortS_R3 (blk n cap : Nat) (d : Nat → Int × Int × Int) (w : World) (h0 : 0 < n) (hn : n ≤ 100000) (hR : R3 spV w blk n d) :
    Calls Tryz.prog 43 #[.slice (some ⟨blk, 0, none⟩) n cap, .func (.func 44) #[] #[]] w fun e w' => e = .returned (.tuple #[]) ∧ R3 spV w' blk n (fun i => (sortedS ((List.range n).map d))[i]!) ∧ w.grownBy w' (some blk) := by
  have hsz : ((List.range n).map d).toArray.size = n := by simp
  have hH : HoldsK spV 3 w blk 0 ((List.range n).map d).toArray := hR.holds _ hsz (fun i hi => by
    rw [getElem!_pos _ _ (by simpa using hi)]; simp)
  have := sortS_some blk 0 cap ((List.range n).map d).toArray w hH (hR.lt h0) (by rw [hsz]; omega)
  rw [hsz] at this
  refine this.mono ?_
  rintro e w' ⟨rfl, m, os, rfl⟩
  refine ⟨rfl, ?_, sortWorld_grown _ _ _ _ _ _ _⟩
  have hs2 : (sortedS ((List.range n).map d)).toArray.size = ((List.range n).map d).toArray.size := by simp [sortedS_len]
  have h2 := R3.of_holds (holdsK_sortWorldK_c spV 3 w blk 0 ((List.range n).map d).toArray (sortedS ((List.range n).map d)).toArray m os hH (hR.lt h0) hs2)
  rw [hs2, hsz] at h2
  refine h2.congr fun i hi => ?_
  rw [getElem!_pos _ _ (by rw [hs2, hsz]; exact hi), getElem!_pos _ _ (by rw [sortedS_len]; simpa using hi)]
  simp

/-- The spans that the tree keeps. -/
def spanL (n : Nat) (d : Nat → Int × Int × Int) : List (Int × Int × Int) := ddn (fun i => (sortedS ((List.range n).map d))[i]!) n

/-- Behind newTree. -/
def TreePost (w : World) (ao : Option Addr) (l : List (Int × Int × Int)) (e : Ending) (w' : World) : Prop :=
  ∃ rb r, e = .returned (.agg #[.slice ao l.length l.length, .slice (some ⟨rb, 0, none⟩) l.length l.length]) ∧ (∀ blk, ao = some ⟨blk, 0, none⟩ → R3 spV w' blk l.length (fun i => l[i]!)) ∧
    w'.rowIs rb 71 l.length (fun k => .int .u32 (r k)) ∧ RO (fun k => l[k]!.2.1) r 0 l.length ∧ w.heap.size ≤ rb ∧ w.grownBy w' (blkOf ao)

theorem info71 : (Tryz.prog.info? 71).map (fun i => (i.zero, i.size, i.bytes)) = some (some (.int .u32 0), 1, 4) := by kernel_rfl

set_option maxRecDepth 100000 in
set_option maxHeartbeats 2000000 in
theorem newTree_some (blk n cap : Nat) (d : Nat → Int × Int × Int) (w : World) (h0 : 0 < n) (hn : n ≤ 100000) (hnc : n ≤ cap) (hR : R3 spV w blk n d) :
    Calls Tryz.prog 33 #[.slice (some ⟨blk, 0, none⟩) n cap] w fun e w' => TreePost w (some ⟨blk, 0, none⟩) (spanL n d) e w' := by
  have HR : Hid (R3 spV w blk n d) := hR
  have hlt := hR.lt h0
  clear hR
  go_enter Tryz.func33, Tryz.ntmps33
  go_wp2_with fail
  generalize hw1 : w.alloc _ = w1
  have hg1 : w.grownBy w1 (some blk) := by rw [← hw1]; exact ⟨rfl, rfl, rfl, by simp, fun k hk _ => Below.heap_alloc _ _ _ hk⟩
  have hs1 : w1.heap.size = w.heap.size + 1 := by rw [← hw1]; simp
  have hb1 := fun (ob : Obj) (h : w1.heap[w.heap.size]? = some ob) => h
  have R1 : R3 spV w1 blk n d := by rw [← hw1]; exact HR.out.of_block (Below.heap_alloc _ _ _ hlt)
  have hz : w1.heap[w.heap.size]? = some (.cells #[.slice none 0 0, .slice none 0 0] 79) := by rw [← hw1]; exact alloc_new _ _
  refine (sortS_R3 blk n cap d w1 h0 hn R1).mono ?_
  rintro e w2 ⟨rfl, R2, g2⟩
  go_wp2_with fail
  refine (compact_any blk n cap _ w2 hn hnc R2).mono ?_
  rintro e w3 ⟨rfl, R3', g3⟩
  have hL := ddn_len_le (fun i => (sortedS ((List.range n).map d))[i]!) n
  have hLL : spanL n d = ddn (fun i => (sortedS ((List.range n).map d))[i]!) n := rfl
  rw [← hLL] at hL R3' ⊢
  clear hLL
  generalize hl : spanL n d = l at *
  have HL : Hid (spanL n d = l) := hl
  clear hl
  go_wp2_with fail
  refine (clip_some blk l.length cap w3 (by omega)).mono ?_
  rintro e w4 ⟨rfl, a4⟩
  have g4 : w.grownBy w4 (some blk) := grownBy_trans (grownBy_trans hg1 (grownBy_trans g2 g3)) (a4.grown _)
  have R4 : R3 spV w4 blk l.length (fun i => l[i]!) := R3'.alk a4
  have z4 : w4.heap[w.heap.size]? = some (.cells #[.slice none 0 0, .slice none 0 0] 79) := by
    rw [a4.heap, (grownBy_trans g2 g3).block w.heap.size (by omega) (fun e => by have := Option.some.inj e; omega)]; exact hz
  have s4 : w.heap.size < w4.heap.size := by have := (grownBy_trans g2 g3).size; rw [a4.heap]; omega
  have G4 : Hid (w.grownBy w4 (some blk) ∧ R3 spV w4 blk l.length (fun i => l[i]!) ∧ w4.heap[w.heap.size]? = some (.cells #[.slice none 0 0, .slice none 0 0] 79)) := ⟨g4, R4, z4⟩
  clear g4 R4 z4 a4 R3' g3 g2 R2 R1 hz hb1 hs1 hg1 hw1
  have mk := fun w => run_make_row' (P := Tryz.prog) 77 71 (.int .u32 0) 4 Tryz.underlying77 info71 rfl .i64 .i64 l.length (by omega) (by omega) w
  go_wp2_with fail
  clear mk
  have hbl : blk < w4.heap.size := by omega
  generalize hw5 : (w4.alloc _).alloc _ = w5
  have s5 : w5.heap.size = w4.heap.size + 2 := by rw [← hw5]; simp
  have t5 : w5.heap[w4.heap.size + 1]? = some (.cells #[.slice (some ⟨blk, 0, none⟩) l.length l.length, .slice (some ⟨w4.heap.size, 0, none⟩) l.length l.length] 79) := by
    rw [← hw5]
    have := alloc_new (w4.alloc (.cells (madeCells #[.int .u32 0] l.length) 71)) (.cells #[.slice (some ⟨blk, 0, none⟩) l.length l.length, .slice (some ⟨w4.heap.size, 0, none⟩) l.length l.length] 79)
    simpa using this
  have o5 : ∀ k, k < w4.heap.size → w5.heap[k]? = w4.heap[k]? := fun k hk => by
    rw [← hw5, Below.heap_alloc _ _ _ (by simp; omega), Below.heap_alloc _ _ _ hk]
  have r5 : w5.rowIs w4.heap.size 71 l.length (fun k => .int .u32 ((fun _ => 0) k)) := by
    rw [← hw5]
    exact (World.rowIs_made w4 (.int .u32 0) l.length 71).of_block (Below.heap_alloc _ _ _ (by simp))
  have g5 : w4.grownBy w5 (some blk) := by
    rw [← hw5]
    exact ⟨rfl, rfl, rfl, by simp; omega, fun k hk _ => by rw [Below.heap_alloc _ _ _ (by simp; omega), Below.heap_alloc _ _ _ hk]⟩
  have R5 : R3 spV w5 blk l.length (fun i => l[i]!) := G4.out.2.1.of_block (o5 blk hbl)
  refine (fill_any (w4.heap.size + 1) blk w4.heap.size l.length l.length (fun i => l[i]!) (by omega) (by omega) (by omega) l.length 0 l.length (fun _ => 0) w5 (by omega) (by omega) (by omega) (by simp [World.cell?, t5]) (by simp [World.cell?, t5]) R5 r5).mono ?_
  rintro e w6 ⟨v, r, rfl, -, r6, -, hRO, g6⟩
  have t6 : w6.heap[w4.heap.size + 1]? = some (.cells #[.slice (some ⟨blk, 0, none⟩) l.length l.length, .slice (some ⟨w4.heap.size, 0, none⟩) l.length l.length] 79) := by
    rw [g6.block _ (by omega) (fun e => by have := Option.some.inj e; omega)]; exact t5
  have z6 : w6.heap[w.heap.size]? = some (.cells #[.slice none 0 0, .slice none 0 0] 79) := by
    rw [g6.block _ (by omega) (fun e => by have := Option.some.inj e; omega), o5 _ s4]; exact G4.out.2.2
  have g66 : w.grownBy w6 (some blk) := by
    have g45 := grownBy_trans G4.out.1 g5
    exact ⟨g6.os.trans g45.os, g6.tape.trans g45.tape, g6.output.trans g45.output, Nat.le_trans g45.size g6.size, fun k hk hne =>
      (g6.block k (by omega) (fun e => by have := Option.some.inj e; omega)).trans (g45.block k hk hne)⟩
  have R6 : R3 spV w6 blk l.length (fun i => l[i]!) := R5.of_block (g6.block blk (by omega) (fun e => by have := Option.some.inj e; omega))
  have HX : Hid (w.grownBy w6 (some blk) ∧ R3 spV w6 blk l.length (fun i => l[i]!) ∧ w6.rowIs w4.heap.size 71 l.length (fun k => .int .u32 (r k)) ∧ RO (fun k => l[k]!.2.1) r 0 l.length) := ⟨g66, R6, r6, hRO⟩
  have y0 : w6.cell? ⟨w4.heap.size + 1, 0, none⟩ = some (.slice (some ⟨blk, 0, none⟩) l.length l.length) := by simp [World.cell?, t6]
  have y1 : w6.cell? ⟨w4.heap.size + 1, 1, none⟩ = some (.slice (some ⟨w4.heap.size, 0, none⟩) l.length l.length) := by simp [World.cell?, t6]
  have x0 : w6.cell? ⟨w.heap.size, 0, none⟩ = some (.slice none 0 0) := by simp [World.cell?, z6]
  have x1 : w6.cell? ⟨w.heap.size, 1, none⟩ = some (.slice none 0 0) := by simp [World.cell?, z6]
  have f0 : w6.frozen? ⟨w.heap.size, 0, none⟩ = false := by simp [World.frozen?, z6]
  have f1 : w6.frozen? ⟨w.heap.size, 1, none⟩ = false := by simp [World.frozen?, z6]
  clear R6 g66 z6 t6 R5 g5 r5 o5 t5 g6 r6 hRO hw5
  go_wp2_with fail
  refine bodyPost_ret (v := .agg #[.slice (some ⟨blk, 0, none⟩) l.length l.length, .slice (some ⟨w4.heap.size, 0, none⟩) l.length l.length]) (by simp [results, Tryz.results33, x0, x1, go_sem]) rfl ?_
  refine ⟨w4.heap.size, r, by rw [HL.out], ?_, ?_, by rw [HL.out]; exact HX.out.2.2.2, by omega, ?_⟩
  · rintro b hb
    cases hb
    rw [HL.out]
    refine HX.out.2.1.of_block ?_
    rw [Below.heap_setCell _ _ _ _ (by show blk ≠ w.heap.size; omega), Below.heap_setCell _ _ _ _ (by show blk ≠ w.heap.size; omega)]
  · rw [HL.out]
    refine HX.out.2.2.1.of_block ?_
    rw [Below.heap_setCell _ _ _ _ (by show w4.heap.size ≠ w.heap.size; omega), Below.heap_setCell _ _ _ _ (by show w4.heap.size ≠ w.heap.size; omega)]
  · refine ⟨HX.out.1.os, HX.out.1.tape, HX.out.1.output, ?_, fun k hk hne => ?_⟩
    · have := HX.out.1.size
      simpa [World.setCell] using this
    · rw [Below.heap_setCell _ _ _ _ (by show k ≠ w.heap.size; omega), Below.heap_setCell _ _ _ _ (by show k ≠ w.heap.size; omega)]
      exact HX.out.1.block k hk hne

theorem info86 : (Tryz.prog.info? 86).map (fun i => (i.zero, i.size, i.bytes)) = some (some (.agg #[.int .u64 0, .int .u64 0]), 2, 16) := by kernel_rfl

/-- make, elements of any size. -/
theorem makeK (t e : TypeId) (z : Value) (size bytes : Nat) (ht : Tryz.prog.underlying t = some (.slice e)) (hinfo : (Tryz.prog.info? e).map (fun i => (i.zero, i.size, i.bytes)) = some (some z, size, bytes)) (l c : Nat) (hlc : l ≤ c) (hb : bytes * c ≤ 281474976710656) (h63 : c ≤ 9223372036854775807) (w : World) :
    (Instr.makeSlice t (.int .i64 l) (.int .i64 c)).run Tryz.prog w = .ok (.slice (some ⟨w.heap.size, 0, none⟩) l c) (w.alloc (.cells (madeCells z.cells (c * size)) e)) := by
  obtain ⟨i, hi, hzz⟩ := Option.map_eq_some_iff.1 hinfo
  simp only [Prod.mk.injEq] at hzz
  obtain ⟨hz, hs, hb2⟩ := hzz
  have hb' : (i.bytes : Int) * (c : Int) ≤ 281474976710656 := by
    have h : ((i.bytes * c : Nat) : Int) ≤ 281474976710656 := by rw [hb2]; omega
    rwa [Int.natCast_mul] at h
  have hr := run_make (P := Tryz.prog) w t e i z ht hi hz .i64 .i64 l c (by omega) (by omega) hb' (by omega)
  simp only [Int.toNat_natCast, hs] at hr
  exact hr

set_option maxHeartbeats 400000 in
theorem fill6_none (p : Value) (i j : Nat) (w : World) (hij : j ≤ i) :
    Calls Tryz.prog 56 #[p, .int .i64 i, .int .i64 j] w fun e w' => (∃ v, e = .returned v) ∧ w.grownBy w' none := by
  have h1 : ¬ (i : Int) < (j : Int) := by omega
  have h2 : (j : Int) ≤ (i : Int) := by omega
  go_enter Tryz.func56, Tryz.ntmps56
  go_wp2
  refine bodyPost_ret (v := .tuple #[.agg #[.int .u64 0, .int .u64 0], .bool false]) (by simp [results, Tryz.results56, go_sem]) rfl ?_
  exact ⟨⟨_, rfl⟩, ⟨rfl, rfl, rfl, by simp; omega, fun k hk _ => by rw [Below.heap_alloc _ _ _ (by simp; omega), Below.heap_alloc _ _ _ hk]⟩⟩

set_option maxRecDepth 100000 in
set_option maxHeartbeats 2000000 in
theorem newTree6_none (w : World) : Calls Tryz.prog 34 #[.slice none 0 0] w fun e w' => ∃ rb, e = .returned (.agg #[.slice none 0 0, .slice (some ⟨rb, 0, none⟩) 0 0]) ∧ w.grownBy w' none := by
  have mk : ∀ w : World, (Instr.makeSlice 81 (.int .i64 0) (.int .i64 0)).run Tryz.prog w = .ok (.slice (some ⟨w.heap.size, 0, none⟩) 0 0) (w.alloc (.cells (madeCells #[.int .u64 0, .int .u64 0] 0) 86)) :=
    fun w => makeK 81 86 (.agg #[.int .u64 0, .int .u64 0]) 2 16 Tryz.underlying81 info86 0 0 (by omega) (by omega) (by omega) w
  go_enter Tryz.func34, Tryz.ntmps34
  go_wp2_with fail
  refine (sortS6_none _ _ _ _).mono ?_
  rintro e w2 ⟨rfl, hw⟩
  subst w2
  go_wp2_with fail
  refine (compact6_none _).mono ?_
  rintro e w3 ⟨rfl, a3⟩
  go_wp2_with fail
  refine (clip6_none w3).mono ?_
  rintro e w4 ⟨rfl, a4⟩
  have a5 := a4.trans a3
  have z4 : w4.heap[w.heap.size]? = some (.cells #[.slice none 0 0, .slice none 0 0] 83) := by rw [a5.heap]; exact alloc_new _ _
  have S4 : Hid (w4.heap.size = w.heap.size + 1) := by show _ = _; rw [a5.heap]; simp
  have A5 : Hid (Alk w4 (w.alloc (.cells #[.slice none 0 0, .slice none 0 0] 83))) := a5
  have Z4 : Hid (w4.heap[w.heap.size]? = some (.cells #[.slice none 0 0, .slice none 0 0] 83)) := z4
  clear a3 a4 a5 z4
  go_wp2_with fail
  have s4 := S4.out
  generalize hw5 : (w4.alloc _).alloc _ = w5
  have t5 : w5.heap[w4.heap.size + 1]? = some (.cells #[.slice none 0 0, .slice (some ⟨w4.heap.size, 0, none⟩) 0 0] 83) := by
    rw [← hw5]
    rw [show w4.heap.size + 1 = (w4.alloc (.cells (madeCells #[.int .u64 0, .int .u64 0] 0) 86)).heap.size from by simp]
    exact alloc_new _ _
  have s5 : w5.heap.size = w4.heap.size + 2 := by rw [← hw5]; simp
  have g5 : w.grownBy w5 none := by
    rw [← hw5]
    exact ⟨A5.out.os, A5.out.tape, A5.out.output, by simp; omega, fun k hk _ => by rw [Below.heap_alloc _ _ _ (by simp; omega), Below.heap_alloc _ _ _ (by omega), A5.out.heap, Below.heap_alloc _ _ _ hk]⟩
  have z5 : w5.heap[w.heap.size]? = some (.cells #[.slice none 0 0, .slice none 0 0] 83) := by
    rw [← hw5, Below.heap_alloc _ _ _ (by simp; omega), Below.heap_alloc _ _ _ (by omega)]; exact Z4.out
  refine (fill6_none _ 0 0 w5 (by omega)).mono ?_
  rintro e w6 ⟨⟨v, rfl⟩, g6⟩
  have t6 : w6.heap[w4.heap.size + 1]? = some (.cells #[.slice none 0 0, .slice (some ⟨w4.heap.size, 0, none⟩) 0 0] 83) := by
    rw [g6.block _ (by omega) (by simp)]; exact t5
  have z6 : w6.heap[w.heap.size]? = some (.cells #[.slice none 0 0, .slice none 0 0] 83) := by
    rw [g6.block _ (by omega) (by simp)]; exact z5
  have HX : Hid (w.grownBy w6 none) := grownBy_trans g5 g6
  have y0 : w6.cell? ⟨w4.heap.size + 1, 0, none⟩ = some (.slice none 0 0) := by simp [World.cell?, t6]
  have y1 : w6.cell? ⟨w4.heap.size + 1, 1, none⟩ = some (.slice (some ⟨w4.heap.size, 0, none⟩) 0 0) := by simp [World.cell?, t6]
  have x0 : w6.cell? ⟨w.heap.size, 0, none⟩ = some (.slice none 0 0) := by simp [World.cell?, z6]
  have x1 : w6.cell? ⟨w.heap.size, 1, none⟩ = some (.slice none 0 0) := by simp [World.cell?, z6]
  have f0 : w6.frozen? ⟨w.heap.size, 0, none⟩ = false := by simp [World.frozen?, z6]
  have f1 : w6.frozen? ⟨w.heap.size, 1, none⟩ = false := by simp [World.frozen?, z6]
  clear z6 t6 t5 z5 g5 g6 hw5 mk s4 s5
  go_wp2_with fail
  refine bodyPost_ret (v := .agg #[.slice none 0 0, .slice (some ⟨w4.heap.size, 0, none⟩) 0 0]) (by simp [results, Tryz.results34, x0, x1, go_sem]) rfl ?_
  have s4 := S4.out
  refine ⟨w4.heap.size, rfl, HX.out.os, HX.out.tape, HX.out.output, ?_, fun k hk hne => ?_⟩
  · have := HX.out.size
    simpa [World.setCell] using this
  · rw [Below.heap_setCell _ _ _ _ (by show k ≠ w.heap.size; omega), Below.heap_setCell _ _ _ _ (by show k ≠ w.heap.size; omega)]
    exact HX.out.block k hk hne

set_option maxRecDepth 100000 in
set_option maxHeartbeats 2000000 in
theorem newTree_none (w : World) : Calls Tryz.prog 33 #[.slice none 0 0] w fun e w' => TreePost w none [] e w' := by
  have mk : ∀ w : World, (Instr.makeSlice 77 (.int .i64 0) (.int .i64 0)).run Tryz.prog w = .ok (.slice (some ⟨w.heap.size, 0, none⟩) 0 0) (w.alloc (.cells (madeCells #[.int .u32 0] 0) 71)) :=
    fun w => makeK 77 71 (.int .u32 0) 1 4 Tryz.underlying77 info71 0 0 (by omega) (by omega) (by omega) w
  go_enter Tryz.func33, Tryz.ntmps33
  go_wp2_with fail
  refine (sortS_none _ _ _ _).mono ?_
  rintro e w2 ⟨rfl, hw⟩
  subst w2
  go_wp2_with fail
  refine (compact_none _).mono ?_
  rintro e w3 ⟨rfl, a3⟩
  go_wp2_with fail
  refine (clip_none w3).mono ?_
  rintro e w4 ⟨rfl, a4⟩
  have a5 := a4.trans a3
  have z4 : w4.heap[w.heap.size]? = some (.cells #[.slice none 0 0, .slice none 0 0] 79) := by rw [a5.heap]; exact alloc_new _ _
  have S4 : Hid (w4.heap.size = w.heap.size + 1) := by show _ = _; rw [a5.heap]; simp
  have A5 : Hid (Alk w4 (w.alloc (.cells #[.slice none 0 0, .slice none 0 0] 79))) := a5
  have Z4 : Hid (w4.heap[w.heap.size]? = some (.cells #[.slice none 0 0, .slice none 0 0] 79)) := z4
  clear a3 a4 a5 z4
  go_wp2_with fail
  have s4 := S4.out
  generalize hw5 : (w4.alloc _).alloc _ = w5
  have t5 : w5.heap[w4.heap.size + 1]? = some (.cells #[.slice none 0 0, .slice (some ⟨w4.heap.size, 0, none⟩) 0 0] 79) := by
    rw [← hw5]
    rw [show w4.heap.size + 1 = (w4.alloc (.cells (madeCells #[.int .u32 0] 0) 71)).heap.size from by simp]
    exact alloc_new _ _
  have s5 : w5.heap.size = w4.heap.size + 2 := by rw [← hw5]; simp
  have g5 : w.grownBy w5 none := by
    rw [← hw5]
    exact ⟨A5.out.os, A5.out.tape, A5.out.output, by simp; omega, fun k hk _ => by rw [Below.heap_alloc _ _ _ (by simp; omega), Below.heap_alloc _ _ _ (by omega), A5.out.heap, Below.heap_alloc _ _ _ hk]⟩
  have z5 : w5.heap[w.heap.size]? = some (.cells #[.slice none 0 0, .slice none 0 0] 79) := by
    rw [← hw5, Below.heap_alloc _ _ _ (by simp; omega), Below.heap_alloc _ _ _ (by omega)]; exact Z4.out
  have r5 : w5.rowIs w4.heap.size 71 0 (fun k => .int .u32 ((fun _ => 0) k)) := by
    rw [← hw5]
    exact (World.rowIs_made w4 (.int .u32 0) 0 71).of_block (Below.heap_alloc _ _ _ (by simp))
  refine (fill_none _ 0 0 w5 (by omega)).mono ?_
  rintro e w5 ⟨rfl, hw⟩
  subst w5
  have g6 : w5.grownBy w5 none := (Alk.refl _).grown _
  have R5 : Hid (w5.rowIs w4.heap.size 71 0 (fun k => .int .u32 ((fun _ => 0) k))) := r5
  clear r5
  have t6 : w5.heap[w4.heap.size + 1]? = some (.cells #[.slice none 0 0, .slice (some ⟨w4.heap.size, 0, none⟩) 0 0] 79) := by
    rw [g6.block _ (by omega) (by simp)]; exact t5
  have z6 : w5.heap[w.heap.size]? = some (.cells #[.slice none 0 0, .slice none 0 0] 79) := by
    rw [g6.block _ (by omega) (by simp)]; exact z5
  have HX : Hid (w.grownBy w5 none) := grownBy_trans g5 g6
  have y0 : w5.cell? ⟨w4.heap.size + 1, 0, none⟩ = some (.slice none 0 0) := by simp [World.cell?, t6]
  have y1 : w5.cell? ⟨w4.heap.size + 1, 1, none⟩ = some (.slice (some ⟨w4.heap.size, 0, none⟩) 0 0) := by simp [World.cell?, t6]
  have x0 : w5.cell? ⟨w.heap.size, 0, none⟩ = some (.slice none 0 0) := by simp [World.cell?, z6]
  have x1 : w5.cell? ⟨w.heap.size, 1, none⟩ = some (.slice none 0 0) := by simp [World.cell?, z6]
  have f0 : w5.frozen? ⟨w.heap.size, 0, none⟩ = false := by simp [World.frozen?, z6]
  have f1 : w5.frozen? ⟨w.heap.size, 1, none⟩ = false := by simp [World.frozen?, z6]
  clear z6 t6 t5 z5 g5 g6 hw5 mk s4 s5
  go_wp2_with fail
  refine bodyPost_ret (v := .agg #[.slice none 0 0, .slice (some ⟨w4.heap.size, 0, none⟩) 0 0]) (by simp [results, Tryz.results33, x0, x1, go_sem]) rfl ?_
  have s4 := S4.out
  refine ⟨w4.heap.size, fun _ => 0, rfl, fun b h => (by cases h), ?_, .nil (Nat.le_refl _), by omega, HX.out.os, HX.out.tape, HX.out.output, ?_, fun k hk hne => ?_⟩
  · refine R5.out.of_block ?_
    rw [Below.heap_setCell _ _ _ _ (by show w4.heap.size ≠ w.heap.size; omega), Below.heap_setCell _ _ _ _ (by show w4.heap.size ≠ w.heap.size; omega)]
  · have := HX.out.size
    simpa [World.setCell] using this
  · rw [Below.heap_setCell _ _ _ _ (by show k ≠ w.heap.size; omega), Below.heap_setCell _ _ _ _ (by show k ≠ w.heap.size; omega)]
    exact HX.out.block k hk hne

end Go.Proofs.Qxb6618911aGreat
