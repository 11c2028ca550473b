/-
  zzSpanLess, zzModelEntries.
-/
import Derived.Test.Qxb6618911aGreatCov
import Derived.Deep.RegionWith
import Derived.Deep.DeepMust
namespace Go.Proofs.Qxb6618911aGreat
open Go.RowKit Go.Lib

set_option maxRecDepth 20000 in
set_option maxHeartbeats 1000000 in
theorem spanLess_any (x y : T3) (r : Bool) (w : World) (hr : r = true ↔ ltS x y) :
    Calls Tryz.prog 42 #[.agg #[.int .u32 x.1, .int .u32 x.2.1, .int .i32 x.2.2], .agg #[.int .u32 y.1, .int .u32 y.2.1, .int .i32 y.2.2]] w fun e w' => e = .returned (.bool r) ∧ Gr w w' := by
  obtain ⟨a, b, c⟩ := x
  obtain ⟨a', b', c'⟩ := y
  have HR := Hid.intro hr
  have HG : ∀ o o', Gr w ((w.alloc o).alloc o') := fun o o' => (Gr.of_none (World.grownBy_alloc _ _ _)).trans (Gr.of_none (World.grownBy_alloc _ _ _))
  have HGG := Hid.intro HG
  clear hr HG
  by_cases h1 : a = a'
  · subst h1
    by_cases h2 : b = b'
    · subst h2
      obtain rfl : r = decide (c < c') := by
        have := HR.out
        unfold ltS at this
        rcases r with _ | _
        · symm; apply decide_eq_false; intro h; have := this.2 (by simp; exact h); cases this
        · symm; apply decide_eq_true; have := this.1 rfl; simp at this; exact this
      clear HR
      go_enter Tryz.func42, Tryz.ntmps42
      go_wp2
      go_ret
      exact ⟨rfl, HGG.out _ _⟩
    · obtain rfl : r = decide (b < b') := by
        have := HR.out
        unfold ltS at this
        simp only [Int.lt_irrefl, true_and, false_or] at this
        rcases r with _ | _
        · symm; apply decide_eq_false; intro h; have := this.2 (.inl h); cases this
        · symm; apply decide_eq_true; have := this.1 rfl; omega
      have h2' : (b != b') = true := by simpa using h2
      clear HR h2
      go_enter Tryz.func42, Tryz.ntmps42
      go_wp2
      go_ret
      exact ⟨rfl, HGG.out _ _⟩
  · obtain rfl : r = decide (a < a') := by
      have := HR.out
      unfold ltS at this
      simp only at this
      rcases r with _ | _
      · symm; apply decide_eq_false; intro h; have := this.2 (.inl h); cases this
      · symm; apply decide_eq_true; have := this.1 rfl; omega
    have h1' : (a != a') = true := by simpa using h1
    clear HR h1
    go_enter Tryz.func42, Tryz.ntmps42
    go_wp2
    go_ret
    exact ⟨rfl, HGG.out _ _⟩

theorem eql55 (x y : T3) (w : World) : (binOp .eql 55 (.agg #[.int .u32 x.1, .int .u32 x.2.1, .int .i32 x.2.2]) (.agg #[.int .u32 y.1, .int .u32 y.2.1, .int .i32 y.2.2])).run Tryz.prog w = .ok (.bool (decide (x = y))) w := by
  have u41 := Tryz.underlying41
  have a41 := Tryz.isAgg41
  have z41 := Tryz.sizeOf41
  have u21 := Tryz.underlying21
  have a21 := Tryz.isAgg21
  have z21 := Tryz.sizeOf21
  have hS : Tryz.prog.underlying 55 = some (.struct (Tryz.prog.fieldsOf 55)) := by kernel_rfl
  have hp : Tryz.prog.stoodInHeld 55 = false := by kernel_rfl
  rw [run_eql_struct, show (10000 : Nat) = 9999 + 1 from rfl, run_equalIn_agg w 9999 55 _ _ hS hp]
  simp only [Program.fieldsOf, Tryz.underlying55]
  go_simp
  obtain ⟨a, b, c⟩ := x
  obtain ⟨a', b', c'⟩ := y
  by_cases h1 : a = a' <;> by_cases h2 : b = b' <;> by_cases h3 : c = c' <;> simp [h1, h2, h3]

/-- The spans in the row's cells. -/
def flatS (l : List T3) : List Value := l.flatMap spV

theorem flatS_append (l m : List T3) : flatS (l ++ m) = flatS l ++ flatS m := by simp [flatS]
theorem flatS_len (l : List T3) : (flatS l).length = l.length * 3 := by
  induction l with
  | nil => rfl
  | cons x l ih =>
    have : flatS (x :: l) = spV x ++ flatS l := rfl
    rw [this, List.length_append, ih, List.length_cons]
    simp [spV]; omega

theorem flatS_get : ∀ (l : List T3) (i c : Nat) (x : T3), l[i]? = some x → c < 3 → (flatS l)[i * 3 + c]? = some (spV x)[c]!
  | [], i, c, x, h, _ => by simp at h
  | y :: l, 0, c, x, h, hc => by
    simp at h
    subst h
    have : flatS (y :: l) = spV y ++ flatS l := rfl
    have hl : c < (spV y).length := by simp [spV]; exact hc
    rw [this, List.getElem?_append_left (by omega), Nat.zero_mul, Nat.zero_add, List.getElem?_eq_getElem hl, getL _ hl]
  | y :: l, i + 1, c, x, h, hc => by
    have : flatS (y :: l) = spV y ++ flatS l := rfl
    have hl : (spV y).length = 3 := rfl
    rw [this, List.getElem?_append_right (by omega), hl, show (i + 1) * 3 + c - 3 = i * 3 + c from by omega, flatS_get l i c x (by simpa using h) hc]

/-- A slice of spans that the call owns. -/
def O3 (w : World) (base : Nat) (ao : Option Addr) (cap : Nat) (l : List T3) : Prop :=
  (ao = none ∧ l = [] ∧ cap = 0) ∨ ∃ g f, ao = some ⟨g, 0, none⟩ ∧ base ≤ g ∧ l.length ≤ cap ∧ cap ≤ maxLen ∧ w.rowIs g 55 (cap * 3) f ∧ ∀ i c x, l[i]? = some x → c < 3 → f (i * 3 + c) = (spV x)[c]!

theorem O3.owns {w : World} {base : Nat} {ao : Option Addr} {cap : Nat} {l : List T3} (h : O3 w base ao cap l) : w.ownsRow base 55 3 (.slice ao l.length cap) l.length (flatS l) := by
  refine ⟨flatS_len l, ?_⟩
  rcases h with ⟨rfl, rfl, rfl⟩ | ⟨g, f, rfl, hg, hn, hc, ⟨cur, hb, hs, hf⟩, hx⟩
  · exact .inl ⟨rfl, rfl⟩
  · refine .inr ⟨g, cap, cur, rfl, hg, hb, hn, hc, hs, ?_⟩
    apply List.ext_getElem?
    intro j
    rw [List.getElem?_take]
    by_cases hj : j < l.length * 3
    · rw [if_pos hj]
      have hi : j / 3 < l.length := by omega
      have he := flatS_get l (j / 3) (j % 3) _ (List.getElem?_eq_getElem hi) (Nat.mod_lt _ (by omega))
      rw [show j / 3 * 3 + j % 3 = j from by omega] at he
      rw [he, ← hx (j / 3) (j % 3) _ (List.getElem?_eq_getElem hi) (Nat.mod_lt _ (by omega)), show j / 3 * 3 + j % 3 = j from by omega]
      have := hf j (by omega)
      simpa using this
    · rw [if_neg hj, List.getElem?_eq_none (by rw [flatS_len]; omega)]

theorem O3.of_owns {w : World} {base : Nat} {v : Value} {l : List T3} (h : w.ownsRow base 55 3 v l.length (flatS l)) : ∃ ao cap, v = .slice ao l.length cap ∧ O3 w base ao cap l := by
  obtain ⟨h1, h2⟩ := h
  rcases h2 with ⟨rfl, h0⟩ | ⟨g, cap, cur, rfl, hg, hb, hn, hc, hs, hx⟩
  · have : l = [] := List.length_eq_zero_iff.1 h0
    subst this
    exact ⟨none, 0, rfl, .inl ⟨rfl, rfl, rfl⟩⟩
  · refine ⟨_, cap, rfl, .inr ⟨g, fun j => cur[j]?.getD default, rfl, hg, hn, hc, hs ▸ rowIs_of_block hb, fun i c x hi hcc => ?_⟩⟩
    have he := flatS_get l i c x hi hcc
    have hil : i < l.length := by
      rcases Nat.lt_or_ge i l.length with q | q
      · exact q
      · rw [List.getElem?_eq_none q] at hi; cases hi
    rw [← hx, List.getElem?_take, if_pos (by omega)] at he
    rw [Array.getElem?_toList] at he
    show cur[i * 3 + c]?.getD default = _
    rw [he]; rfl

theorem O3.cells {w : World} {base g : Nat} {cap : Nat} {l : List T3} (h : O3 w base (some ⟨g, 0, none⟩) cap l) {i : Nat} {x : T3} (hx : l[i]? = some x) :
    w.cell? ⟨g, i * 3, none⟩ = some (.int .u32 x.1) ∧ w.cell? ⟨g, i * 3 + 1, none⟩ = some (.int .u32 x.2.1) ∧ w.cell? ⟨g, i * 3 + 2, none⟩ = some (.int .i32 x.2.2) ∧ w.frozen? ⟨g, i * 3, none⟩ = false ∧ w.frozen? ⟨g, i * 3 + 1, none⟩ = false ∧ w.frozen? ⟨g, i * 3 + 2, none⟩ = false := by
  rcases h with ⟨h, _⟩ | ⟨g', f, e, hg, hn, hc, hr, hf⟩
  · cases h
  · cases e
    have hil : i < l.length := by
      rcases Nat.lt_or_ge i l.length with q | q
      · exact q
      · rw [List.getElem?_eq_none q] at hx; cases hx
    have k0 := hf i 0 x hx (by omega)
    have k1 := hf i 1 x hx (by omega)
    have k2 := hf i 2 x hx (by omega)
    refine ⟨?_, ?_, ?_, hr.frozen _, hr.frozen _, hr.frozen _⟩
    · rw [hr.cell (by omega)]; exact congrArg some k0
    · rw [hr.cell (by omega)]; exact congrArg some k1
    · rw [hr.cell (by omega)]; exact congrArg some k2

theorem O3.set {w : World} {base g : Nat} {cap : Nat} {l : List T3} (h : O3 w base (some ⟨g, 0, none⟩) cap l) {k : Nat} (hk : k < l.length) (x : T3) :
    O3 (((w.setCell ⟨g, k * 3, none⟩ (.int .u32 x.1)).setCell ⟨g, k * 3 + 1, none⟩ (.int .u32 x.2.1)).setCell ⟨g, k * 3 + 2, none⟩ (.int .i32 x.2.2)) base (some ⟨g, 0, none⟩) cap (l.set k x) := by
  rcases h with ⟨h, _⟩ | ⟨g', f, e, hg, hn, hc, hr, hf⟩
  · cases h
  · cases e
    refine .inr ⟨g, _, rfl, hg, by simpa using hn, hc, ((hr.set _ _).set _ _).set _ _, fun i c y hi hcc => ?_⟩
    rw [List.getElem?_set] at hi
    by_cases e : k = i
    · subst e
      rw [if_pos rfl, if_pos hk] at hi
      cases hi
      match c, hcc with
      | 0, _ => simp [spV]
      | 1, _ => simp [spV]
      | 2, _ => simp [spV]
    · rw [if_neg e] at hi
      have := hf i c y hi hcc
      have n0 : i * 3 + c ≠ k * 3 := by omega
      have n1 : i * 3 + c ≠ k * 3 + 1 := by omega
      have n2 : i * 3 + c ≠ k * 3 + 2 := by omega
      simp only [n0, n1, n2, if_false]
      exact this

theorem O3.of_block {w w' : World} {base : Nat} {ao : Option Addr} {cap : Nat} {l : List T3} (h : O3 w base ao cap l) (k : ∀ g, ao = some ⟨g, 0, none⟩ → g < w.heap.size → w'.heap[g]? = w.heap[g]?) : O3 w' base ao cap l := by
  rcases h with h | ⟨g, f, e, hg, hn, hc, hr, hf⟩
  · exact .inl h
  · exact .inr ⟨g, f, e, hg, hn, hc, hr.of_block (k g e hr.lt), hf⟩

theorem Gr.own3 {w wr wr' : World} {ao : Option Addr} {cap : Nat} {l : List T3} (h : Gr w wr) (o : O3 wr w.heap.size ao cap l) (g : wr.grownBy wr' (blkOf ao)) : Gr w wr' :=
  ⟨g.os.trans h.os, g.tape.trans h.tape, g.output.trans h.output, Nat.le_trans h.size g.size, fun q hq => (g.block q (Nat.lt_of_lt_of_le hq h.size) (fun e => by
    rcases o with ⟨rfl, _⟩ | ⟨g', f, rfl, h4, _⟩
    · cases e
    · have := Option.some.inj e
      simp only at this
      omega)).trans (h.block q hq)⟩

theorem info55 : (Tryz.prog.info? 55).map (fun i => (i.zero, i.size, i.bytes)) = some (some (.agg #[.int .u32 0, .int .u32 0, .int .i32 0]), 3, 12) := by kernel_rfl

theorem appendO3 (base : Nat) (ao : Option Addr) (cap : Nat) (l : List T3) (x : T3) (w : World) (hown : O3 w base ao cap l) (hn : l.length + 1 ≤ 100000) (hbase : base ≤ w.heap.size) :
    ∃ g cap' w', (Builtin.append_ #[52, 52] 52 #[.slice ao l.length cap, .slice (some ⟨w.heap.size, 0, none⟩) 1 1]).run Tryz.prog (w.alloc (.cells #[.int .u32 x.1, .int .u32 x.2.1, .int .i32 x.2.2] 55)) = .ok (.slice (some ⟨g, 0, none⟩) (l.length + 1) cap') w' ∧
      O3 w' base (some ⟨g, 0, none⟩) cap' (l ++ [x]) ∧ w.grownBy w' (blkOf ao) ∧ (blkOf ao = some g ∨ w.heap.size ≤ g) := by
  obtain ⟨i, hi, hzz⟩ := Option.map_eq_some_iff.1 info55
  simp only [Prod.mk.injEq] at hzz
  obtain ⟨hz, hs, hb2⟩ := hzz
  have hown2 : O3 (w.alloc (.cells #[.int .u32 x.1, .int .u32 x.2.1, .int .i32 x.2.2] 55)) base ao cap l := hown.of_block fun g _ hlt => Below.heap_alloc _ _ _ hlt
  obtain ⟨g, cap', w', h2, h3, h4, h5, h6⟩ := run_append_lies (P := Tryz.prog) (w.alloc (.cells #[.int .u32 x.1, .int .u32 x.2.1, .int .i32 x.2.2] 55)) 52 52 base 55 i (.agg #[.int .u32 0, .int .u32 0, .int .i32 0]) 3 12 Tryz.underlying52 hi hz hs hb2 rfl (by omega) (.slice ao l.length cap) l.length (flatS l) hown2.owns ⟨w.heap.size, 0, none⟩ 1 1 (spV x) rfl
    (World.news_of_block (cs := #[.int .u32 x.1, .int .u32 x.2.1, .int .i32 x.2.2]) (alloc_new _ _)) (fun u hu => by simp [spV] at hu; rcases hu with rfl | rfl | rfl <;> rfl) (by omega) (by unfold maxLen; omega) (by omega) (by simp; omega) _ rfl
  rw [show flatS l ++ spV x = flatS (l ++ [x]) from by rw [flatS_append]; simp [flatS], show l.length + 1 = (l ++ [x]).length from by simp] at h3
  obtain ⟨ao', cap'', e1, e2⟩ := O3.of_owns h3
  cases e1
  rw [blkOf_own] at h4 h5
  refine ⟨g, cap', w', h2, e2, grownBy_trans (World.grownBy_alloc _ _ _) h4, h5.imp id fun h => ?_⟩
  rw [h]; simp
end Go.Proofs.Qxb6618911aGreat
