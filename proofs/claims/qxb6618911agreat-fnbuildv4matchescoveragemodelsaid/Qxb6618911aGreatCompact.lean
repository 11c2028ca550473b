/-
  slices.Compact and slices.Clip at spans.
-/
import Derived.Test.Qxb6618911aGreatRow3
import Derived.Deep.QuietTactic
import Derived.BigQuiet
import Derived.Deep.LoopGhost
namespace Go.Proofs.Qxb6618911aGreat
open Go.RowKit Go.Lib

/-- Function f, turned at one place. -/
def upd {α : Type} (f : Nat → α) (k : Nat) (x : α) : Nat → α := fun j => if j = k then x else f j
theorem upd_same {α : Type} (f : Nat → α) (k : Nat) (x : α) : upd f k x k = x := if_pos rfl
theorem upd_other {α : Type} (f : Nat → α) {k j : Nat} (x : α) (h : j ≠ k) : upd f k x j = f j := if_neg h

/-- Three stores: one element of a row of three-celled elements is turned. -/
theorem R3.set {enc : Int × Int × Int → List Value} {w : World} {b n : Nat} {d : Nat → Int × Int × Int} (h : R3 enc w b n d) (x : Int × Int × Int) {k : Nat} (hk : k < n) :
    R3 enc (((w.setCell ⟨b, k * 3, none⟩ (enc x)[0]!).setCell ⟨b, k * 3 + 1, none⟩ (enc x)[1]!).setCell ⟨b, k * 3 + 2, none⟩ (enc x)[2]!) b n (upd d k x) := by
  intro i hi c hc
  refine ⟨?_, by rw [World.frozen?_setCell, World.frozen?_setCell, World.frozen?_setCell]; exact (h i hi c hc).2⟩
  by_cases e : i = k
  · subst e
    rw [upd_same]
    have c0 := (h i hi 0 (by omega)).1
    have c1 := (h i hi 1 (by omega)).1
    have c2 := (h i hi 2 (by omega)).1
    rw [Nat.add_zero] at c0
    have ne : ∀ p q : Nat, p ≠ q → (⟨b, p, none⟩ : Addr) ≠ ⟨b, q, none⟩ := fun p q h e => h (by cases e; rfl)
    match c, hc with
    | 0, _ =>
      show World.cell? _ ⟨b, i * 3, none⟩ = _
      rw [World.cell?_setCell_other _ _ _ _ (ne _ _ (by omega)), World.cell?_setCell_other _ _ _ _ (ne _ _ (by omega)), World.cell?_setCell_same _ _ _ c0]
    | 1, _ =>
      rw [World.cell?_setCell_other _ _ _ _ (ne _ _ (by omega)), World.cell?_setCell_same _ _ _ (u := (enc (d i))[1]!) (by rw [World.cell?_setCell_other _ _ _ _ (ne _ _ (by omega))]; exact c1)]
    | 2, _ =>
      rw [World.cell?_setCell_same _ _ _ (u := (enc (d i))[2]!) (by rw [World.cell?_setCell_other _ _ _ _ (ne _ _ (by omega)), World.cell?_setCell_other _ _ _ _ (ne _ _ (by omega))]; exact c2)]
  · have ne : ∀ p : Nat, p < 3 → (⟨b, k * 3 + p, none⟩ : Addr) ≠ ⟨b, i * 3 + c, none⟩ := fun p hp e => by
      have : k * 3 + p = i * 3 + c := by injection e
      omega
    rw [upd_other _ _ e, World.cell?_setCell_other _ _ _ _ (ne 2 (by omega)), World.cell?_setCell_other _ _ _ _ (ne 1 (by omega)), World.cell?_setCell_other _ ⟨b, k * 3, none⟩ _ _ (ne 0 (by omega))]
    exact (h i hi c hc).1

theorem set3_grown (w : World) (b p q r : Nat) (x y z : Value) : w.grownBy (((w.setCell ⟨b, p, none⟩ x).setCell ⟨b, q, none⟩ y).setCell ⟨b, r, none⟩ z) (some b) := by
  have one : ∀ (w : World) (p : Nat) (x : Value), w.grownBy (w.setCell ⟨b, p, none⟩ x) (some b) := fun w p x =>
    ⟨rfl, rfl, rfl, by simp [World.setCell], fun k _ hne => Below.heap_setCell _ _ _ _ (fun e => hne (by rw [e]))⟩
  exact grownBy_trans (grownBy_trans (one _ _ _) (one _ _ _)) (one _ _ _)

theorem ddn_len_le (d : Nat → Int × Int × Int) : ∀ k, (ddn d k).length ≤ k
  | 0 => by simp [ddn]
  | k + 1 => by
    have := ddn_len_le d k
    unfold ddn
    split
    · omega
    · simp; omega

theorem ddn_distinct (d : Nat → Int × Int × Int) : ∀ k, (∀ j, 0 < j → j < k → d j ≠ d (j - 1)) → ddn d k = (List.range k).map d
  | 0, _ => rfl
  | k + 1, h => by
    unfold ddn
    rw [if_neg (fun hx => h k hx.1 (by omega) hx.2), ddn_distinct d k (fun j h1 h2 => h j h1 (by omega)), List.range_succ, List.map_append]
    rfl

/-- Behind slices.Compact. -/
def CompPost (w : World) (blk n cap : Nat) (d : Nat → Int × Int × Int) (e : Ending) (w' : World) : Prop :=
  e = .returned (.slice (some ⟨blk, 0, none⟩) (ddn d n).length cap) ∧ R3 spV w' blk (ddn d n).length (fun i => (ddn d n)[i]!) ∧ w.grownBy w' (some blk)

theorem clear3 (w : World) (b o n c : Nat) (hn : 0 < n) (hc : ∀ j, j < n * 3 → (w.cell? ⟨b, o + j, none⟩).isSome = true) (hf : ∀ j, j < n * 3 → w.frozen? ⟨b, o + j, none⟩ = false) :
    ∃ Z, ∀ ty, (Builtin.clear_ #[67] ty #[.slice (some ⟨b, o, none⟩) n c]).run Tryz.prog w = .ok (.tuple #[]) (w.setCells b o Z) := by
  have hv := Tryz.zeroValue73
  obtain ⟨Z, hZ, hl, h1⟩ : ∃ Z : List Value, (Builtin.zeroCells (Value.agg #[.int .u32 0, .int .u32 0, .int .i32 0]).cells n).toList = Z ∧ Z.length = n * 3 ∧ ∀ v ∈ Z, v.oneCell' = true := by
    refine ⟨_, rfl, by simp [Builtin.zeroCells, Value.cells], fun v hv => ?_⟩
    simp [Builtin.zeroCells, Value.cells] at hv
    obtain ⟨i, _, rfl⟩ := hv
    have : i % 3 = 0 ∨ i % 3 = 1 ∨ i % 3 = 2 := by omega
    rcases this with h | h | h <;> simp [h] <;> rfl
  have hst := run_storeCells_cells (P := Tryz.prog) b o Z 0 w (by rw [hl]; simpa using hc) (by rw [hl]; simpa using hf) h1
  simp only [Nat.add_zero] at hst
  obtain ⟨m, rfl⟩ : ∃ m, n = m + 1 := ⟨n - 1, by omega⟩
  exact ⟨Z, fun ty => by simp [Builtin.clear_, run_underlying Tryz.underlying67, hv, hZ, hst]⟩

theorem R3.three {w : World} {b n : Nat} {d : Nat → Int × Int × Int} (h : R3 spV w b n d) {i : Nat} (hi : i < n) :
    w.cell? ⟨b, i * 3, none⟩ = some (.int .u32 (d i).1) ∧ w.cell? ⟨b, i * 3 + 1, none⟩ = some (.int .u32 (d i).2.1) ∧ w.cell? ⟨b, i * 3 + 2, none⟩ = some (.int .i32 (d i).2.2) ∧
      w.frozen? ⟨b, i * 3, none⟩ = false ∧ w.frozen? ⟨b, i * 3 + 1, none⟩ = false ∧ w.frozen? ⟨b, i * 3 + 2, none⟩ = false :=
  ⟨(h i hi 0 (by omega)).1, (h i hi 1 (by omega)).1, (h i hi 2 (by omega)).1, (h i hi 0 (by omega)).2, (h i hi 1 (by omega)).2, (h i hi 2 (by omega)).2⟩

theorem Alk.grown {w w' : World} (h : Alk w' w) (row : Option Nat) : w.grownBy w' row := ⟨h.os, h.tape, h.output, by rw [h.heap]; exact Nat.le_refl _, fun _ _ _ => by rw [h.heap]⟩

theorem R3.alk {enc : Int × Int × Int → List Value} {w w' : World} {b n : Nat} {d : Nat → Int × Int × Int} (h : R3 enc w b n d) (a : Alk w' w) : R3 enc w' b n d := h.of_block (by rw [a.heap])

theorem ddn_step (d : Nat → Int × Int × Int) {q : Nat} (hq : 0 < q) : ddn d (q + 1) = if d q = d (q - 1) then ddn d q else ddn d q ++ [d q] := by
  show (if 0 < q ∧ d q = d (q - 1) then ddn d q else ddn d q ++ [d q]) = _
  by_cases h : d q = d (q - 1)
  · rw [if_pos ⟨hq, h⟩, if_pos h]
  · rw [if_neg (fun x => h x.2), if_neg h]

theorem neqS (x y : Int × Int × Int) (w : World) : (binOp .neq 73 (.agg #[.int .u32 x.1, .int .u32 x.2.1, .int .i32 x.2.2]) (.agg #[.int .u32 y.1, .int .u32 y.2.1, .int .i32 y.2.2])).run Tryz.prog w = .ok (.bool (!decide (x = y))) w := by
  have u71 := Tryz.underlying71
  have a71 := Tryz.isAgg71
  have z71 := Tryz.sizeOf71
  have u21 := Tryz.underlying21
  have a21 := Tryz.isAgg21
  have z21 := Tryz.sizeOf21
  have hS : Tryz.prog.underlying 73 = some (.struct (Tryz.prog.fieldsOf 73)) := by kernel_rfl
  have hp : Tryz.prog.stoodInHeld 73 = false := by kernel_rfl
  rw [run_neq_struct, show (10000 : Nat) = 9999 + 1 from rfl, run_equalIn_agg w 9999 73 _ _ hS hp]
  simp only [Program.fieldsOf, Tryz.underlying73]
  go_simp
  obtain ⟨a, b, c⟩ := x
  obtain ⟨a', b', c'⟩ := y
  by_cases h1 : a = a' <;> by_cases h2 : b = b' <;> by_cases h3 : c = c' <;> simp [h1, h2, h3]

/-- Amid Compact's second loop: m kept, q looked at. -/
structure Mid (w wr : World) (blk n : Nat) (d D : Nat → Int × Int × Int) (m q : Nat) : Prop where
  row : R3 spV wr blk n D
  len : m = (ddn d q).length
  le : m + 1 ≤ q
  pos : 0 < m
  low : ∀ i, i < m → D i = (ddn d q)[i]!
  high : ∀ i, q ≤ i + 1 → D i = d i
  grown : w.grownBy wr (some blk)

theorem mid_start {w wr : World} {blk n k : Nat} {d : Nat → Int × Int × Int} (hd : ∀ j, 0 < j → j < k + 1 → d j ≠ d (j - 1)) (hc : d (k + 1) = d k) (hr : R3 spV wr blk n d) (hg : w.grownBy wr (some blk)) : Mid w wr blk n d d (k + 1) (k + 1 + (0 + 1)) := by
  have hdd : ddn d (k + 1 + (0 + 1)) = (List.range (k + 1)).map d := by
    show ddn d ((k + 1) + 1) = _
    rw [ddn_step d (by omega), if_pos (show d (k + 1) = d (k + 1 - 1) from hc), ddn_distinct d (k + 1) hd]
  exact ⟨hr, by rw [hdd]; simp, by omega, by omega, fun i hi => by rw [hdd, getElem!_pos _ _ (by simpa using hi)]; simp, fun i _ => rfl, hg⟩

theorem Mid.same {w wr wr' : World} {blk n m q : Nat} {d D : Nat → Int × Int × Int} (h : Mid w wr blk n d D m q) (a : Alk wr' wr) (hc : d q = d (q - 1)) : Mid w wr' blk n d D m (q + 1) := by
  have hq : 0 < q := by have := h.le; omega
  have hdd := ddn_step d hq
  rw [if_pos hc] at hdd
  exact ⟨h.row.alk a, by rw [hdd]; exact h.len, by have := h.le; omega, h.pos, fun i hi => by rw [hdd]; exact h.low i hi, fun i hi => h.high i (by omega), grownBy_trans h.grown (a.grown _)⟩

theorem Mid.next {w wr wr' : World} {blk n m q : Nat} {d D : Nat → Int × Int × Int} (h : Mid w wr blk n d D m q) (hr : R3 spV wr' blk n (upd D m (d q))) (hg : wr.grownBy wr' (some blk)) (hc : ¬ d q = d (q - 1)) : Mid w wr' blk n d (upd D m (d q)) (m + 1) (q + 1) := by
  have hq : 0 < q := by have := h.le; omega
  have hdd := ddn_step d hq
  rw [if_neg hc] at hdd
  have hl := h.len
  have hle := h.le
  refine ⟨hr, by rw [hdd]; simp; exact hl, by omega, by omega, fun i hi => ?_, fun i hi => by rw [upd_other _ _ (by omega)]; exact h.high i (by omega), grownBy_trans h.grown hg⟩
  rw [hdd]
  by_cases e : i = m
  · subst e
    rw [upd_same, getElem!_pos _ _ (by simp; omega)]
    rw [List.getElem_append_right (by omega)]
    simp
  · rw [upd_other _ _ e, h.low i (by omega), getElem!_pos _ _ (by omega), getElem!_pos _ _ (by simp; omega), List.getElem_append_left (by omega)]

set_option maxRecDepth 100000 in
set_option maxHeartbeats 2000000 in
theorem compact_any (blk n cap : Nat) (d : Nat → Int × Int × Int) (w : World) (hn : n ≤ 100000) (hnc : n ≤ cap) (hR : R3 spV w blk n d) :
    Calls Tryz.prog 49 #[.slice (some ⟨blk, 0, none⟩) n cap] w fun e w' => CompPost w blk n cap d e w' := by
  have HR : Hid (R3 spV w blk n d) := hR
  clear hR
  by_cases hn2 : n < 2
  · go_enter Tryz.func49, Tryz.ntmps49
    go_wp2
    go_ret
    have hdd : ddn d n = (List.range n).map d := ddn_distinct d n (fun j h1 h2 => by omega)
    have hl : (ddn d n).length = n := by rw [hdd]; simp
    refine ⟨by rw [hl]; rfl, ?_, (Alk.refl _).grown _⟩
    rw [hl]
    refine HR.out.congr fun i hi => ?_
    rw [hdd, getElem!_pos _ _ (by simpa using hi)]
    simp
  go_enter Tryz.func49, Tryz.ntmps49
  go_wp2
  go_loopg [3] n (fun gk i wr => ∃ k : Nat, k + 1 ≤ n ∧ gk = n - k ∧ i = .int .i64 ((k : Int) + 1) ∧ Alk wr w ∧ Hid (∀ j, 0 < j → j < k + 1 → d j ≠ d (j - 1)))
  case atStart => exact ⟨0, by omega, rfl, rfl, Alk.refl _, fun j h1 h2 => by omega⟩
  case round =>
    obtain ⟨k, hk, hgk, rfl, ha, hd⟩ := hrel
    by_cases hlt : k + 1 < n
    · obtain ⟨a0, a1, a2, _⟩ := (HR.out.alk ha).three hlt
      obtain ⟨b0, b1, b2, _⟩ := (HR.out.alk ha).three (show k < n by omega)
      have HA : Hid (Alk wr w) := ha
      clear ha
      have hlt' : (k : Int) + 1 < (n : Int) := by omega
      have hlt2 : (k : Int) < (n : Int) := by omega
      have he := fun w => eqlS (d (k + 1)) (d k) w
      by_cases c : d (k + 1) = d k
      · have c' : decide (d (k + 1) = d k) = true := by simpa using c
        rw [c'] at he
        have C : Hid (d (k + 1) = d k) := c
        clear c c'
        go_wp2
        go_quiet (fail)
        go_wp2
        have C2 := C.out
        go_loopg [3, 5] n (fun gk x3 x5 wr => ∃ (m t : Nat) (D : Nat → Int × Int × Int), k + 1 + (t + 1) ≤ n ∧ gk = n - t ∧ x3 = .int .i64 (m : Int) ∧ x5 = .int .i64 ((t : Int) + 1) ∧ Mid w wr blk n d D m (k + 1 + (t + 1)))
        case atStart => exact ⟨k + 1, 0, d, by omega, rfl, by go_num, rfl, mid_start hd.out C.out (HR.out.alk ((Alk.drewN _ _).trans HA.out)) (((Alk.drewN _ _).trans HA.out).grown _)⟩
        case round =>
          obtain ⟨m, t, D, ht, hgk2, rfl, rfl, hM⟩ := hrel
          clear C2
          by_cases hlt : k + 1 + (t + 1) < n
          · obtain ⟨a0, a1, a2, _⟩ := hM.row.three hlt
            obtain ⟨b0, b1, b2, _⟩ := hM.row.three (show k + 1 + t < n by omega)
            rw [hM.high _ (by omega)] at a0 a1 a2 b0 b1 b2
            have hmn : m < n := by have := hM.le; omega
            obtain ⟨m0, m1, m2, f0, f1, f2⟩ := hM.row.three hmn
            rw [show (k + 1 + (t + 1)) * 3 = (k + 1) * 3 + (t + 1) * 3 from by omega] at a0 a1 a2
            rw [show (k + 1 + t) * 3 = (k + 1) * 3 + t * 3 from by omega] at b0 b1 b2
            have hlt1 : (t : Int) + 1 < ((n - (k + 1) : Nat) : Int) := by omega
            have hlt2 : (t : Int) < ((n - (k + 1) : Nat) : Int) := by omega
            have hlt3 : (m : Int) < (n : Int) := by omega
            have he := fun w => neqS (d (k + 1 + (t + 1))) (d (k + 1 + t)) w
            have HM : Hid (Mid w wr blk n d D m (k + 1 + (t + 1))) := hM
            clear hM
            by_cases c : d (k + 1 + (t + 1)) = d (k + 1 + t)
            · have c' : (!decide (d (k + 1 + (t + 1)) = d (k + 1 + t))) = false := by simpa using c
              rw [c'] at he
              have C : Hid (d (k + 1 + (t + 1)) = d (k + 1 + t)) := c
              clear c c'
              go_wp2
              go_quiet (fail)
              go_wp2
              go_roundg (n - (t + 1))
              case measure => omega
              case rel => exact ⟨m, t + 1, D, by omega, rfl, rfl, by go_num, HM.out.same (Alk.drewN _ _) C.out⟩
            · have c' : (!decide (d (k + 1 + (t + 1)) = d (k + 1 + t))) = true := by simpa using c
              rw [c'] at he
              have C : Hid (¬ d (k + 1 + (t + 1)) = d (k + 1 + t)) := c
              clear c c'
              go_wp2
              go_quiet (fail)
              go_wp2
              go_roundg (n - (t + 1))
              case measure => omega
              case rel => exact ⟨m + 1, t + 1, _, by omega, rfl, by go_num, by go_num, HM.out.next ((HM.out.row.alk (Alk.drewN _ _)).set (d (k + 1 + (t + 1))) hmn) (grownBy_trans ((Alk.drewN _ _).grown _) (set3_grown _ _ _ _ _ _ _ _)) C.out⟩
          · obtain rfl : n = k + 1 + (t + 1) := by omega
            have hlt1 : ((k + 1 + (t + 1) - (k + 1) : Nat) : Int) = (t : Int) + 1 := by omega
            have hm1 := hM.le
            have hmn : (m : Int) ≤ ((k + 1 + (t + 1) : Nat) : Int) := by omega
            have hmc : (m : Int) ≤ (cap : Int) := by omega
            have hmc2 : ¬ cap = m := by omega
            obtain ⟨Z, hZ⟩ := clear3 wr blk (m * 3) (k + 1 + (t + 1) - m) (cap - m) (by omega) (fun j hj => by
              have := (hM.row ((m * 3 + j) / 3) (by omega) ((m * 3 + j) % 3) (by omega)).1
              rw [show (m * 3 + j) / 3 * 3 + (m * 3 + j) % 3 = m * 3 + j from by omega] at this
              rw [this]; rfl) (fun j hj => by
              have := (hM.row ((m * 3 + j) / 3) (by omega) ((m * 3 + j) % 3) (by omega)).2
              rwa [show (m * 3 + j) / 3 * 3 + (m * 3 + j) % 3 = m * 3 + j from by omega] at this)
            have HM : Hid (Mid w wr blk (k + 1 + (t + 1)) d D m (k + 1 + (t + 1))) := hM
            clear hM
            go_wp2
            go_ret
            have hl := HM.out.len
            refine ⟨by rw [← hl]; rfl, ?_, grownBy_trans HM.out.grown (grownBy_setCells _ _)⟩
            rw [← hl]
            intro i hi c hc
            refine ⟨?_, ?_⟩
            · rw [World.cell?_setCells_out _ _ _ _ _ (fun _ _ => Or.inl (show i * 3 + c < m * 3 by omega))]
              rw [(HM.out.row i (by omega) c hc).1, HM.out.low i hi]
            · rw [World.frozen?_setCells]
              exact (HM.out.row i (by omega) c hc).2
      · have c' : decide (d (k + 1) = d k) = false := by simpa using c
        rw [c'] at he
        have C : Hid (¬ d (k + 1) = d k) := c
        clear c c'
        go_wp2
        go_quiet (fail)
        go_wp2
        go_roundg (n - (k + 1))
        case measure => omega
        case rel => exact ⟨k + 1, by omega, rfl, by go_num, (Alk.drewN _ _).trans HA.out, fun j h1 h2 => by
          by_cases e : j = k + 1
          · subst e; exact C.out
          · exact hd.out j h1 (by omega)⟩
    · obtain rfl : n = k + 1 := by omega
      have HA : Hid (Alk wr w) := ha
      clear ha
      go_wp2
      go_ret
      have hdd : ddn d (k + 1) = (List.range (k + 1)).map d := ddn_distinct d (k + 1) hd.out
      have hl : (ddn d (k + 1)).length = k + 1 := by rw [hdd]; simp
      refine ⟨by rw [hl]; rfl, ?_, HA.out.grown _⟩
      rw [hl]
      refine (HR.out.alk HA.out).congr fun i hi => ?_
      rw [hdd, getElem!_pos _ _ (by simpa using hi)]
      simp

/-- slices.Clip. -/
theorem clip_some (blk n cap : Nat) (w : World) (hnc : n ≤ cap) :
    Calls Tryz.prog 48 #[.slice (some ⟨blk, 0, none⟩) n cap] w fun e w' => e = .returned (.slice (some ⟨blk, 0, none⟩) n n) ∧ Alk w' w := by
  go_enter Tryz.func48, Tryz.ntmps48
  go_wp2
  go_ret
  exact ⟨rfl, Alk.refl _⟩
theorem clip_none (w : World) :
    Calls Tryz.prog 48 #[.slice none 0 0] w fun e w' => e = .returned (.slice none 0 0) ∧ Alk w' w := by
  go_enter Tryz.func48, Tryz.ntmps48
  go_wp2
  go_ret
  exact ⟨rfl, Alk.refl _⟩
theorem compact_none (w : World) :
    Calls Tryz.prog 49 #[.slice none 0 0] w fun e w' => e = .returned (.slice none 0 0) ∧ Alk w' w := by
  go_enter Tryz.func49, Tryz.ntmps49
  go_wp2
  go_ret
  exact ⟨rfl, Alk.refl _⟩
theorem clip6_none (w : World) :
    Calls Tryz.prog 54 #[.slice none 0 0] w fun e w' => e = .returned (.slice none 0 0) ∧ Alk w' w := by
  go_enter Tryz.func54, Tryz.ntmps54
  go_wp2
  go_ret
  exact ⟨rfl, Alk.refl _⟩
theorem compact6_none (w : World) :
    Calls Tryz.prog 55 #[.slice none 0 0] w fun e w' => e = .returned (.slice none 0 0) ∧ Alk w' w := by
  go_enter Tryz.func55, Tryz.ntmps55
  go_wp2
  go_ret
  exact ⟨rfl, Alk.refl _⟩

end Go.Proofs.Qxb6618911aGreat
