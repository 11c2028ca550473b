/-
  zzModelEntries.
-/
import Derived.Test.Qxb6618911aGreatEnt
import Derived.Lib.QuietBelow
namespace Go.Proofs.Qxb6618911aGreat
open Go.RowKit Go.Lib

/-- The first k spans, ascending, each once. -/
def EntIs (fl fh fs : Nat → Int) (k : Nat) (l : List T3) : Prop := l.Pairwise ltS ∧ l.length ≤ k ∧ ∀ x, x ∈ l ↔ ∃ i, i < k ∧ (fl i, fh i, fs i) = x

theorem EntIs.skip {fl fh fs : Nat → Int} {k : Nat} {l : List T3} (h : EntIs fl fh fs k l) (hm : (fl k, fh k, fs k) ∈ l) : EntIs fl fh fs (k + 1) l :=
  ⟨h.1, by have := h.2.1; omega, fun x => by
    rw [h.2.2]
    constructor
    · rintro ⟨i, a, b⟩; exact ⟨i, by omega, b⟩
    · rintro ⟨i, a, b⟩
      by_cases e : i = k
      · subst e; rw [← b]; exact (h.2.2 _).1 hm
      · exact ⟨i, by omega, b⟩⟩

theorem EntIs.add {fl fh fs : Nat → Int} {k j : Nat} {l : List T3} (h : EntIs fl fh fs k l) (hj : j ≤ l.length) (h1 : ∀ i x, i < j → l[i]? = some x → ltS x (fl k, fh k, fs k)) (h2 : ∀ x, l[j]? = some x → ltS (fl k, fh k, fs k) x) : EntIs fl fh fs (k + 1) (insF l j (fl k, fh k, fs k)) := by
  refine ⟨pair_insF h.1 h1 (fun i x hi hx => ?_), by rw [insF_len l _ hj]; have := h.2.1; omega, fun x => ?_⟩
  · by_cases e : i = j
    · subst e; exact h2 x hx
    · have hil : i < l.length := by
        rcases Nat.lt_or_ge i l.length with c | c
        · exact c
        · rw [List.getElem?_eq_none c] at hx; cases hx
      have hjl : j < l.length := by omega
      have a := h2 _ (List.getElem?_eq_getElem hjl)
      have b := List.pairwise_iff_getElem.1 h.1 j i hjl hil (by omega)
      rw [List.getElem?_eq_getElem hil] at hx
      rw [Option.some.inj hx] at b
      unfold ltS at a b ⊢
      omega
  · rw [mem_insF, h.2.2]
    constructor
    · rintro (rfl | ⟨i, a, b⟩)
      · exact ⟨k, by omega, rfl⟩
      · exact ⟨i, by omega, b⟩
    · rintro ⟨i, a, b⟩
      by_cases e : i = k
      · subst e; exact .inl b.symm
      · exact .inr ⟨i, by omega, b⟩

/-- Behind zzModelEntries. -/
def EntPost (w : World) (fl fh fs : Nat → Int) (n : Nat) (e : Ending) (w' : World) : Prop :=
  ∃ (ao : Option Addr) (cap : Nat) (l : List T3), e = .returned (.slice ao l.length cap) ∧ EntIs fl fh fs n l ∧ O3 w' w.heap.size ao cap l ∧ Gr w w'

set_option maxRecDepth 100000 in
set_option maxHeartbeats 8000000 in
theorem entries_any (la ha sa : Option Addr) (n c1 c2 c3 : Nat) (fl fh fs : Nat → Int) (w : World) (hn : n ≤ 1024) (h1 : Row w 0 w.heap.size la n (fun i => .int .u32 (fl i))) (h2 : Row w 0 w.heap.size ha n (fun i => .int .u32 (fh i))) (h3 : Row w 0 w.heap.size sa n (fun i => .int .i32 (fs i))) :
    Calls Tryz.prog 23 #[.slice la n c1, .slice ha n c2, .slice sa n c3] w fun e w' => EntPost w fl fh fs n e w' := by
  have H : Hid (Row w 0 w.heap.size la n (fun i => .int .u32 (fl i)) ∧ Row w 0 w.heap.size ha n (fun i => .int .u32 (fh i)) ∧ Row w 0 w.heap.size sa n (fun i => .int .i32 (fs i))) := ⟨h1, h2, h3⟩
  clear h1 h2 h3
  have mixed : Tryz.prog.follows .mixedOrders = true := by kernel_rfl
  go_enter Tryz.func23, Tryz.ntmps23
  go_wp2
  go_loopg [7, 8, 9, 10, 11] n (fun gk x7 x8 x9 x10 x11 wr => ∃ (k : Nat) (ao : Option Addr) (cap : Nat) (l : List T3), k ≤ n ∧ gk = n - k ∧ x7 = .slice ao l.length cap ∧ x8 = .int .i64 k ∧ Hid (EntIs fl fh fs k l ∧ O3 wr w.heap.size ao cap l ∧ Gr w wr))
  case atStart => exact ⟨0, none, 0, [], by omega, rfl, rfl, rfl, ⟨.nil, by simp, fun q => by simp⟩, .inl ⟨rfl, rfl, rfl⟩, Gr.refl _⟩
  case round =>
    obtain ⟨k, ao, cap, l, hk, hgk, rfl, rfl, HX⟩ := hrel
    by_cases hlt : k < n
    · have hlt' : (k : Int) < (n : Int) := by omega
      obtain ⟨b1, o1, rfl, d1⟩ := (HX.out.2.2.row H.out.1).cell (i := k) hlt
      obtain ⟨b2, o2, rfl, d2⟩ := (HX.out.2.2.row H.out.2.1).cell (i := k) hlt
      obtain ⟨b3, o3, rfl, d3⟩ := (HX.out.2.2.row H.out.2.2).cell (i := k) hlt
      have hlk := HX.out.1.2.1
      have l1 := lt_of_cell d1
      have l2 := lt_of_cell d2
      have l3 := lt_of_cell d3
      go_wp2
      go_region
      go_upto_block 2 with fail
      obtain ⟨sb, hsb⟩ : ∃ sb, sb = wr.heap.size := ⟨_, rfl⟩
      rw [← hsb]
      generalize hw1 : World.drew _ = w1
      have X1 : Hid (Gr w w1 ∧ O3 w1 w.heap.size ao cap l ∧ w1.cell? ⟨sb, 0, none⟩ = some (.int .u32 (fl k)) ∧ w1.cell? ⟨sb, 1, none⟩ = some (.int .u32 (fh k)) ∧ w1.cell? ⟨sb, 2, none⟩ = some (.int .i32 (fs k)) ∧ (ao = none ∨ blkOf ao ≠ some sb) ∧ True) := by
        have ga : Gr wr w1 := by
          rw [← hw1]
          exact (Gr.of_none (World.grownBy_alloc _ _ _)).trans (Gr.of_alk (Alk.drewN _ 1))
        have hb : w1.heap[sb]? = some (.cells #[.int .u32 (fl k), .int .u32 (fh k), .int .i32 (fs k)] 55) := by
          rw [← hw1, hsb]; exact alloc_new _ _
        refine ⟨HX.out.2.2.trans ga, HX.out.2.1.of_block fun g _ hlt => ga.block g hlt, by simp [World.cell?, hb], by simp [World.cell?, hb], by simp [World.cell?, hb], ?_, trivial⟩
        rcases HX.out.2.1 with ⟨h, _⟩ | ⟨g, f, e, _, _, _, hr, _⟩
        · exact .inl h
        · right
          rw [e]
          intro e2
          have := Option.some.inj e2
          have := hr.lt
          simp only at *
          omega
      have ENX : Hid (∀ j, j ≤ l.length → (∀ i x, i < j → l[i]? = some x → ltS x (fl k, fh k, fs k)) → (∀ x, l[j]? = some x → ltS (fl k, fh k, fs k) x) → EntIs fl fh fs (k + 1) (insF l j (fl k, fh k, fs k))) := fun j hj a b => HX.out.1.add hj a b
      have ENS : Hid ((fl k, fh k, fs k) ∈ l → EntIs fl fh fs (k + 1) l) := fun h => HX.out.1.skip h
      clear hw1 hsb HX d1 d2 d3 l1 l2 l3
      go_cut [10] (fun x10 wx => ∃ j : Nat, j ≤ l.length ∧ x10 = .int .i64 j ∧ Hid (Gr w1 wx) ∧ Hid ((∀ i y, i < j → l[i]? = some y → ltS y (fl k, fh k, fs k)) ∧ (∀ y, l[j]? = some y → ¬ ltS y (fl k, fh k, fs k))))
      case first =>
        go_wp2
        go_loopg [10] l.length (fun gk x10 wq => ∃ j : Nat, j ≤ l.length ∧ gk = l.length - j ∧ x10 = .int .i64 j ∧ Hid (Gr w1 wq) ∧ Hid (∀ i y, i < j → l[i]? = some y → ltS y (fl k, fh k, fs k)))
        case atStart => exact ⟨0, by omega, rfl, rfl, Gr.refl _, fun i y hi => by omega⟩
        case round =>
          obtain ⟨wq, rfl⟩ : ∃ wq, wq = wr := ⟨wr, rfl⟩
          obtain ⟨j, hj, hgj, rfl, HG, HJ⟩ := hrel
          by_cases hlj : j < l.length
          · have hlj' : (j : Int) < (l.length : Int) := by omega
            obtain ⟨y, hy⟩ : ∃ y, l[j]? = some y := ⟨l[j], List.getElem?_eq_getElem _⟩
            have s0 := HG.out.cell X1.out.2.2.1
            have s1 := HG.out.cell X1.out.2.2.2.1
            have s2 := HG.out.cell X1.out.2.2.2.2.1
            have o1 := X1.out.2.1.of_block (w' := wq) fun g _ hlt => HG.out.block g hlt
            obtain ⟨g, hao⟩ : ∃ g, ao = some ⟨g, 0, none⟩ := by
              rcases o1 with ⟨_, h, _⟩ | ⟨g, _, e, _⟩
              · rw [h] at hlj; simp at hlj
              · exact ⟨g, e⟩
            subst hao
            obtain ⟨a0, a1, a2, -⟩ := o1.cells hy
            have HY := Hid.intro hy
            have a0' := cell_regrown a0
            have a1' := cell_regrown a1
            have a2' := cell_regrown a2
            have s0' := cell_regrown s0
            have s1' := cell_regrown s1
            have s2' := cell_regrown s2
            clear o1 hy a0 a1 a2 s0 s1 s2
            by_cases hlt2 : ltS y (fl k, fh k, fs k)
            · have hc : ∀ d os, Calls Tryz.prog 42 #[.agg #[.int .u32 y.1, .int .u32 y.2.1, .int .i32 y.2.2], .agg #[.int .u32 (fl k), .int .u32 (fh k), .int .i32 (fs k)]] (Go.Sort.grow (redrawn wq d) os) fun e w' => e = .returned (.bool true) ∧ Below (Go.Sort.grow (redrawn wq d) os).heap.size (Go.Sort.grow (redrawn wq d) os) w' := fun d os => spanLess_any y (fl k, fh k, fs k) true _ (by simp [hlt2])
              have HLT := Hid.intro hlt2
              clear hlt2
              go_wp2
              refine wp_region_quiet_below mixed (by kernel_rfl) ?_
              repeat (quiet_step ((go_at_call 42; exact Calls.regrown_of (hc _ _))))
              refine wpQuiet_nil ?_
              intro wz hw'
              obtain ⟨⟨nq, osq⟩, hw''⟩ := hw'
              have HB : Hid (Gr wq wz) := by rw [hw'']; exact below_regrown _ _ _
              clear hw'' hc
              all_goals
                go_wp2
                go_roundg (l.length - (j + 1))
                case measure => omega
                case rel => exact ⟨j + 1, by omega, rfl, by go_num, HG.out.trans HB.out, fun i x hi hx => by
                  by_cases e : i = j
                  · subst e; rw [HY.out] at hx; cases hx; exact HLT.out
                  · exact HJ.out i x (by omega) hx⟩
            · have hc : ∀ d os, Calls Tryz.prog 42 #[.agg #[.int .u32 y.1, .int .u32 y.2.1, .int .i32 y.2.2], .agg #[.int .u32 (fl k), .int .u32 (fh k), .int .i32 (fs k)]] (Go.Sort.grow (redrawn wq d) os) fun e w' => e = .returned (.bool false) ∧ Below (Go.Sort.grow (redrawn wq d) os).heap.size (Go.Sort.grow (redrawn wq d) os) w' := fun d os => spanLess_any y (fl k, fh k, fs k) false _ (by simp [hlt2])
              have HLT := Hid.intro hlt2
              clear hlt2
              go_wp2
              refine wp_region_quiet_below mixed (by kernel_rfl) ?_
              repeat (quiet_step ((go_at_call 42; exact Calls.regrown_of (hc _ _))))
              refine wpQuiet_nil ?_
              intro wz hw'
              obtain ⟨⟨nq, osq⟩, hw''⟩ := hw'
              have HB : Hid (Gr wq wz) := by rw [hw'']; exact below_regrown _ _ _
              clear hw'' hc
              all_goals
                go_wp2
                go_meet
                exact ⟨j, hj, rfl, HG.out.trans HB.out, HJ.out, fun x hx => by rw [HY.out] at hx; cases hx; exact HLT.out⟩
          · obtain rfl : l.length = j := by omega
            have hnl : decide ((l.length : Int) < (l.length : Int)) = false := by simp
            go_wp2
            go_quiet (fail)
            go_wp2
            go_meet
            exact ⟨l.length, by omega, rfl, HG.out.trans (Gr.of_alk (Alk.drewN _ _)), HJ.out, fun x hx => by rw [List.getElem?_eq_none (Nat.le_refl _)] at hx; cases hx⟩
      case rest =>
        obtain ⟨j, hj, rfl, HG, HJ⟩ := hcut
        have s0 := HG.out.cell X1.out.2.2.1
        have s1 := HG.out.cell X1.out.2.2.2.1
        have s2 := HG.out.cell X1.out.2.2.2.2.1
        by_cases hlj : j < l.length
        · have hlj' : (j : Int) < (l.length : Int) := by omega
          obtain ⟨y, hy⟩ : ∃ y, l[j]? = some y := ⟨l[j], List.getElem?_eq_getElem _⟩
          have oc := X1.out.2.1.of_block (w' := wc) fun g _ hlt => HG.out.block g hlt
          obtain ⟨g0, hao⟩ : ∃ g, ao = some ⟨g, 0, none⟩ := by
            rcases oc with ⟨_, h, _⟩ | ⟨g, _, e, _⟩
            · rw [h] at hlj; simp at hlj
            · exact ⟨g, e⟩
          have oc2 := oc
          rw [hao] at oc2
          obtain ⟨a0, a1, a2, -⟩ := oc2.cells hy
          by_cases hyx : y = (fl k, fh k, fs k)
          · have q : ∀ w : World, (binOp .eql 55 (.agg #[.int .u32 y.1, .int .u32 y.2.1, .int .i32 y.2.2]) (.agg #[.int .u32 (fl k), .int .u32 (fh k), .int .i32 (fs k)])).run Tryz.prog w = .ok (.bool true) w := fun w => by
              have := eql55 y (fl k, fh k, fs k) w
              rw [decide_eq_true hyx] at this
              exact this
            have NX : Hid (EntIs fl fh fs (k + 1) l) := ENS.out (by rw [← hyx]; exact List.mem_of_getElem? hy)
            clear oc oc2 hy hyx
            have HAO := Hid.intro hao
            obtain ⟨y0, y1, y2⟩ := y
            subst hao
            go_wp2
            go_quiet (fail)
            go_wp2
            go_roundg (n - (k + 1))
            case measure => omega
            case rel => exact ⟨k + 1, _, cap, l, by omega, rfl, rfl, by go_num, NX.out, X1.out.2.1.of_block fun g _ hlt => (HG.out.trans (Gr.of_alk (Alk.drewN _ _))).block g hlt, X1.out.1.trans (HG.out.trans (Gr.of_alk (Alk.drewN _ _)))⟩
          · have q : ∀ w : World, (binOp .eql 55 (.agg #[.int .u32 y.1, .int .u32 y.2.1, .int .i32 y.2.2]) (.agg #[.int .u32 (fl k), .int .u32 (fh k), .int .i32 (fs k)])).run Tryz.prog w = .ok (.bool false) w := fun w => by
              have := eql55 y (fl k, fh k, fs k) w
              rw [decide_eq_false hyx] at this
              exact this
            have NXI : Hid (EntIs fl fh fs (k + 1) (insF l j (fl k, fh k, fs k))) := ENX.out j hj HJ.out.1 (fun x hx => by
              have h1 := HJ.out.2 x hx
              rw [hy] at hx
              cases hx
              obtain ⟨y0, y1, y2⟩ := y
              simp only [Prod.mk.injEq] at hyx
              unfold ltS at h1 ⊢
              simp only at *
              omega)
            clear oc oc2 hy hyx
            obtain ⟨y0, y1, y2⟩ := y
            subst hao
            go_wp2
            go_quiet (fail)
            clear a0 a1 a2 q
            generalize hwd : wc.drewN _ = wd
            have D1 : Hid (Gr wc wd ∧ Gr w wd ∧ O3 wd w.heap.size (some ⟨g0, 0, none⟩) cap l) := by
              have ad : Gr wc wd := by rw [← hwd]; exact Gr.of_alk (Alk.drewN _ _)
              exact ⟨ad, X1.out.1.trans (HG.out.trans ad), X1.out.2.1.of_block fun g _ hlt => (HG.out.trans ad).block g hlt⟩
            have sb0 := (HG.out.trans D1.out.1).cell X1.out.2.2.1
            have sb1 := (HG.out.trans D1.out.1).cell X1.out.2.2.2.1
            have sb2 := (HG.out.trans D1.out.1).cell X1.out.2.2.2.2.1
            clear hwd
            obtain ⟨g, cap', w5, r5, o5, g5, at5⟩ := appendO3 w.heap.size (some ⟨g0, 0, none⟩) cap l (fl k, fh k, fs k) wd D1.out.2.2 (by omega) D1.out.2.1.size
            dsimp only at r5
            have hsb := lt_of_cell sb0
            have hgne : sb ≠ g := by
              rcases at5 with h | h
              · intro e
                rcases X1.out.2.2.2.2.2.1 with h2 | h2
                · rw [h2] at h; cases h
                · exact h2 (by rw [h, e])
              · omega
            have hnb : some sb ≠ blkOf (some ⟨g0, 0, none⟩) := by
              rcases X1.out.2.2.2.2.2.1 with h2 | h2
              · rw [h2]; simp [blkOf]
              · exact fun e => h2 e.symm
            have O5 : Hid (O3 w5 w.heap.size (some ⟨g, 0, none⟩) cap' (l ++ [(fl k, fh k, fs k)]) ∧ Gr w w5 ∧ w5.cell? ⟨sb, 0, none⟩ = some (.int .u32 (fl k)) ∧ w5.cell? ⟨sb, 1, none⟩ = some (.int .u32 (fh k)) ∧ w5.cell? ⟨sb, 2, none⟩ = some (.int .i32 (fs k))) :=
              ⟨o5, D1.out.2.1.own3 D1.out.2.2 g5, g5.cell sb0 hnb, g5.cell sb1 hnb, g5.cell sb2 hnb⟩
            have hll : l.length ≤ 1024 := by omega
            clear o5 g5 at5 D1 hsb hnb
            go_wp2_with (at_builtin; refine Lib.wpList_append_run _ rfl _ _ _ _ rfl _ _ rfl rfl _ _ r5 ?_)
            clear r5 sb0 sb1 sb2
            go_loopg [11] (l.length - j) (fun gk x11 wr => ∃ m : Nat, j ≤ m ∧ m ≤ l.length ∧ gk = m - j ∧ x11 = .int .i64 m ∧ Hid (O3 wr w.heap.size (some ⟨g, 0, none⟩) cap' (shF (l ++ [(fl k, fh k, fs k)]) l.length m) ∧ Gr w wr ∧ wr.cell? ⟨sb, 0, none⟩ = some (.int .u32 (fl k)) ∧ wr.cell? ⟨sb, 1, none⟩ = some (.int .u32 (fh k)) ∧ wr.cell? ⟨sb, 2, none⟩ = some (.int .i32 (fs k))))
            case atStart => exact ⟨l.length, by omega, by omega, rfl, by go_num, by rw [shF_start _ (by simp)]; exact O5.out.1, O5.out.2⟩
            case round =>
              clear O5
              obtain ⟨m, hm1, hm2, hgm, rfl, HO⟩ := hrel
              by_cases hlm : j < m
              · have hlm' : (j : Int) < (m : Int) := by omega
                have hm3 : (m : Int) < (l.length : Int) + 1 := by omega
                obtain ⟨m', hm'⟩ : ∃ m', m = m' + 1 := ⟨m - 1, by omega⟩
                subst hm'
                obtain ⟨y, hy⟩ : ∃ y, l[m']? = some y := ⟨l[m'], List.getElem?_eq_getElem _⟩
                have ey : (l ++ [(fl k, fh k, fs k)])[m']! = y := by
                  rw [getL _ (by simp; omega), List.getElem_append_left (by omega)]
                  rw [List.getElem?_eq_getElem (by omega)] at hy
                  exact Option.some.inj hy
                obtain ⟨a0, a1, a2, -⟩ := HO.out.1.cells (i := m') (x := y) (by rw [shF_get _ (by omega), if_pos (by omega), ey])
                obtain ⟨b0, b1, b2, f0, f1, f2⟩ := HO.out.1.cells (i := m' + 1) (shF_get _ (by omega))
                have hm4 : (m' : Int) < (l.length : Int) + 1 := by omega
                have NX : Hid (O3 (((wr.setCell ⟨g, (m' + 1) * 3, none⟩ (.int .u32 y.1)).setCell ⟨g, (m' + 1) * 3 + 1, none⟩ (.int .u32 y.2.1)).setCell ⟨g, (m' + 1) * 3 + 2, none⟩ (.int .i32 y.2.2)) w.heap.size (some ⟨g, 0, none⟩) cap' (shF (l ++ [(fl k, fh k, fs k)]) l.length m') ∧ Gr w (((wr.setCell ⟨g, (m' + 1) * 3, none⟩ (.int .u32 y.1)).setCell ⟨g, (m' + 1) * 3 + 1, none⟩ (.int .u32 y.2.1)).setCell ⟨g, (m' + 1) * 3 + 2, none⟩ (.int .i32 y.2.2)) ∧ (((wr.setCell ⟨g, (m' + 1) * 3, none⟩ (.int .u32 y.1)).setCell ⟨g, (m' + 1) * 3 + 1, none⟩ (.int .u32 y.2.1)).setCell ⟨g, (m' + 1) * 3 + 2, none⟩ (.int .i32 y.2.2)).cell? ⟨sb, 0, none⟩ = some (.int .u32 (fl k)) ∧ (((wr.setCell ⟨g, (m' + 1) * 3, none⟩ (.int .u32 y.1)).setCell ⟨g, (m' + 1) * 3 + 1, none⟩ (.int .u32 y.2.1)).setCell ⟨g, (m' + 1) * 3 + 2, none⟩ (.int .i32 y.2.2)).cell? ⟨sb, 1, none⟩ = some (.int .u32 (fh k)) ∧ (((wr.setCell ⟨g, (m' + 1) * 3, none⟩ (.int .u32 y.1)).setCell ⟨g, (m' + 1) * 3 + 1, none⟩ (.int .u32 y.2.1)).setCell ⟨g, (m' + 1) * 3 + 2, none⟩ (.int .i32 y.2.2)).cell? ⟨sb, 2, none⟩ = some (.int .i32 (fs k))) := by
                  have gg := set3_grown wr g ((m' + 1) * 3) ((m' + 1) * 3 + 1) ((m' + 1) * 3 + 2) (.int .u32 y.1) (.int .u32 y.2.1) (.int .i32 y.2.2)
                  have ne : some sb ≠ some g := fun e => hgne (Option.some.inj e)
                  refine ⟨?_, HO.out.2.1.own3 HO.out.1 gg, gg.cell HO.out.2.2.1 ne, gg.cell HO.out.2.2.2.1 ne, gg.cell HO.out.2.2.2.2 ne⟩
                  have := shF_step (l ++ [(fl k, fh k, fs k)]) (n := l.length) (m := m' + 1) (by omega) hm2
                  rw [show m' + 1 - 1 = m' from rfl, ey] at this
                  rw [← this]
                  exact HO.out.1.set (by rw [shF_len]; omega) y
                clear hy ey HO
                go_wp2
                go_roundg (m' - j)
                case measure => omega
                case rel => exact ⟨m', by omega, by omega, rfl, by go_num, NX⟩
              · obtain rfl : j = m := by omega
                obtain ⟨b0, b1, b2, f0, f1, f2⟩ := HO.out.1.cells (i := j) (shF_get _ (by omega))
                have s0 := HO.out.2.2.1
                have s1 := HO.out.2.2.2.1
                have s2 := HO.out.2.2.2.2
                have hj4 : (j : Int) < (l.length : Int) + 1 := by omega
                have NX : Hid (O3 (((wr.setCell ⟨g, j * 3, none⟩ (.int .u32 (fl k))).setCell ⟨g, j * 3 + 1, none⟩ (.int .u32 (fh k))).setCell ⟨g, j * 3 + 2, none⟩ (.int .i32 (fs k))) w.heap.size (some ⟨g, 0, none⟩) cap' (insF l j (fl k, fh k, fs k)) ∧ Gr w (((wr.setCell ⟨g, j * 3, none⟩ (.int .u32 (fl k))).setCell ⟨g, j * 3 + 1, none⟩ (.int .u32 (fh k))).setCell ⟨g, j * 3 + 2, none⟩ (.int .i32 (fs k)))) := by
                  refine ⟨?_, HO.out.2.1.own3 HO.out.1 (set3_grown _ _ _ _ _ _ _ _)⟩
                  rw [← shF_end (n := l.length) l (fl k, fh k, fs k) (fl k, fh k, fs k) rfl (by omega)]
                  exact HO.out.1.set (by rw [shF_len]; omega) (fl k, fh k, fs k)
                clear HO
                go_wp2
                go_roundg (n - (k + 1))
                case measure => omega
                case rel => exact ⟨k + 1, some ⟨g, 0, none⟩, cap', insF l j (fl k, fh k, fs k), by omega, rfl, by rw [insF_len l _ (by omega)], by go_num, NXI.out, NX.out.1, NX.out.2⟩
        · obtain rfl : l.length = j := by omega
          have hnl : decide ((l.length : Int) < (l.length : Int)) = false := by simp
          have NXI : Hid (EntIs fl fh fs (k + 1) (insF l l.length (fl k, fh k, fs k))) := ENX.out l.length hj HJ.out.1 (fun x hx => by rw [List.getElem?_eq_none (Nat.le_refl _)] at hx; cases hx)
          go_wp2
          go_quiet (fail)
          generalize hwd : wc.drewN _ = wd
          have D1 : Hid (Gr wc wd ∧ Gr w wd ∧ O3 wd w.heap.size ao cap l) := by
            have ad : Gr wc wd := by rw [← hwd]; exact Gr.of_alk (Alk.drewN _ _)
            exact ⟨ad, X1.out.1.trans (HG.out.trans ad), X1.out.2.1.of_block fun g _ hlt => (HG.out.trans ad).block g hlt⟩
          have sb0 := (HG.out.trans D1.out.1).cell X1.out.2.2.1
          have sb1 := (HG.out.trans D1.out.1).cell X1.out.2.2.2.1
          have sb2 := (HG.out.trans D1.out.1).cell X1.out.2.2.2.2.1
          clear hwd
          obtain ⟨g, cap', w5, r5, o5, g5, at5⟩ := appendO3 w.heap.size ao cap l (fl k, fh k, fs k) wd D1.out.2.2 (by omega) D1.out.2.1.size
          dsimp only at r5
          have hsb := lt_of_cell sb0
          have hgne : sb ≠ g := by
            rcases at5 with h | h
            · intro e
              rcases X1.out.2.2.2.2.2.1 with h2 | h2
              · rw [h2] at h; cases h
              · exact h2 (by rw [h, e])
            · omega
          have hnb : some sb ≠ blkOf ao := by
            rcases X1.out.2.2.2.2.2.1 with h2 | h2
            · rw [h2]; simp [blkOf]
            · exact fun e => h2 e.symm
          have O5 : Hid (O3 w5 w.heap.size (some ⟨g, 0, none⟩) cap' (l ++ [(fl k, fh k, fs k)]) ∧ Gr w w5 ∧ w5.cell? ⟨sb, 0, none⟩ = some (.int .u32 (fl k)) ∧ w5.cell? ⟨sb, 1, none⟩ = some (.int .u32 (fh k)) ∧ w5.cell? ⟨sb, 2, none⟩ = some (.int .i32 (fs k))) :=
            ⟨o5, D1.out.2.1.own3 D1.out.2.2 g5, g5.cell sb0 hnb, g5.cell sb1 hnb, g5.cell sb2 hnb⟩
          have hll : l.length ≤ 1024 := by omega
          clear o5 g5 at5 D1 hsb hnb
          go_wp2_with (at_builtin; refine Lib.wpList_append_run _ rfl _ _ _ _ rfl _ _ rfl rfl _ _ r5 ?_)
          clear r5 sb0 sb1 sb2
          go_loopg [11] (l.length - l.length) (fun gk x11 wr => ∃ m : Nat, l.length ≤ m ∧ m ≤ l.length ∧ gk = m - l.length ∧ x11 = .int .i64 m ∧ Hid (O3 wr w.heap.size (some ⟨g, 0, none⟩) cap' (shF (l ++ [(fl k, fh k, fs k)]) l.length m) ∧ Gr w wr ∧ wr.cell? ⟨sb, 0, none⟩ = some (.int .u32 (fl k)) ∧ wr.cell? ⟨sb, 1, none⟩ = some (.int .u32 (fh k)) ∧ wr.cell? ⟨sb, 2, none⟩ = some (.int .i32 (fs k))))
          case atStart => exact ⟨l.length, by omega, by omega, rfl, by go_num, by rw [shF_start _ (by simp)]; exact O5.out.1, O5.out.2⟩
          case round =>
            clear O5
            obtain ⟨m, hm1, hm2, hgm, rfl, HO⟩ := hrel
            by_cases hlm : l.length < m
            · exfalso; omega
            · obtain rfl : l.length = m := by omega
              obtain ⟨b0, b1, b2, f0, f1, f2⟩ := HO.out.1.cells (i := l.length) (shF_get _ (by omega))
              have s0 := HO.out.2.2.1
              have s1 := HO.out.2.2.2.1
              have s2 := HO.out.2.2.2.2
              have hj4 : (l.length : Int) < (l.length : Int) + 1 := by omega
              have NX : Hid (O3 (((wr.setCell ⟨g, l.length * 3, none⟩ (.int .u32 (fl k))).setCell ⟨g, l.length * 3 + 1, none⟩ (.int .u32 (fh k))).setCell ⟨g, l.length * 3 + 2, none⟩ (.int .i32 (fs k))) w.heap.size (some ⟨g, 0, none⟩) cap' (insF l l.length (fl k, fh k, fs k)) ∧ Gr w (((wr.setCell ⟨g, l.length * 3, none⟩ (.int .u32 (fl k))).setCell ⟨g, l.length * 3 + 1, none⟩ (.int .u32 (fh k))).setCell ⟨g, l.length * 3 + 2, none⟩ (.int .i32 (fs k)))) := by
                refine ⟨?_, HO.out.2.1.own3 HO.out.1 (set3_grown _ _ _ _ _ _ _ _)⟩
                rw [← shF_end (n := l.length) l (fl k, fh k, fs k) (fl k, fh k, fs k) rfl (by omega)]
                exact HO.out.1.set (by rw [shF_len]; omega) (fl k, fh k, fs k)
              clear HO
              go_wp2
              go_roundg (n - (k + 1))
              case measure => omega
              case rel => exact ⟨k + 1, some ⟨g, 0, none⟩, cap', insF l l.length (fl k, fh k, fs k), by omega, rfl, by rw [insF_len l _ (by omega)], by go_num, NXI.out, NX.out.1, NX.out.2⟩
    · obtain rfl : n = k := by omega
      go_wp2
      go_ret
      exact ⟨ao, cap, l, rfl, HX.out.1, HX.out.2.1, HX.out.2.2⟩
end Go.Proofs.Qxb6618911aGreat
