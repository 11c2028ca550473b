/-
  zzNumberSets.
-/
import Derived.Test.Qxb6618911aGreatRuns
namespace Go.Proofs.Qxb6618911aGreat
open Go.RowKit Go.Lib

set_option maxRecDepth 20000 in
set_option maxHeartbeats 1000000 in
theorem sameI32_drew (a b : Option Addr) (B B' n m c1 c2 : Nat) (f g : Nat → Int) (r : Bool) (w : World) (hn : n ≤ 1000000) (hm : m ≤ 1000000) (h1 : Row w 0 B a n (fun i => .int .i32 (f i))) (h2 : Row w 0 B' b m (fun i => .int .i32 (g i))) (hr : r = true ↔ n = m ∧ ∀ i, i < n → f i = g i) :
    Calls Tryz.prog 28 #[.slice a n c1, .slice b m c2] w fun e w' => e = .returned (.bool r) ∧ ∃ q, w' = w.drewN q := by
  have H1 : Hid (Row w 0 B a n (fun i => .int .i32 (f i))) := h1
  have H2 : Hid (Row w 0 B' b m (fun i => .int .i32 (g i))) := h2
  have HR : Hid (r = true ↔ n = m ∧ ∀ i, i < n → f i = g i) := hr
  clear h1 h2 hr
  by_cases hnm : n = m
  case neg =>
    have c1' : ((n : Int) != (m : Int)) = true := by simpa using (show ¬ (n : Int) = m by omega)
    obtain rfl : r = false := by
      rcases r with _ | _
      · rfl
      · exact absurd (HR.out.1 rfl).1 hnm
    go_enter Tryz.func28, Tryz.ntmps28
    go_wp2
    go_ret
    exact ⟨rfl, 0, rfl⟩
  subst hnm
  go_enter Tryz.func28, Tryz.ntmps28
  go_wp2
  go_loopw [5] (fun i wr => ∃ k : Nat, k ≤ n ∧ i = .int .i64 k ∧ Hid (∃ q, wr = w.drewN q) ∧ Hid (∀ i, i < k → f i = g i)) (fun i _ => n - (intOf i).toNat)
  case atStart => exact ⟨0, Nat.zero_le _, rfl, ⟨0, rfl⟩, fun i hi => by omega⟩
  case round =>
    obtain ⟨k, hk, rfl, ha, hs⟩ := hrel
    by_cases hlt : k < n
    · obtain ⟨bl, ol, rfl, hl⟩ := H1.out.cell hlt
      obtain ⟨bh, oh, rfl, hh⟩ := H2.out.cell hlt
      obtain ⟨q, hq⟩ := ha.out
      rw [← World.cell?_drewN (w := w) (n := q), ← hq] at hl hh
      have HQ : Hid (wr = w.drewN q) := hq
      clear ha hq
      have hlt' : (k : Int) < (n : Int) := by omega
      by_cases e : f k = g k
      · have e' : (f k != g k) = false := by simpa using e
        have E : Hid (f k = g k) := e
        clear e
        go_wp2
        go_quiet (fail)
        go_wp2
        go_roundw
        case rel => exact ⟨k + 1, by omega, by go_num, ⟨_, by rw [HQ.out, World.drewN_drewN]⟩, fun i hi => by
          by_cases e : i = k
          · subst e; exact E.out
          · exact hs.out i (by omega)⟩
        case measure => simp [intOf]; omega
      · have e' : (f k != g k) = true := by simpa using e
        obtain rfl : r = false := by
          rcases r with _ | _
          · rfl
          · exact absurd ((HR.out.1 rfl).2 k hlt) e
        clear e
        go_wp2
        go_quiet (fail)
        go_wp2
        go_ret
        exact ⟨rfl, _, by rw [HQ.out, World.drewN_drewN]⟩
    · obtain rfl : n = k := by omega
      obtain rfl : r = true := HR.out.2 ⟨by simp, hs.out⟩
      go_wp2
      go_ret
      exact ⟨rfl, ha.out⟩

/-- The numbering of the covers. -/
def nstep (st : List Int × List (List Int)) (zs : List Int) : List Int × List (List Int) := (st.1 ++ [((tabN st.2 zs).idxOf zs : Int)], tabN st.2 zs)
def nfold (C : List (List Int)) : List Int × List (List Int) := C.foldl nstep ([], [[]])

theorem nfold_snoc (C : List (List Int)) (zs : List Int) : nfold (C ++ [zs]) = nstep (nfold C) zs := by
  unfold nfold; rw [List.foldl_append]; rfl

theorem nfold_len : ∀ (n : Nat) (C : List (List Int)), C.length = n → (nfold C).1.length = n ∧ (nfold C).2.length ≤ n + 1
  | 0, C, hn => by rw [List.length_eq_zero_iff.1 hn]; simp [nfold]
  | n + 1, C, hn => by
    have hne : C ≠ [] := by rintro rfl; simp at hn
    obtain ⟨qs, p, rfl⟩ : ∃ qs p, C = qs ++ [p] := ⟨_, _, (List.dropLast_concat_getLast hne).symm⟩
    rw [nfold_snoc]
    have ih := nfold_len n qs (by simpa using hn)
    have := tabN_len (nfold qs).2 p
    refine ⟨by simp [nstep, ih.1], ?_⟩
    show (tabN (nfold qs).2 p).length ≤ _
    omega

theorem nfold_mem : ∀ (n : Nat) (C : List (List Int)), C.length = n → ∀ zs ∈ (nfold C).2, zs = [] ∨ zs ∈ C
  | 0, C, hn => by rw [List.length_eq_zero_iff.1 hn]; intro zs hz; simp [nfold] at hz; exact .inl hz
  | n + 1, C, hn => by
    have hne : C ≠ [] := by rintro rfl; simp at hn
    obtain ⟨qs, p, rfl⟩ : ∃ qs p, C = qs ++ [p] := ⟨_, _, (List.dropLast_concat_getLast hne).symm⟩
    rw [nfold_snoc]
    have ih := nfold_mem n qs (by simpa using hn)
    intro zs hz
    rcases tabN_mem hz with h | h
    · exact (ih zs h).imp id fun h => List.mem_append_left _ h
    · exact .inr (by rw [h]; simp)

theorem first_is {D : List (List Int)} {zs : List Int} {k : Nat} (h1 : ∀ j x, j < k → D[j]? = some x → x ≠ zs) (h2 : D[k]? = some zs) : tabN D zs = D ∧ (tabN D zs).idxOf zs = k := by
  have hm : zs ∈ D := List.mem_of_getElem? h2
  have he : tabN D zs = D := by unfold tabN; rw [if_pos hm]
  rw [he]
  refine ⟨rfl, ?_⟩
  have hi := List.idxOf_lt_length_iff.2 hm
  have hg := List.getElem_idxOf hi
  rcases Nat.lt_trichotomy (D.idxOf zs) k with c | c | c
  · exact absurd hg (h1 _ _ c (List.getElem?_eq_getElem hi))
  · exact c
  · exfalso
    have hk : k < D.length := by omega
    have := List.not_of_lt_findIdx (p := fun x => x == zs) (xs := D) (i := k) c
    rw [List.getElem?_eq_getElem hk] at h2
    rw [Option.some.inj h2] at this
    simp at this

theorem first_none {D : List (List Int)} {zs : List Int} (h1 : ∀ j x, j < D.length → D[j]? = some x → x ≠ zs) : tabN D zs = D ++ [zs] ∧ (tabN D zs).idxOf zs = D.length := by
  have hm : zs ∉ D := fun h => by
    obtain ⟨j, hj, e⟩ := List.getElem_of_mem h
    exact h1 j _ hj (List.getElem?_eq_getElem hj) e
  have he : tabN D zs = D ++ [zs] := by unfold tabN; rw [if_neg hm]
  rw [he]
  refine ⟨rfl, ?_⟩
  rw [List.idxOf_append, if_neg hm]
  simp

/-- Slices of ids, each read through its own row. -/
def RowsOf (w : World) (D : List (List Int)) (dv : List Value) : Prop :=
  ∀ (k : Nat) (zs : List Int), D[k]? = some zs → ∃ (ao : Option Addr) (cap : Nat), dv[k]? = some (Value.slice ao zs.length cap) ∧ Row w 0 w.heap.size ao zs.length (fun i => .int .i32 zs[i]!)

theorem RowsOf.gr {w w' : World} {D : List (List Int)} {dv : List Value} (h : RowsOf w D dv) (g : Gr w w') : RowsOf w' D dv := fun k zs hk => by
  obtain ⟨ao, cap, h1, h2⟩ := h k zs hk
  exact ⟨ao, cap, h1, g.row h2⟩

theorem CovRows.rowsOf {w : World} {base : Nat} {C : List (List Int)} {cv : List Value} (h : CovRows w base C cv) : RowsOf w C cv := fun k zs hk => by
  obtain ⟨ao, cap, h1, h2⟩ := h k zs hk
  exact ⟨ao, cap, h1, h2.rowI32⟩

theorem RowsOf.snoc {w : World} {C : List (List Int)} {cv : List Value} {ys : List Int} {ao : Option Addr} {cap : Nat} (h : RowsOf w C cv) (hl : cv.length = C.length) (ho : Row w 0 w.heap.size ao ys.length (fun i => .int .i32 ys[i]!)) : RowsOf w (C ++ [ys]) (cv ++ [.slice ao ys.length cap]) := fun k zs hk => by
  by_cases hc : k < C.length
  · rw [List.getElem?_append_left hc] at hk
    obtain ⟨ao', cap', h1, h2⟩ := h k zs hk
    exact ⟨ao', cap', by rw [List.getElem?_append_left (by omega)]; exact h1, h2⟩
  · have hk' : k = C.length := by
      rcases Nat.lt_or_ge C.length k with c | c
      · rw [List.getElem?_eq_none (by simp; omega)] at hk; cases hk
      · omega
    subst hk'
    rw [List.getElem?_append_right (by omega)] at hk
    simp at hk
    subst hk
    exact ⟨ao, cap, by rw [List.getElem?_append_right (by omega), hl]; simp, ho⟩

/-- Amid the numbering: i covers done; the numbers lie at block w.heap.size + 1. -/
structure NR (w : World) (n i : Nat) (st : List Int × List (List Int)) (da : Option Addr) (dc : Nat) (dv : List Value) (wr : World) : Prop where
  gr : Gr w wr
  nums : wr.rowIs (w.heap.size + 1) 41 n (fun j => if j < i then .int .u32 st.1[j]! else .int .u32 0)
  ds : OR wr w.heap.size 24 da st.2.length dc dv
  rows : RowsOf w st.2 dv

namespace NR
variable {w : World} {n i : Nat} {st : List Int × List (List Int)} {da : Option Addr} {dc : Nat} {dv : List Value} {wr wr' : World}

theorem grown (h : NR w n i st da dc dv wr) (g : Gr wr wr') : NR w n i st da dc dv wr' :=
  ⟨h.gr.trans g, g.rowIs h.nums, h.ds.of_block fun b _ hb => g.block b hb, h.rows⟩

theorem len (h : NR w n i st da dc dv wr) : dv.length = st.2.length := h.ds.1

/-- The cell of a set. -/
theorem at_ (h : NR w n i st da dc dv wr) {k : Nat} {zs : List Int} (hk : st.2[k]? = some zs) : ∃ g ao cap, da = some ⟨g, 0, none⟩ ∧ wr.cell? ⟨g, k, none⟩ = some (.slice ao zs.length cap) ∧ Row wr 0 wr.heap.size ao zs.length (fun i => .int .i32 zs[i]!) := by
  obtain ⟨ao, cap, h1, h2⟩ := h.rows k zs hk
  have hkl : k < st.2.length := by
    rcases Nat.lt_or_ge k st.2.length with c | c
    · exact c
    · rw [List.getElem?_eq_none c] at hk; cases hk
  obtain ⟨g, v, e1, _, e3, e4, _⟩ := h.ds.cell hkl
  rw [h1] at e3
  exact ⟨g, ao, cap, e1, by rw [e4, Option.some.inj e3], h.gr.row h2⟩

/-- The number stored, the sets as they stand. -/
theorem number (h : NR w n i st da dc dv wr) (hl : st.1.length = i) {x : Int} {D : List (List Int)} (hD : D = st.2) : NR w n (i + 1) (st.1 ++ [x], D) da dc dv (wr.setCell ⟨w.heap.size + 1, i, none⟩ (.int .u32 x)) := by
  subst hD
  have g : wr.grownBy (wr.setCell ⟨w.heap.size + 1, i, none⟩ (.int .u32 x)) (some (w.heap.size + 1)) := setCell_grown _ _ _ _
  have hne : ∀ q, da = some ⟨q, 0, none⟩ → some q ≠ some (w.heap.size + 1) := OR.ne2 h.nums h.ds (by decide)
  refine ⟨⟨g.os.trans h.gr.os, g.tape.trans h.gr.tape, g.output.trans h.gr.output, Nat.le_trans h.gr.size g.size, fun q hq => (g.block q (Nat.lt_of_lt_of_le hq h.gr.size) (fun e => by have := Option.some.inj e; omega)).trans (h.gr.block q hq)⟩, ?_, h.ds.grown g hne, h.rows⟩
  · refine (h.nums.set i _).congr fun j hj => ?_
    by_cases e : j = i
    · subst e
      simp only [if_pos, Nat.lt_succ_self]
      rw [getL _ (by simp; omega), List.getElem_append_right (by omega)]
      simp [hl]
    · by_cases e2 : j < i
      · simp only [e, e2, if_false, if_true, show j < i + 1 from by omega]
        rw [getL _ (by omega), getL _ (by simp; omega), List.getElem_append_left (by omega)]
      · simp [e, e2, show ¬ j < i + 1 from by omega]

/-- A new set. -/
theorem push (h : NR w n i st da dc dv wr) (hlen : st.2.length ≤ 100000) (zs : List Int) (ao : Option Addr) (cap : Nat) (ho : Row w 0 w.heap.size ao zs.length (fun i => .int .i32 zs[i]!)) :
    ∃ g c3 w6, (Builtin.append_ #[46, 46] 46 #[.slice da st.2.length dc, .slice (some ⟨wr.heap.size, 0, none⟩) 1 1]).run Tryz.prog (wr.alloc (.cells #[.slice ao zs.length cap] 24)) = .ok (.slice (some ⟨g, 0, none⟩) (st.2.length + 1) c3) w6 ∧
      NR w n i (st.1, st.2 ++ [zs]) (some ⟨g, 0, none⟩) c3 (dv ++ [.slice ao zs.length cap]) w6 := by
  have hs := h.gr.size
  have f1 : FrT w.heap.size ([] : List TypeId) wr (wr.alloc (.cells #[.slice ao zs.length cap] 24)) := FrT.alloc _ _
  obtain ⟨g', c3, w6, r6, o6, g6, at6⟩ := appendOR 46 24 (.slice none 0 0) 24 Tryz.underlying46 info24l rfl (by omega) w.heap.size da st.2.length dc _ _ (f1.own h.ds (by simp)) wr.heap.size 1 [.slice ao zs.length cap] rfl (by omega) (alloc_new _ _) (fun u hu => by simp at hu; subst hu; rfl) (by omega) (by simp; omega)
  have f6 : FrT w.heap.size [24] (wr.alloc (.cells #[.slice ao zs.length cap] 24)) w6 := OR.fr (f1.own h.ds (by simp)) g6 (by simp)
  refine ⟨g', c3, w6, r6, ?_, f6.row (f1.row h.nums (by simp)) (by decide), by simpa using o6, h.rows.snoc h.len ho⟩
  have k2 : Gr w (wr.alloc (.cells #[.slice ao zs.length cap] 24)) := h.gr.trans (Gr.of_none (World.grownBy_alloc _ _ _))
  exact k2.own (f1.own h.ds (by simp)) g6
end NR

/-- Behind zzNumberSets. -/
def NumPost (w : World) (C : List (List Int)) (e : Ending) (w' : World) : Prop :=
  ∃ (da : Option Addr) (dc : Nat) (dv : List Value), e = .returned (.tuple #[.slice (some ⟨w.heap.size + 1, 0, none⟩) C.length C.length, .slice da (nfold C).2.length dc]) ∧ NR w C.length C.length (nfold C) da dc dv w'

set_option maxRecDepth 100000 in
set_option maxHeartbeats 4000000 in
theorem number_any (ca : Option Addr) (c' : Nat) (cv : List Value) (C : List (List Int)) (base : Nat) (w : World) (hn : C.length ≤ 3000) (h1 : OR w base 24 ca C.length c' cv) (h2 : CovRows w base C cv) (h3 : ∀ zs ∈ C, zs.length ≤ 1000000) :
    Calls Tryz.prog 20 #[.slice ca C.length c'] w fun e w' => NumPost w C e w' := by
  have H : Hid (OR w base 24 ca C.length c' cv ∧ RowsOf w C cv ∧ ∀ zs ∈ C, zs.length ≤ 1000000) := ⟨h1, h2.rowsOf, h3⟩
  clear h1 h2 h3
  have mk := fun w => run_make_row' (P := Tryz.prog) 23 41 (.int .u32 0) 4 Tryz.underlying23 info41l rfl .i64 .i64 C.length (by omega) (by omega) w
  go_enter Tryz.func20, Tryz.ntmps20
  go_wp2
  clear mk
  go_loopg [4, 6, 7] C.length (fun gk x4 x6 x7 wr => ∃ (i : Nat) (da : Option Addr) (dc : Nat) (dv : List Value) (st : List Int × List (List Int)), i ≤ C.length ∧ gk = C.length - i ∧ x4 = .slice da st.2.length dc ∧ x6 = .int .i64 i ∧ Hid (st = nfold (C.take i) ∧ NR w C.length i st da dc dv wr))
  case atStart =>
    refine ⟨0, some ⟨w.heap.size, 0, none⟩, 1, [.slice none 0 0], ([], [[]]), by omega, rfl, rfl, rfl, rfl, ?_, ?_, ?_, ?_⟩
    · exact (Gr.of_none (World.grownBy_alloc _ _ _)).trans (Gr.of_none (World.grownBy_alloc _ _ _))
    · have := World.rowIs_made (w.alloc (.cells #[.slice none 0 0] 24)) (.int .u32 0) C.length 41
      rw [show (w.alloc (.cells #[.slice none 0 0] 24)).heap.size = w.heap.size + 1 from by simp] at this
      exact this.congr fun j _ => by simp
    · refine ⟨rfl, .inr ⟨w.heap.size, _, rfl, Nat.le_refl _, Nat.le_refl _, by unfold maxLen; omega, (rowIs_of_block (alloc_new _ _)).of_block (Below.heap_alloc _ _ _ (by simp)), fun j hj => ?_⟩⟩
      have : j = 0 := by simp at hj; omega
      subst this
      rfl
    · intro k zs hk
      have : k = 0 ∧ zs = [] := by
        rcases k with _ | k
        · simp at hk; exact ⟨rfl, hk⟩
        · simp at hk
      obtain ⟨rfl, rfl⟩ := this
      exact ⟨none, 0, rfl, fun i hi => by simp at hi⟩
  case round =>
    obtain ⟨i, da, dc, dv, st, hi, hgk, rfl, rfl, HX⟩ := hrel
    by_cases hlt : i < C.length
    · have hlt' : (i : Int) < (C.length : Int) := by omega
      obtain ⟨zs, hzs⟩ : ∃ zs, C[i]? = some zs := ⟨C[i], List.getElem?_eq_getElem _⟩
      have hsl := nfold_len _ (C.take i) rfl
      rw [← HX.out.1, List.length_take, Nat.min_eq_left hi] at hsl
      have hsb : st.2.length ≤ 3001 := by omega
      obtain ⟨zao, zcap, ez, rz⟩ := H.out.2.1 i zs hzs
      obtain ⟨cg, u, rfl, -, eu, cu, -⟩ := H.out.1.cell hlt
      rw [ez] at eu
      obtain rfl : u = .slice zao zs.length zcap := (Option.some.inj eu).symm
      have hzl := H.out.2.2 zs (List.mem_of_getElem? hzs)
      have NEXT : Hid (nfold (C.take (i + 1)) = nstep st zs ∧ st.1.length = i) := ⟨by rw [take_snoc hzs, nfold_snoc, ← HX.out.1], hsl.1⟩
      have CU := Hid.intro cu
      have RZ := Hid.intro rz
      have HS := Hid.intro HX.out.1
      replace HX : Hid (NR w C.length i st da dc dv wr) := HX.out.2
      clear hzs ez eu cu rz hsl
      go_upto_block 2 with fail
      go_cut [7] (fun x7 wx => ∃ k : Nat, k ≤ st.2.length ∧ x7 = .int .i64 k ∧ Hid (Gr wr wx) ∧ Hid ((∀ j x, j < k → st.2[j]? = some x → x ≠ zs) ∧ (k = st.2.length ∨ st.2[k]? = some zs)))
      case first =>
        go_wp2
        go_loopg [7] st.2.length (fun gk x7 wq => ∃ k : Nat, k ≤ st.2.length ∧ gk = st.2.length - k ∧ x7 = .int .i64 k ∧ Hid (Gr wr wq) ∧ Hid (∀ j x, j < k → st.2[j]? = some x → x ≠ zs))
        case atStart => exact ⟨0, by omega, rfl, rfl, Gr.refl _, fun j x hj => by omega⟩
        case round =>
          obtain ⟨wq, rfl⟩ : ∃ wq, wq = wr := ⟨wr, rfl⟩
          obtain ⟨k, hk, hgk2, rfl, HG, HJ⟩ := hrel
          by_cases hlk : k < st.2.length
          · have hlk' : (k : Int) < (st.2.length : Int) := by omega
            obtain ⟨ys, hys⟩ : ∃ ys, st.2[k]? = some ys := ⟨st.2[k], List.getElem?_eq_getElem _⟩
            have hyl : ys.length ≤ 1000000 := by
              have hm := List.mem_of_getElem? hys
              rw [HS.out] at hm
              rcases nfold_mem _ (C.take i) rfl ys hm with h | h
              · rw [h]; simp
              · exact H.out.2.2 ys (List.mem_of_mem_take h)
            obtain ⟨g, yao, ycap, rfl, cy, ry⟩ := (HX.out.grown HG.out).at_ hys
            have gq : Gr w wq := HX.out.gr.trans HG.out
            have cu := gq.cell CU.out
            have rz := gq.row RZ.out
            have hcall : ∀ (r : Bool), (r = true ↔ ys = zs) → ∀ q, Calls Tryz.prog 28 #[.slice yao ys.length ycap, .slice zao zs.length zcap] (wq.drewN q) fun e w' => e = .returned (.bool r) ∧ ∃ m, w' = (wq.drewN q).drewN m := fun r hr q =>
              sameI32_drew yao zao wq.heap.size wq.heap.size ys.length zs.length ycap zcap (fun i => ys[i]!) (fun i => zs[i]!) r (wq.drewN q) hyl hzl ry rz (hr.trans (list_eq_iff ys zs))
            have HY := Hid.intro hys
            clear hys ry rz gq
            by_cases e : ys = zs
            · have hc := hcall true (by simp [e])
              have E := Hid.intro e
              clear hcall e
              go_wp2
              go_quiet ((go_at_call 28; exact Calls.quiet_of (hc _)))
              go_wp2
              go_meet
              exact ⟨k, hk, rfl, HG.out.trans (Gr.of_alk (Alk.drewN _ _)), HJ.out, .inr (by rw [HY.out, E.out])⟩
            · have hc := hcall false (by simp [e])
              have E := Hid.intro e
              clear hcall e
              go_wp2
              go_quiet ((go_at_call 28; exact Calls.quiet_of (hc _)))
              go_wp2
              go_roundg (st.2.length - (k + 1))
              case measure => omega
              case rel => exact ⟨k + 1, by omega, rfl, by go_num, HG.out.trans (Gr.of_alk (Alk.drewN _ _)), fun j x hj hx => by
                by_cases ej : j = k
                · subst ej; rw [HY.out] at hx; cases hx; exact E.out
                · exact HJ.out j x (by omega) hx⟩
          · obtain rfl : st.2.length = k := by omega
            have hnl : decide ((st.2.length : Int) < (st.2.length : Int)) = false := by simp
            go_wp2
            go_quiet (fail)
            go_wp2
            go_meet
            exact ⟨st.2.length, by omega, rfl, HG.out.trans (Gr.of_alk (Alk.drewN _ _)), HJ.out, .inl rfl⟩
      case rest =>
        obtain ⟨k, hk, rfl, HG, HK⟩ := hcut
        have X2 := Hid.intro (HX.out.grown HG.out)
        by_cases hkl : k = st.2.length
        · subst hkl
          obtain ⟨t1, t2⟩ := first_none HK.out.1
          have cu := X2.out.gr.cell CU.out
          obtain ⟨g, c3, w6, r6, n6⟩ := X2.out.push (by omega) zs zao zcap RZ.out
          have c5 := n6.nums.cell hlt
          have f5 := n6.nums.frozen i
          have NX := Hid.intro (n6.number NEXT.out.2 (x := (st.2.length : Int)) (D := st.2 ++ [zs]) rfl)
          have EQ : Hid (nstep st zs = (st.1 ++ [(st.2.length : Int)], st.2 ++ [zs])) := by
            show (_, _) = _
            rw [t2, t1]
          have hw : IntKind.u32.wrap (st.2.length : Int) = (st.2.length : Int) := by rw [IntKind.wrap_u32]; omega
          clear n6 t1 t2 X2 HK
          go_wp2_with (at_builtin; refine Lib.wpList_append_run _ rfl _ _ _ _ rfl _ _ rfl rfl _ _ r6 ?_)
          go_roundg (C.length - (i + 1))
          case measure => omega
          case rel => exact ⟨i + 1, some ⟨g, 0, none⟩, c3, _, (st.1 ++ [(st.2.length : Int)], st.2 ++ [zs]), by omega, rfl, by simp, by go_num, by rw [NEXT.out.1, EQ.out], NX.out⟩
        · have hkD : st.2[k]? = some zs := by
            rcases HK.out.2 with h | h
            · exact absurd h hkl
            · exact h
          obtain ⟨t1, t2⟩ := first_is HK.out.1 hkD
          have hne : ((k : Int) == (st.2.length : Int)) = false := beq_eq_false_iff_ne.2 (by omega)
          have c5 := X2.out.nums.cell hlt
          have f5 := X2.out.nums.frozen i
          have NX := Hid.intro (X2.out.number NEXT.out.2 (x := (k : Int)) (D := st.2) rfl)
          have EQ : Hid (nstep st zs = (st.1 ++ [(k : Int)], st.2)) := by
            show (_, _) = _
            rw [t2, t1]
          have hw : IntKind.u32.wrap (k : Int) = (k : Int) := by rw [IntKind.wrap_u32]; omega
          clear t1 t2 X2 HK hkD hkl
          go_wp2
          go_roundg (C.length - (i + 1))
          case measure => omega
          case rel => exact ⟨i + 1, da, dc, dv, (st.1 ++ [(k : Int)], st.2), by omega, rfl, rfl, by go_num, by rw [NEXT.out.1, EQ.out], NX.out⟩
    · obtain rfl : C.length = i := by omega
      have hfin : st = nfold C := by rw [HX.out.1, List.take_length]
      have FIN := Hid.intro hfin
      clear hfin
      go_wp2
      refine bodyPost_ret (v := .tuple #[.slice (some ⟨w.heap.size + 1, 0, none⟩) C.length C.length, .slice da st.2.length dc]) (by simp [results, Tryz.results20, go_sem]) rfl ?_
      exact ⟨da, dc, dv, by rw [← FIN.out], by rw [← FIN.out]; exact HX.out.2⟩
end Go.Proofs.Qxb6618911aGreat
