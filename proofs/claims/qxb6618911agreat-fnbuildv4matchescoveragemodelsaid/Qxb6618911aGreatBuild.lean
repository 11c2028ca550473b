/-
  Build.
-/
import Derived.Test.Qxb6618911aGreatIdx
import Derived.Deep.CutBlock
import Derived.Deep.DeepCutAuto
namespace Go.Proofs.Qxb6618911aGreat
open Go.RowKit Go.Lib

/-- The builder's cells, as Build reads them. -/
def BCell (bb : Nat) (nao : Option Addr) (nn ncap : Nat) (sao : Option Addr) (n : Nat) (wx : World) : Prop :=
  wx.cell? ⟨bb, 0, none⟩ = some (.slice nao nn ncap) ∧ wx.cell? ⟨bb, 2, none⟩ = some (.slice sao n n) ∧ wx.cell? ⟨bb, 3, none⟩ = some (.slice none 0 0)

theorem BCell.of_row {bb : Nat} {nao : Option Addr} {nn ncap : Nat} {mv : Value} {sao : Option Addr} {n : Nat} {wx : World} (h : wx.rowIs bb 70 4 (bG nao nn ncap mv sao n)) : BCell bb nao nn ncap sao n wx :=
  ⟨h.cell (i := 0) (by omega), h.cell (i := 2) (by omega), h.cell (i := 3) (by omega)⟩

/-- What Build is given. -/
structure BArg (w : World) (bb : Nat) (nao : Option Addr) (nn ncap : Nat) (nm : Nat → ByteArray) (mv : Value) (sao : Option Addr) (n : Nat) (d : Nat → Int × Int × Int) (lo : Nat) : Prop where
  hn : n ≤ 1024
  hnn : nn ≤ 4096
  row : w.rowIs bb 70 4 (bG nao nn ncap mv sao n)
  names : Row w 0 lo nao nn (fun i => Value.string (nm i))
  lob : lo ≤ bb
  spans : (n = 0 ∧ sao = none) ∨ (0 < n ∧ ∃ sb, sao = some ⟨sb, 0, none⟩ ∧ sb ≠ bb ∧ lo ≤ sb ∧ R3 spV w sb n d)
  ok : ∀ i, i < n → 0 ≤ (d i).1 ∧ (d i).1 ≤ (d i).2.1 ∧ (d i).2.1 ≤ 4294967295 ∧ 0 ≤ (d i).2.2 ∧ (d i).2.2 < nn

theorem OR.ne2 {w : World} {base g : Nat} {t e : TypeId} {n m cap : Nat} {f : Nat → Value} {ao : Option Addr} {xs : List Value} (h : w.rowIs g t n f) (h' : OR w base e ao m cap xs) (ht : t ≠ e) : ∀ q, ao = some ⟨q, 0, none⟩ → some q ≠ some g :=
  fun q e c => OR.ne h h' ht (by rw [e]; exact c.symm)

theorem Hid.intro {p : Prop} (h : p) : Hid p := h

namespace BArg
variable {w w1 : World} {bb : Nat} {nao : Option Addr} {nn ncap : Nat} {nm : Nat → ByteArray} {mv : Value} {sao : Option Addr} {n : Nat} {d : Nat → Int × Int × Int} {lo : Nat}

theorem sne (h : BArg w bb nao nn ncap nm mv sao n d lo) : some bb ≠ blkOf sao := by
  rcases h.spans with ⟨_, rfl⟩ | ⟨_, sb, rfl, h1, _⟩
  · simp [blkOf]
  · intro e; exact h1 (Option.some.inj e).symm

theorem row1 (h : BArg w bb nao nn ncap nm mv sao n d lo) (g : w.grownBy w1 none) : w1.rowIs bb 70 4 (bG nao nn ncap mv sao n) := h.row.of_block (g.block _ h.row.lt (by simp))

theorem len (_h : BArg w bb nao nn ncap nm mv sao n d lo) : (spanL n d).length ≤ n := ddn_len_le _ n

theorem lok (h : BArg w bb nao nn ncap nm mv sao n d lo) : ∀ x ∈ spanL n d, 0 ≤ x.1 ∧ x.1 ≤ x.2.1 ∧ x.2.1 ≤ 4294967295 ∧ 0 ≤ x.2.2 ∧ x.2.2 < nn := fun x hx => by
  obtain ⟨j, hj, rfl⟩ := ((spanL_spec n d).2 x).1 hx
  exact h.ok j hj

theorem c33 (h : BArg w bb nao nn ncap nm mv sao n d lo) (g : w.grownBy w1 none) (wx : World) (hb : B0 w1 wx) :
    Calls Tryz.prog 33 #[.slice sao n n] wx fun e w' => ∃ rb r, e = .returned (.agg #[.slice sao (spanL n d).length (spanL n d).length, .slice (some ⟨rb, 0, none⟩) (spanL n d).length (spanL n d).length]) ∧ Hid (B1 w1 sao (spanL n d) rb r w') ∧ BCell bb nao nn ncap sao n w' := by
  have key : ∀ rb r e w', e = Ending.returned (.agg #[.slice sao (spanL n d).length (spanL n d).length, .slice (some ⟨rb, 0, none⟩) (spanL n d).length (spanL n d).length]) → (∀ blk, sao = some ⟨blk, 0, none⟩ → R3 spV w' blk (spanL n d).length (fun i => (spanL n d)[i]!)) →
      w'.rowIs rb 71 (spanL n d).length (fun k => .int .u32 (r k)) → RO (fun k => (spanL n d)[k]!.2.1) r 0 (spanL n d).length → wx.heap.size ≤ rb → wx.grownBy w' (blkOf sao) →
      ∃ rb r, e = .returned (.agg #[.slice sao (spanL n d).length (spanL n d).length, .slice (some ⟨rb, 0, none⟩) (spanL n d).length (spanL n d).length]) ∧ Hid (B1 w1 sao (spanL n d) rb r w') ∧ BCell bb nao nn ncap sao n w' := fun rb r e w' he h1 h2 h3 h4 h5 => by
    have hg : w1.grownBy w' (blkOf sao) := ⟨h5.os.trans hb.os, h5.tape.trans hb.tape, h5.output.trans hb.output, Nat.le_trans hb.size h5.size, fun q hq hn => (h5.block q (Nat.lt_of_lt_of_le hq hb.size) hn).trans (hb.block q hq (by simp))⟩
    exact ⟨rb, r, he, ⟨h1, h2, h3, Nat.le_trans hb.size h4, hg⟩, BCell.of_row ((h.row1 g).of_block (hg.block _ (h.row1 g).lt h.sne))⟩
  rcases h.spans with ⟨rfl, rfl⟩ | ⟨h0, sb, rfl, h1, h2, h3⟩
  · refine (newTree_none wx).mono ?_
    rintro e w' ⟨rb, r, he, t1, t2, t3, t4, t5⟩
    exact key rb r e w' he t1 t2 t3 t4 t5
  · have r1 : R3 spV w1 sb n d := h3.of_block (g.block _ (h3.lt h0) (by simp))
    have r2 : R3 spV wx sb n d := r1.of_block (hb.block _ (r1.lt h0) (by simp))
    refine (newTree_some sb n n d wx h0 (by have := h.hn; omega) (Nat.le_refl _) r2).mono ?_
    rintro e w' ⟨rb, r, he, t1, t2, t3, t4, t5⟩
    exact key rb r e w' he t1 t2 t3 t4 t5

theorem c34a (h : BArg w bb nao nn ncap nm mv sao n d lo) (g : w.grownBy w1 none) (wx : World) (hb : B0 w1 wx) :
    Calls Tryz.prog 34 #[.slice none 0 0] wx fun e w' => ∃ r6, e = .returned (.agg #[.slice none 0 0, .slice (some ⟨r6, 0, none⟩) 0 0]) ∧ Hid (B0 w1 w') ∧ BCell bb nao nn ncap sao n w' := by
  refine (newTree6_none wx).mono ?_
  rintro e w' ⟨r6, rfl, hg⟩
  have hg2 : w1.grownBy w' none := grownBy_trans hb hg
  exact ⟨r6, rfl, hg2, BCell.of_row ((h.row1 g).of_block (hg2.block _ (h.row1 g).lt (by simp)))⟩

theorem c34b (h : BArg w bb nao nn ncap nm mv sao n d lo) (g : w.grownBy w1 none) (wx : World) (rb : Nat) (r : Nat → Int) (hb : B1 w1 sao (spanL n d) rb r wx) :
    Calls Tryz.prog 34 #[.slice none 0 0] wx fun e w' => ∃ r6, e = .returned (.agg #[.slice none 0 0, .slice (some ⟨r6, 0, none⟩) 0 0]) ∧ Hid (B1 w1 sao (spanL n d) rb r w') ∧ BCell bb nao nn ncap sao n w' := by
  refine (newTree6_none wx).mono ?_
  rintro e w' ⟨r6, rfl, hg⟩
  have hb2 := hb.none_grown hg
  exact ⟨r6, rfl, hb2, BCell.of_row ((h.row1 g).of_block (hb2.2.2.2.2.block _ (h.row1 g).lt h.sne))⟩

theorem cellB {P : Nat → Prop} (h : BArg w bb nao nn ncap nm mv sao n d lo) {wx : World} (k : Kp P w wx) (hp : ¬ P bb) : wx.rowIs bb 70 4 (bG nao nn ncap mv sao n) := h.row.of_block (k.block _ h.row.lt hp)

theorem notS (h : BArg w bb nao nn ncap nm mv sao n d lo) : ¬ sao = some ⟨bb, 0, none⟩ := fun e => h.sne (by rw [e]; rfl)

theorem cell0 (h : BArg w bb nao nn ncap nm mv sao n d lo) {ib xb rb : Nat} {l : List T3} {r : Nat → Int} {tab : List (List Int)} {F : Nat → Value} {wx : World} (k : StX w ib nao nn ncap nm sao l r xb rb tab F wx) : wx.cell? ⟨bb, 0, none⟩ = some (.slice nao nn ncap) :=
  (h.cellB k.kp h.notS).cell (i := 0) (by omega)

theorem sb_lt (h : BArg w bb nao nn ncap nm mv sao n d lo) {q : Nat} (e : some q = blkOf sao) : q < w.heap.size ∧ lo ≤ q ∧ sao = some ⟨q, 0, none⟩ := by
  rcases h.spans with ⟨_, rfl⟩ | ⟨h0, sb, rfl, _, h2, h3⟩
  · simp [blkOf] at e
  · obtain rfl : q = sb := Option.some.inj e
    exact ⟨h3.lt h0, h2, rfl⟩

theorem after (h : BArg w bb nao nn ncap nm mv sao n d lo) (g : w.grownBy w1 none) {ib xb rb : Nat} {r : Nat → Int} {F : Nat → Value} {wx : World} (hI : ItnE w1 w.heap.size ib nao nn ncap nm [[]]) (hb : B1 w1 sao (spanL n d) rb r wx) (hx : w1.heap.size ≤ xb) (hF : wx.rowIs xb 93 12 F) :
    StX w ib nao nn ncap nm sao (spanL n d) r xb rb [[]] F wx := by
  obtain ⟨h1, h2, h3, h4, h5⟩ := hb
  have hs := g.size
  refine ⟨(Kp.of_none g).trans (Kp.of_grown h5 fun q e => (h.sb_lt e).2.2), ?_, hF, by omega, fun sb e => ⟨(h.sb_lt (q := sb) (by rw [e]; rfl)).1, h1 sb e⟩, h2, by omega⟩
  refine hI.keep (fun q hq hb => h5.block q hq fun e => by have := (h.sb_lt e).1; omega) ?_
  have hlo : lo ≤ w.heap.size := by have := h.row.lt; have := h.lob; omega
  refine Row.widen (lo := 0) (hi := lo) ?_ (Nat.le_refl _) hlo
  refine h.names.of_blocks fun b _ hb => ?_
  rw [h5.block b (by omega) (fun e => by have := (h.sb_lt e).2.1; omega), g.block b (by omega) (by simp)]

/-- Behind buildTable, ahead of its store. -/
def P36 (w : World) (ib : Nat) (nao : Option Addr) (nn ncap : Nat) (nm : Nat → ByteArray) (sao : Option Addr) (l : List T3) (r : Nat → Int) (xb rb : Nat) (F : Nat → Value) (ps : List Int) (sta : Option Addr) (stc : Nat) (ua : Option Addr) (uc : Nat) (w' : World) : Prop :=
  PsOf l ps ∧ StX w ib nao nn ncap nm sao l r xb rb (tfold nn l [[]] ps).2.2 F w' ∧
    OR w' w.heap.size 71 sta (tfold nn l [[]] ps).1.length stc ((tfold nn l [[]] ps).1.map (.int .u32)) ∧ OR w' w.heap.size 41 ua (tfold nn l [[]] ps).2.1.length uc ((tfold nn l [[]] ps).2.1.map (.int .u32))

theorem c36 (h : BArg w bb nao nn ncap nm mv sao n d lo) {ib xb rb L : Nat} {r : Nat → Int} {F : Nat → Value} {wx : World} (S : StX w ib nao nn ncap nm sao (spanL n d) r xb rb [[]] F wx) (hL : L = (spanL n d).length) :
    Calls Tryz.prog 36 #[.slice sao L L, .int .i64 nn, .pointer (some ⟨ib, 0, none⟩)] wx fun e w' => ∃ ps sta stc ua uc, e = .returned (.agg #[.slice sta (tfold nn (spanL n d) [[]] ps).1.length stc, .slice ua (tfold nn (spanL n d) [[]] ps).2.1.length uc, .slice none 0 0]) ∧ P36 w ib nao nn ncap nm sao (spanL n d) r xb rb F ps sta stc ua uc w' := by
  have hlen := h.len
  have hn := h.hn
  refine (table_any w.heap.size ib nao nn ncap nm [[]] sao (spanL n d) L wx hL.symm (by omega) h.hnn S.kp.size ?_ ?_ h.lok S.itn (by simp)).mono ?_
  · intro i hi
    rcases h.spans with ⟨rfl, rfl⟩ | ⟨_, sb, e, _⟩
    · omega
    · exact ⟨sb, e⟩
  · intro sb e
    rw [hL]
    exact S.spans sb e
  · rintro e w' ⟨ps, sta, stc, ua, uc, h1, h2, rfl, h4, h5, h6, h7⟩
    exact ⟨ps, sta, stc, ua, uc, rfl, ⟨h1, h2⟩, S.fr h7 (by decide) (by decide) h6, h4.lower S.kp.size, h5.lower S.kp.size⟩

theorem set4_other (wz : World) (bb : Nat) (a b c e : Value) {q : Nat} (h : q ≠ bb) : ((((wz.setCell ⟨bb, 0, none⟩ a).setCell ⟨bb, 1, none⟩ b).setCell ⟨bb, 2, none⟩ c).setCell ⟨bb, 3, none⟩ e).heap[q]? = wz.heap[q]? := by
  rw [Below.heap_setCell _ _ _ _ h, Below.heap_setCell _ _ _ _ h, Below.heap_setCell _ _ _ _ h, Below.heap_setCell _ _ _ _ h]

theorem fin (h : BArg w bb nao nn ncap nm mv sao n d lo) {ib xb rb L s6 u6 r6 stc uc tc mb bn bcap : Nat} {sta ua ta bao : Option Addr} {r : Nat → Int} {st : List Int × List Int × List (List Int)} {ps : List Int} {sc bc : List Value} {f0 : Value} {w' : World}
    (S : StX w ib nao nn ncap nm sao (spanL n d) r xb rb st.2.2 (xF (.slice sta st.1.length stc) (.slice ua st.2.1.length uc) (.slice none 0 0) (.slice (some ⟨s6, 0, none⟩) 1 1) (.slice (some ⟨u6, 0, none⟩) 1 1) (.slice none 0 0) f0 (.slice sao L L) (.slice (some ⟨rb, 0, none⟩) L L) (.slice none 0 0) (.slice (some ⟨r6, 0, none⟩) 0 0) (.slice nao nn ncap)) w')
    (o1 : OR w' w.heap.size 71 sta st.1.length stc (st.1.map (.int .u32))) (o2 : OR w' w.heap.size 41 ua st.2.1.length uc (st.2.1.map (.int .u32))) (c0 : w'.cell? ⟨s6, 0, none⟩ = some (.int .u64 0)) (c1 : w'.cell? ⟨s6, 1, none⟩ = some (.int .u64 0)) (c2 : w'.cell? ⟨u6, 0, none⟩ = some (.int .u32 0)) (z6 : w.heap.size ≤ s6) (y6 : w.heap.size ≤ u6)
    (I : Itn w' w.heap.size ib nao nn ncap nm st.2.2 mb ta tc bao bn bcap sc bc) (R : RO (fun k => (spanL n d)[k]!.2.1) r 0 (spanL n d).length) (hL : L = (spanL n d).length) (hst : st = tfold nn (spanL n d) [[]] ps) (hps : PsOf (spanL n d) ps) :
    BuildPost w bb nao nn ncap nm sao (spanL n d) (.returned (.pointer (some ⟨xb, 0, none⟩))) (((((w'.setCell ⟨xb, 6, none⟩ (.slice ta st.2.2.length tc)).setCell ⟨bb, 0, none⟩ (.slice none 0 0)).setCell ⟨bb, 1, none⟩ (.map none)).setCell ⟨bb, 2, none⟩ (.slice none 0 0)).setCell ⟨bb, 3, none⟩ (.slice none 0 0)) := by
  have g := setCell_grown w' xb 6 (.slice ta st.2.2.length tc)
  have f : FrT w.heap.size [93] w' (w'.setCell ⟨xb, 6, none⟩ (.slice ta st.2.2.length tc)) := FrT.of_grown g S.xB (row_tag S.x [93] (by simp))
  have S2 := S.store g (xF_set6 S.x)
  have hxs : xb ≠ s6 := fun e => by
    subst e
    rw [S.x.cell (i := 0) (by omega)] at c0
    cases c0
  have hxu : xb ≠ u6 := fun e => by
    subst e
    rw [S.x.cell (i := 0) (by omega)] at c2
    cases c2
  have hB := h.cellB S2.kp h.notS
  subst hL
  have hX : IdxW (w'.setCell ⟨xb, 6, none⟩ (.slice ta st.2.2.length tc)) w.heap.size sao xb nao nn ncap nm (spanL n d) r st sta stc ua uc s6 u6 ta tc sc rb r6 :=
    ⟨S2.x, S2.xB, f.own o1 (by decide), f.own o2 (by decide), f.own I.sets (by decide), I.rows.fr f (by decide), fun sb e => (S2.spans sb e).2, (by
      rcases h.spans with ⟨rfl, _⟩ | ⟨_, sb, e, _⟩
      · exact .inr rfl
      · exact .inl ⟨sb, e⟩), S2.reach, S2.rB, g.cell c0 (fun e => hxs (Option.some.inj e).symm), g.cell c1 (fun e => hxs (Option.some.inj e).symm), g.cell c2 (fun e => hxu (Option.some.inj e).symm), z6, y6⟩
  refine ⟨xb, ps, rfl, hps, ⟨r, R, sta, stc, ua, uc, s6, u6, ta, tc, sc, rb, r6, ?_⟩, ?_, ?_⟩
  · rw [← hst]
    refine hX.keep fun q hq hq2 => set4_other _ _ _ _ _ _ ?_
    rintro rfl
    rcases hq2 with c | c
    · have := h.row.lt; omega
    · exact h.notS c
  · refine ((((hB.set 0 _).set 1 _).set 2 _).set 3 _).congr fun i hi => ?_
    match i, hi with
    | 0, _ => rfl
    | 1, _ => rfl
    | 2, _ => rfl
    | 3, _ => rfl
  · refine (S2.kp.wide fun q hq => .inr hq).trans ⟨rfl, rfl, rfl, by simp, fun q hq hn => set4_other _ _ _ _ _ _ fun e => hn (.inl e)⟩
end BArg

set_option maxRecDepth 100000 in
set_option maxHeartbeats 4000000 in
theorem build_any (bb : Nat) (nao : Option Addr) (nn ncap : Nat) (nm : Nat → ByteArray) (mv : Value) (sao : Option Addr) (n : Nat) (d : Nat → Int × Int × Int) (lo : Nat) (w : World) (hA : BArg w bb nao nn ncap nm mv sao n d lo) :
    Calls Tryz.prog 12 #[.pointer (some ⟨bb, 0, none⟩)] w fun e w' => BuildPost w bb nao nn ncap nm sao (spanL n d) e w' := by
  have HA : Hid (BArg w bb nao nn ncap nm mv sao n d lo) := hA
  have hc0 := (BCell.of_row hA.row).1
  have hnames : Hid (Row w 0 w.heap.size nao nn (fun i => Value.string (nm i))) := hA.names.widen (Nat.le_refl _) (by have := hA.row.lt; have := hA.lob; omega)
  clear hA
  go_enter Tryz.func12, Tryz.ntmps12
  go_wp2_with fail
  refine (newInterner_any bb nao nn ncap nm w hc0 hnames.out).mono ?_
  rintro e w1 ⟨ib, rfl, hI, g1⟩
  have G1 : Hid (w.grownBy w1 none ∧ ItnE w1 w.heap.size ib nao nn ncap nm [[]]) := ⟨g1, hI⟩
  clear g1 hI hc0
  have C33 : Hid (∀ wx, Hid (B0 w1 wx) → Calls Tryz.prog 33 #[.slice sao n n] wx fun e w' => ∃ rb r, e = .returned (.agg #[.slice sao (spanL n d).length (spanL n d).length, .slice (some ⟨rb, 0, none⟩) (spanL n d).length (spanL n d).length]) ∧ Hid (B1 w1 sao (spanL n d) rb r w') ∧ BCell bb nao nn ncap sao n w') := fun wx hb => HA.out.c33 G1.out.1 wx hb.out
  have C34a : Hid (∀ wx, Hid (B0 w1 wx) → Calls Tryz.prog 34 #[.slice none 0 0] wx fun e w' => ∃ r6, e = .returned (.agg #[.slice none 0 0, .slice (some ⟨r6, 0, none⟩) 0 0]) ∧ Hid (B0 w1 w') ∧ BCell bb nao nn ncap sao n w') := fun wx hb => HA.out.c34a G1.out.1 wx hb.out
  have C34b : Hid (∀ wx rb r, Hid (B1 w1 sao (spanL n d) rb r wx) → Calls Tryz.prog 34 #[.slice none 0 0] wx fun e w' => ∃ r6, e = .returned (.agg #[.slice none 0 0, .slice (some ⟨r6, 0, none⟩) 0 0]) ∧ Hid (B1 w1 sao (spanL n d) rb r w') ∧ BCell bb nao nn ncap sao n w') := fun wx rb r hb => HA.out.c34b G1.out.1 wx rb r hb.out
  obtain ⟨L, hL⟩ : ∃ L, L = (spanL n d).length := ⟨_, rfl⟩
  have HL : Hid (L = (spanL n d).length) := hL
  rw [← hL] at C33
  clear hL
  go_upto_region 2 with fail
  go_cut [4] (fun x4 wx => ∃ rb r r6 xb, x4 = .pointer (some ⟨xb, 0, none⟩) ∧ Hid (B1 w1 sao (spanL n d) rb r wx ∧ w1.heap.size ≤ xb ∧ wx.rowIs xb 93 12 (xF (.slice none 0 0) (.slice none 0 0) (.slice none 0 0) (.slice none 0 0) (.slice none 0 0) (.slice none 0 0) (.slice none 0 0) (.slice sao L L) (.slice (some ⟨rb, 0, none⟩) L L) (.slice none 0 0) (.slice (some ⟨r6, 0, none⟩) 0 0) (.slice nao nn ncap))))
  case first =>
    obtain ⟨k0, k2, k3⟩ := BCell.of_row (HA.out.row1 G1.out.1)
    have hb0 : Hid (B0 w1 w1.drew) := grownBy_drew _ _
    go_region_with (first
      | (go_at_call 33; go_must (refine (C33.out _ (by assumption)).mono ?_; rintro e w' ⟨rb, r, rfl, hb1, k0', k2', k3'⟩))
      | (go_at_call 34; go_must (first
          | (refine (C34a.out _ (by assumption)).mono ?_; rintro e w' ⟨r6, rfl, hb0', k0', k2', k3'⟩)
          | (refine (C34b.out _ _ _ (by assumption)).mono ?_; rintro e w' ⟨r6, rfl, hb1', k0', k2', k3'⟩)))
      | (go_at_call 35; go_must (refine (names35 bb _ _ (by assumption)).mono ?_; rintro e w' ⟨rfl, rfl⟩)))
    all_goals
      go_wp2
      go_meet
      exact ⟨rb, r, r6, _, rfl, hb1'.out.none_grown (World.grownBy_alloc _ _ _), hb1'.out.2.2.2.2.size, xF_row (alloc_new _ _)⟩
  case rest =>
    obtain ⟨rb, r, r6, xb, rfl, HX⟩ := hcut
    have S2 : Hid (StX w ib nao nn ncap nm sao (spanL n d) r xb rb [[]] (xF (.slice none 0 0) (.slice none 0 0) (.slice none 0 0) (.slice none 0 0) (.slice none 0 0) (.slice none 0 0) (.slice none 0 0) (.slice sao L L) (.slice (some ⟨rb, 0, none⟩) L L) (.slice none 0 0) (.slice (some ⟨r6, 0, none⟩) 0 0) (.slice nao nn ncap)) wc ∧ RO (fun k => (spanL n d)[k]!.2.1) r 0 (spanL n d).length) :=
      ⟨HA.out.after G1.out.1 G1.out.2 HX.out.1 HX.out.2.1 HX.out.2.2, HX.out.1.2.2.1⟩
    clear HX C33 C34a C34b
    have HLen : Hid (L ≤ n ∧ n ≤ 1024 ∧ nn ≤ 4096) := ⟨by rw [HL.out]; exact HA.out.len, HA.out.hn, HA.out.hnn⟩
    have C36 := HA.out.c36 (S2.out.1.alk (wy := wc.drew) ⟨rfl, rfl, rfl, rfl⟩) HL.out
    have k0 : wc.cell? ⟨bb, 0, none⟩ = some (.slice nao nn ncap) := HA.out.cell0 S2.out.1
    have x7 : wc.cell? ⟨xb, 7, none⟩ = some (.slice sao L L) := S2.out.1.x.cell (i := 7) (by omega)
    go_upto_region 3 with fail
    go_cut [4] (fun x4 wx => ∃ ps sta stc ua uc, x4 = .pointer (some ⟨xb, 0, none⟩) ∧ Hid (PsOf (spanL n d) ps ∧ StX w ib nao nn ncap nm sao (spanL n d) r xb rb (tfold nn (spanL n d) [[]] ps).2.2 (xF (.slice sta (tfold nn (spanL n d) [[]] ps).1.length stc) (.slice ua (tfold nn (spanL n d) [[]] ps).2.1.length uc) (.slice none 0 0) (.slice none 0 0) (.slice none 0 0) (.slice none 0 0) (.slice none 0 0) (.slice sao L L) (.slice (some ⟨rb, 0, none⟩) L L) (.slice none 0 0) (.slice (some ⟨r6, 0, none⟩) 0 0) (.slice nao nn ncap)) wx ∧
      OR wx w.heap.size 71 sta (tfold nn (spanL n d) [[]] ps).1.length stc ((tfold nn (spanL n d) [[]] ps).1.map (.int .u32)) ∧ OR wx w.heap.size 41 ua (tfold nn (spanL n d) [[]] ps).2.1.length uc ((tfold nn (spanL n d) [[]] ps).2.1.map (.int .u32))))
    case first =>
      go_region_with (first
        | (go_at_call 37; go_must (refine (len37 bb nao nn ncap wc.drew k0).mono ?_; rintro e w' ⟨rfl, rfl⟩))
        | (go_at_call 36; go_must (refine C36.mono ?_; rintro e w' ⟨ps, sta, stc, ua, uc, rfl, hp⟩; have y0 := hp.2.1.x.cell (i := 0) (by omega); have y1 := hp.2.1.x.cell (i := 1) (by omega); have y2 := hp.2.1.x.cell (i := 2) (by omega); have f0 := hp.2.1.x.frozen 0; have f1 := hp.2.1.x.frozen 1; have f2 := hp.2.1.x.frozen 2; have HP := Hid.intro hp; clear hp)))
      all_goals
        clear C36
        go_wp2
        go_meet
        exact ⟨ps, sta, stc, ua, uc, rfl, HP.out.1, HP.out.2.1.store (set3_grown _ _ _ _ _ _ _ _) (xF_set0 HP.out.2.1.x), HP.out.2.2.1.grown (set3_grown _ _ _ _ _ _ _ _) (OR.ne2 HP.out.2.1.x HP.out.2.2.1 (by decide)), HP.out.2.2.2.grown (set3_grown _ _ _ _ _ _ _ _) (OR.ne2 HP.out.2.1.x HP.out.2.2.2 (by decide))⟩
    case rest =>
      have RR : Hid (RO (fun k => (spanL n d)[k]!.2.1) r 0 (spanL n d).length) := S2.out.2
      clear C36 x7 k0 S2
      obtain ⟨ps, sta, stc, ua, uc, rfl, HP⟩ := hcut
      obtain ⟨st, hst⟩ : ∃ st, st = tfold nn (spanL n d) [[]] ps := ⟨_, rfl⟩
      rw [← hst] at HP
      have HST : Hid (st = tfold nn (spanL n d) [[]] ps) := hst
      clear hst
      have k0 : wc.cell? ⟨bb, 0, none⟩ = some (.slice nao nn ncap) := HA.out.cell0 HP.out.2.1
      have x9 : wc.cell? ⟨xb, 9, none⟩ = some (.slice none 0 0) := HP.out.2.1.x.cell (i := 9) (by omega)
      have C38 := (table6_none nn (.pointer (some ⟨ib, 0, none⟩)) wc.drew HLen.out.2.2)
      go_upto_region 4 with fail
      go_cut [4] (fun x4 wx => ∃ s6 u6, x4 = .pointer (some ⟨xb, 0, none⟩) ∧ Hid (StX w ib nao nn ncap nm sao (spanL n d) r xb rb st.2.2 (xF (.slice sta st.1.length stc) (.slice ua st.2.1.length uc) (.slice none 0 0) (.slice (some ⟨s6, 0, none⟩) 1 1) (.slice (some ⟨u6, 0, none⟩) 1 1) (.slice none 0 0) (.slice none 0 0) (.slice sao L L) (.slice (some ⟨rb, 0, none⟩) L L) (.slice none 0 0) (.slice (some ⟨r6, 0, none⟩) 0 0) (.slice nao nn ncap)) wx ∧
        OR wx w.heap.size 71 sta st.1.length stc (st.1.map (.int .u32)) ∧ OR wx w.heap.size 41 ua st.2.1.length uc (st.2.1.map (.int .u32)) ∧ wx.cell? ⟨s6, 0, none⟩ = some (.int .u64 0) ∧ wx.cell? ⟨s6, 1, none⟩ = some (.int .u64 0) ∧ wx.cell? ⟨u6, 0, none⟩ = some (.int .u32 0) ∧ w.heap.size ≤ s6 ∧ w.heap.size ≤ u6))
      case first =>
        have key : Hid (∀ w', wc.drew.grownBy w' none → StX w ib nao nn ncap nm sao (spanL n d) r xb rb st.2.2 (xF (.slice sta st.1.length stc) (.slice ua st.2.1.length uc) (.slice none 0 0) (.slice none 0 0) (.slice none 0 0) (.slice none 0 0) (.slice none 0 0) (.slice sao L L) (.slice (some ⟨rb, 0, none⟩) L L) (.slice none 0 0) (.slice (some ⟨r6, 0, none⟩) 0 0) (.slice nao nn ncap)) w' ∧
            OR w' w.heap.size 71 sta st.1.length stc (st.1.map (.int .u32)) ∧ OR w' w.heap.size 41 ua st.2.1.length uc (st.2.1.map (.int .u32))) := fun w' g => by
          have g' : wc.grownBy w' none := grownBy_trans (grownBy_drew _ _) g
          exact ⟨HP.out.2.1.none_grown g', HP.out.2.2.1.grown g' (by simp), HP.out.2.2.2.grown g' (by simp)⟩
        go_region_with (first
          | (go_at_call 37; go_must (refine (len37 bb nao nn ncap wc.drew k0).mono ?_; rintro e w' ⟨rfl, rfl⟩))
          | (go_at_call 38; go_must (refine C38.mono ?_; rintro e w' ⟨s6, u6, rfl, z0, z1, z2, z3, z4, hg⟩; have y0 := (key.out w' hg).1.x.cell (i := 3) (by omega); have y1 := (key.out w' hg).1.x.cell (i := 4) (by omega); have y2 := (key.out w' hg).1.x.cell (i := 5) (by omega); have f0 := (key.out w' hg).1.x.frozen 3; have f1 := (key.out w' hg).1.x.frozen 4; have f2 := (key.out w' hg).1.x.frozen 5; have HQ := Hid.intro (And.intro hg (And.intro z0 (And.intro z1 (And.intro z2 (And.intro z3 z4))))); clear hg z0 z1 z2 z3 z4)))
        all_goals
          clear C38
          go_wp2
          go_meet
          have hk := key.out _ HQ.out.1
          have hxs : xb ≠ s6 := fun e => by have := HP.out.2.1.x.lt; have := HQ.out.2.2.2.2.1; have e2 : wc.drew.heap.size = wc.heap.size := rfl; omega
          have hxu : xb ≠ u6 := fun e => by have := HP.out.2.1.x.lt; have := HQ.out.2.2.2.2.2; have e2 : wc.drew.heap.size = wc.heap.size := rfl; omega
          have hsz := HP.out.2.1.kp.size
          exact ⟨s6, u6, rfl, hk.1.store (set3_grown _ _ _ _ _ _ _ _) (xF_set3 hk.1.x), hk.2.1.grown (set3_grown _ _ _ _ _ _ _ _) (OR.ne2 hk.1.x hk.2.1 (by decide)), hk.2.2.grown (set3_grown _ _ _ _ _ _ _ _) (OR.ne2 hk.1.x hk.2.2 (by decide)),
            (set3_grown _ _ _ _ _ _ _ _).cell HQ.out.2.1 (fun e => hxs (Option.some.inj e).symm), (set3_grown _ _ _ _ _ _ _ _).cell HQ.out.2.2.1 (fun e => hxs (Option.some.inj e).symm), (set3_grown _ _ _ _ _ _ _ _).cell HQ.out.2.2.2.1 (fun e => hxu (Option.some.inj e).symm), Nat.le_trans hsz HQ.out.2.2.2.2.1, Nat.le_trans hsz HQ.out.2.2.2.2.2⟩
      case rest =>
        have HPS : Hid (PsOf (spanL n d) ps) := HP.out.1
        clear HP C38 k0 x9
        obtain ⟨s6, u6, rfl, HX⟩ := hcut
        obtain ⟨mb, ta, tc, bao, bn, bcap, sc, bc, hi⟩ := HX.out.1.itn
        have HI : Hid (Itn wc w.heap.size ib nao nn ncap nm st.2.2 mb ta tc bao bn bcap sc bc) := hi
        have i2 : wc.cell? ⟨ib, 2, none⟩ = some (.slice ta st.2.2.length tc) := hi.fields.cell (i := 2) (by omega)
        have y6 : wc.cell? ⟨xb, 6, none⟩ = some (.slice none 0 0) := HX.out.1.x.cell (i := 6) (by omega)
        have f6 := HX.out.1.x.frozen 6
        clear hi
        go_wp2_with fail
        refine (sets39 ib _ wc i2).mono ?_
        rintro e w' ⟨rfl, rfl⟩
        have hS := HX.out.1.store (setCell_grown w' xb 6 (.slice ta st.2.2.length tc)) (xF_set6 HX.out.1.x)
        have hB := HA.out.cellB hS.kp HA.out.notS
        have b0 := hB.cell (i := 0) (by omega)
        have b1 := hB.cell (i := 1) (by omega)
        have b2 := hB.cell (i := 2) (by omega)
        have b3 := hB.cell (i := 3) (by omega)
        have q0 := hB.frozen 0
        have q1 := hB.frozen 1
        have q2 := hB.frozen 2
        have q3 := hB.frozen 3
        have HS := Hid.intro hS
        have HB := Hid.intro hB
        clear hS hB
        go_wp2
        go_ret
        exact HA.out.fin HX.out.1 HX.out.2.1 HX.out.2.2.1 HX.out.2.2.2.1 HX.out.2.2.2.2.1 HX.out.2.2.2.2.2.1 HX.out.2.2.2.2.2.2.1 HX.out.2.2.2.2.2.2.2 HI.out RR.out HL.out HST.out HPS.out
end Go.Proofs.Qxb6618911aGreat
