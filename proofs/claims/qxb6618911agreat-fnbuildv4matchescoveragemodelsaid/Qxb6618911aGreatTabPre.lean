/-
  buildTable (key4): what stands ahead of the walk.
-/
import Derived.Test.Qxb6618911aGreatItn
import Derived.Test.Qxb6618911aGreatPlain
import Derived.Test.Qxb6618911aGreatInsOwn
namespace Go.Proofs.Qxb6618911aGreat
open Go.RowKit Go.Lib Go.Shelf Go.Sort

theorem FrT.new {base : Nat} {S : List TypeId} {w wr wr' : World} {b : Nat} (h : FrT base S w wr) (g : wr.grownBy wr' (some b)) (hb : w.heap.size ≤ b) : FrT base S w wr' :=
  ⟨g.os.trans h.os, g.tape.trans h.tape, g.output.trans h.output, Nat.le_trans h.size g.size, fun k hk => by
    rw [g.block k (Nat.lt_of_lt_of_le hk h.size) (fun e => by have := Option.some.inj e; omega)]; exact h.block k hk⟩
theorem FrT.new_alloc {base : Nat} {S : List TypeId} {w wr : World} (h : FrT base S w wr) (o : Obj) : FrT base S w (wr.alloc o) := h.trans (FrT.alloc _ _)

theorem info21' : (Tryz.prog.info? 21).map (fun i => (i.zero, i.size, i.bytes)) = some (some (.int .i32 0), 1, 4) := by kernel_rfl

/-- Amid the first loop: the events of the first k spans lie in the row. -/
def EvAt (w : World) (base : Nat) (l : List T3) (k m : Nat) (wr : World) : Prop :=
  m = (evAll (l.take k)).length ∧ wr.ownsRow base 125 3 (.slice (some ⟨w.heap.size + 1, 0, none⟩) m (2 * l.length)) m (flatE (evAll (l.take k))) ∧ Below (w.heap.size + 1) (w.alloc (.cells #[.slice none 0 0, .slice none 0 0, .slice none 0 0] 89)) wr

theorem evAll_take {l : List T3} {k : Nat} (h : k < l.length) : evAll (l.take (k + 1)) = evAll (l.take k) ++ evOf l[k]! := by
  rw [List.take_add_one, List.getElem?_eq_getElem h, getElem!_pos l k h]
  show (l.take k ++ [l[k]]).flatMap evOf = (l.take k).flatMap evOf ++ evOf l[k]
  rw [List.flatMap_append]
  simp

/-- A block of cells with this element type. -/
def TagIs (w : World) (b : Nat) (t : TypeId) : Prop := ∃ c fr, w.heap[b]? = some (.cells c t fr)

theorem TagIs.notin {w : World} {b : Nat} {t : TypeId} (h : TagIs w b t) (S : List TypeId) (ht : t ∉ S) : ¬ TagIn S w.heap[b]? := by
  obtain ⟨c, fr, h⟩ := h
  rw [h]; exact ht

theorem tag_sortWorld (w : World) (blk m : Nat) (dk : Array T3) (os : Array Obj) (t : TypeId) (h : TagIs w blk t) : TagIs (sortWorldK evV 3 w blk 0 m dk os) blk t := by
  obtain ⟨c, fr, h⟩ := h
  have hlt : blk < w.heap.size := by
    rcases Nat.lt_or_ge blk w.heap.size with h1 | h1
    · exact h1
    · rw [Array.getElem?_eq_none h1] at h; cases h
  have hx : ∃ f, (sortWorldK evV 3 w blk 0 m dk os).heap[blk]? = Option.map (onCells f) w.heap[blk]? := by
    unfold sortWorldK
    refine ⟨putCells id 0 (flatK evV 3 dk), ?_⟩
    rw [heap_grow_old _ _ (by show blk < (putRowK evV 3 (Sort.ahead w m) blk 0 dk).heap.size; rw [size_putRowK]; exact hlt)]
    simp only [putRowK, putRow, mapBlock, Array.getElem?_modify]
    rw [if_pos trivial]
    rfl
  obtain ⟨f, hx⟩ := hx
  rw [h] at hx
  exact ⟨_, fr, hx⟩

/-- Behind the sort of the events. -/
def SortEPost (w : World) (eb m : Nat) (L : List T3) (e : Ending) (w' : World) : Prop :=
  e = .returned (.tuple #[]) ∧ ∃ E : List T3, E.Perm L ∧ E.Pairwise (fun a b => a.1 ≤ b.1) ∧ E.length = m ∧ R3 evV w' eb m (fun i => E[i]!) ∧ TagIs w' eb 125 ∧ w.grownBy w' (some eb)

theorem flatE_get : ∀ (l : List T3) (i c : Nat), i < l.length → c < 3 → (flatE l)[i * 3 + c]? = some (evV l[i]!)[c]!
  | [], i, c, h, _ => by simp at h
  | x :: l, 0, c, _, hc => by
    have : flatE (x :: l) = evV x ++ flatE l := rfl
    rw [this, List.getElem?_append_left (by rw [evV_len]; omega)]
    have hl : c < (evV x).length := by rw [evV_len]; exact hc
    rw [Nat.zero_mul, Nat.zero_add, List.getElem?_eq_getElem hl]
    have e : (x :: l)[0]! = x := rfl
    rw [e, getElem!_pos (evV x) c hl]
  | x :: l, i + 1, c, h, hc => by
    have : flatE (x :: l) = evV x ++ flatE l := rfl
    rw [this, List.getElem?_append_right (by rw [evV_len]; omega), evV_len, show (i + 1) * 3 + c - 3 = i * 3 + c from by omega, flatE_get l i c (by simpa using h) hc]
    rfl

theorem own_R3 {w : World} {base eb m cap : Nat} {l : List T3} (h : w.ownsRow base 125 3 (.slice (some ⟨eb, 0, none⟩) m cap) m (flatE l)) (hl : l.length = m) : R3 evV w eb m (fun i => l[i]!) ∧ TagIs w eb 125 := by
  rcases h.2 with ⟨h0, _⟩ | ⟨g, cap', cur, h1, h2, h3, h4, h5, h6, h7⟩
  · cases h0
  · cases h1
    refine ⟨fun i hi c hc => ⟨?_, ?_⟩, cur, (0, 0), h3⟩
    · have hx := flatE_get l i c (by omega) hc
      rw [← h7, List.getElem?_take] at hx
      rw [if_pos (by omega)] at hx
      simp only [World.cell?, h3]
      simpa using hx
    · simp [World.frozen?, h3]

theorem sortE_own (base eb m cap : Nat) (L : List T3) (w : World) (hL : L.length = m) (hm : m ≤ 100000) (h : w.ownsRow base 125 3 (.slice (some ⟨eb, 0, none⟩) m cap) m (flatE L)) :
    Calls Tryz.prog 58 #[.slice (some ⟨eb, 0, none⟩) m cap, .func (.func 59) #[] #[]] w fun e w' => SortEPost w eb m L e w' := by
  obtain ⟨hR, hT⟩ := own_R3 h hL
  rcases Nat.eq_zero_or_pos m with h0 | h0
  · subst h0
    refine (sortE_none _ _ _ _).mono ?_
    rintro e w' ⟨rfl, rfl⟩
    exact ⟨rfl, [], by rw [List.eq_nil_of_length_eq_zero hL], .nil, rfl, fun i hi => by omega, hT, (Alk.refl _).grown _⟩
  · have hH : HoldsK evV 3 w eb 0 L.toArray := hR.holds _ (by simpa using hL) (fun i hi => by simp)
    have hc := sortE_some eb 0 cap L.toArray w hH (hR.lt h0) (by simp; omega)
    have hs : L.toArray.size = m := by simpa using hL
    rw [hs] at hc
    refine hc.mono ?_
    rintro e w' ⟨rfl, d', q, os, hp, hso, rfl⟩
    obtain ⟨p1, p2, p3⟩ := hp
    have hd : d'.size = m := by omega
    refine ⟨rfl, d'.toList, ?_, ?_, by simpa using hd, ?_, tag_sortWorld _ _ _ _ _ _ hT, sortWorld_grown _ _ _ _ _ _ _⟩
    · have e1 : d'.extract 0 m = d' := by rw [← hd]; exact Array.extract_size
      have e2 : L.toArray.extract 0 m = L.toArray := by rw [← hs]; exact Array.extract_size
      rw [e1, e2] at p3
      simpa using p3
    · rw [List.pairwise_iff_getElem]
      intro i j hi hj hij
      have := hso i j (Nat.zero_le _) hij (by simpa [hd] using hj)
      rw [ltOf_cmpE, getElem!_pos d' j (by simpa using hj), getElem!_pos d' i (by simpa using hi)] at this
      simp at this
      simpa using this
    · have h2 := R3.of_holds (holdsK_sortWorldK_c evV 3 w eb 0 L.toArray d' q os hH (hR.lt h0) p1)
      rw [hd] at h2
      exact h2.congr fun i hi => by rw [getElem!_pos d' i (by omega), getElem!_pos d'.toList i (by simp; omega)]; simp

/-! ### The table, plain -/

/-- One point: the set there, interned; a run begun, turned or left. -/
def tstep (zs : List Int) (p : Int) (st : List Int × List Int × List (List Int)) : List Int × List Int × List (List Int) :=
  if st.2.1.getLast? = some ((tabN st.2.2 zs).idxOf zs : Int) then (st.1, st.2.1, tabN st.2.2 zs)
  else if st.1.getLast? = some p then (st.1, st.2.1.dropLast ++ [((tabN st.2.2 zs).idxOf zs : Int)], tabN st.2.2 zs)
  else (st.1 ++ [p], st.2.1 ++ [((tabN st.2.2 zs).idxOf zs : Int)], tabN st.2.2 zs)

/-- The table after the points ps. -/
def tfold (nn : Nat) (l : List T3) (tab : List (List Int)) (ps : List Int) : List Int × List Int × List (List Int) := ps.foldl (fun st p => tstep (cover nn l p) p st) ([0], [0], tab)

theorem tfold_snoc (nn : Nat) (l : List T3) (tab : List (List Int)) (ps : List Int) (p : Int) : tfold nn l tab (ps ++ [p]) = tstep (cover nn l p) p (tfold nn l tab ps) := by
  unfold tfold; rw [List.foldl_append]; rfl

theorem tabN_len (tab : List (List Int)) (zs : List Int) : tab.length ≤ (tabN tab zs).length ∧ (tabN tab zs).length ≤ tab.length + 1 := by
  unfold tabN; split
  · omega
  · simp

def StLen (t : Nat) (st : List Int × List Int × List (List Int)) (k : Nat) : Prop := st.1.length = st.2.1.length ∧ 0 < st.1.length ∧ st.1.length ≤ k + 1 ∧ st.2.2.length ≤ t + k

theorem tstep_len {t : Nat} {st : List Int × List Int × List (List Int)} {k : Nat} (zs : List Int) (p : Int) (h : StLen t st k) : StLen t (tstep zs p st) (k + 1) := by
  obtain ⟨h1, h2, h3, h4⟩ := h
  have hN := tabN_len st.2.2 zs
  unfold tstep
  split
  · refine ⟨h1, h2, by show st.1.length ≤ _; omega, ?_⟩; show (tabN _ _).length ≤ _; omega
  · split
    · refine ⟨?_, h2, by show st.1.length ≤ _; omega, ?_⟩
      · show st.1.length = (st.2.1.dropLast ++ [_]).length
        rw [List.length_append, List.length_dropLast, List.length_singleton]; omega
      · show (tabN _ _).length ≤ _; omega
    · refine ⟨?_, ?_, ?_, ?_⟩
      · show (st.1 ++ [p]).length = (st.2.1 ++ [_]).length
        rw [List.length_append, List.length_append, h1]; rfl
      · show 0 < (st.1 ++ [p]).length
        rw [List.length_append]; omega
      · show (st.1 ++ [p]).length ≤ _
        rw [List.length_append, List.length_singleton]; omega
      · show (tabN _ _).length ≤ _; omega

theorem fold_len {t : Nat} (nn : Nat) (l : List T3) : ∀ (ps : List Int) (st : List Int × List Int × List (List Int)) (k : Nat), StLen t st k → StLen t (ps.foldl (fun st p => tstep (cover nn l p) p st) st) (k + ps.length)
  | [], st, k, h => h
  | p :: ps, st, k, h => by
    have := fold_len nn l ps _ _ (tstep_len (cover nn l p) p h)
    rw [List.length_cons, show k + (ps.length + 1) = k + 1 + ps.length from by omega]
    exact this

theorem tfold_len (nn : Nat) (l : List T3) (tab : List (List Int)) (ps : List Int) : StLen tab.length (tfold nn l tab ps) ps.length := by
  have := fold_len (t := tab.length) nn l ps ([0], [0], tab) 0 ⟨rfl, by simp, by simp, by simp⟩
  rw [Nat.zero_add] at this
  exact this

/-- The table's three fields. -/
def tF (sao : Option Addr) (sn scap : Nat) (uao : Option Addr) (un ucap : Nat) : Nat → Value
  | 0 => .slice sao sn scap
  | 1 => .slice uao un ucap
  | _ => .slice none 0 0

/-- The table's block and its two rows. -/
def TabAt (wr : World) (base tb : Nat) (st : List Int × List Int) (sao : Option Addr) (scap : Nat) (uao : Option Addr) (ucap : Nat) : Prop :=
  wr.rowIs tb 89 3 (tF sao st.1.length scap uao st.2.length ucap) ∧ OR wr base 71 sao st.1.length scap (st.1.map (.int .u32)) ∧ OR wr base 41 uao st.2.length ucap (st.2.map (.int .u32))

/-- Amid the sweep: the counts are f, the open ids zs, the table st. -/
structure TSt (w : World) (base ib : Nat) (nao : Option Addr) (nn ncap : Nat) (nm : Nat → ByteArray) (st : List Int × List Int × List (List Int)) (E : List T3) (m cb tb eb : Nat) (f : Int → Int) (zs : List Int) (oao : Option Addr) (on ocap : Nat) (wr : World) : Prop where
  evs : R3 evV wr eb m (fun i => E[i]!)
  tag : TagIs wr eb 125
  cnt : wr.rowIs cb 21 nn (fun j => .int .i32 (f j))
  cbN : w.heap.size ≤ cb
  opn : OR wr w.heap.size 21 oao on ocap (zs.map (.int .i32))
  ne : blkOf oao ≠ some cb
  tab : ∃ sao scap uao ucap, TabAt wr w.heap.size tb (st.1, st.2.1) sao scap uao ucap
  tbN : w.heap.size < tb
  itn : ItnE wr base ib nao nn ncap nm st.2.2
  fr : FrT base [104, 22, 5, mapTag] w wr
  res : wr.rowIs w.heap.size 89 3 (fun _ => .slice none 0 0)
  bb : base ≤ w.heap.size

/-- .. i events done. -/
def TRel (w : World) (base ib : Nat) (nao : Option Addr) (nn ncap : Nat) (nm : Nat → ByteArray) (st : List Int × List Int × List (List Int)) (E : List T3) (m cb tb eb i : Nat) (oao : Option Addr) (on ocap : Nat) (wr : World) : Prop :=
  TSt w base ib nao nn ncap nm st E m cb tb eb (cntOf (E.take i)) (openOf nn (cntOf (E.take i))) oao on ocap wr

theorem ItnE.fr {wr wr' : World} {base ib : Nat} {nao : Option Addr} {nn ncap : Nat} {nm : Nat → ByteArray} {tab : List (List Int)} {S : List TypeId} (h : ItnE wr base ib nao nn ncap nm tab) (f : FrT base S wr wr') (hb : base ≤ wr.heap.size) (hs : 104 ∉ S ∧ 22 ∉ S ∧ 5 ∉ S ∧ 9 ∉ S ∧ mapTag ∉ S) : ItnE wr' base ib nao nn ncap nm tab := by
  obtain ⟨mb, sao, scap, bao, bn, bcap, sc, bc, h⟩ := h
  exact ⟨mb, sao, scap, bao, bn, bcap, sc, bc, f.row h.fields hs.1, h.ibB, h.mbB, h.map.fr f hs.2.2.2.2, f.own h.sets hs.2.1, h.rows.fr f hs.2.2.2.1, f.own h.buf hs.2.2.1, h.names.below (f.below hb) (Nat.le_refl _), h.zero⟩

theorem TabAt.fr {wr wr' : World} {base tb : Nat} {st : List Int × List Int} {sao : Option Addr} {scap : Nat} {uao : Option Addr} {ucap : Nat} {S : List TypeId} (h : TabAt wr base tb st sao scap uao ucap) (f : FrT base S wr wr') (hs : 89 ∉ S ∧ 71 ∉ S ∧ 41 ∉ S) : TabAt wr' base tb st sao scap uao ucap :=
  ⟨f.row h.1 hs.1, f.own h.2.1 hs.2.1, f.own h.2.2 hs.2.2⟩

theorem FrT.lower {base base' : Nat} {S : List TypeId} {w w' : World} (h : FrT base S w w') (hb : base' ≤ base) : FrT base' S w w' := ⟨h.os, h.tape, h.output, h.size, fun k hk => by
  rcases h.block k hk with h1 | ⟨h1, h2⟩
  · exact .inl h1
  · exact .inr ⟨by omega, h2⟩⟩

namespace TSt
variable {w : World} {base ib : Nat} {nao : Option Addr} {nn ncap : Nat} {nm : Nat → ByteArray} {st : List Int × List Int × List (List Int)} {E : List T3} {m cb tb eb : Nat} {f : Int → Int} {zs : List Int} {oao : Option Addr} {on ocap : Nat} {wr : World}

/-- A turn of blocks with tag 21 only (the counts, the open ids), or of none. -/
theorem turn {wr' : World} (h : TSt w base ib nao nn ncap nm st E m cb tb eb f zs oao on ocap wr) (g : FrT w.heap.size [21] wr wr') {f' : Int → Int} {zs' : List Int} {oao' : Option Addr} {on' ocap' : Nat}
    (hc : wr'.rowIs cb 21 nn (fun j => .int .i32 (f' j))) (ho : OR wr' w.heap.size 21 oao' on' ocap' (zs'.map (.int .i32))) (hne : blkOf oao' ≠ some cb) : TSt w base ib nao nn ncap nm st E m cb tb eb f' zs' oao' on' ocap' wr' := by
  have hebl : eb < wr.heap.size := by
    obtain ⟨c, fr, hx⟩ := h.tag
    rcases Nat.lt_or_ge eb wr.heap.size with h1 | h1
    · exact h1
    · rw [Array.getElem?_eq_none h1] at hx; cases hx
  have heb := g.keep hebl (.inr (h.tag.notin [21] (by decide)))
  refine ⟨h.evs.of_block heb, ?_, hc, h.cbN, ho, hne, ?_, h.tbN, h.itn.fr (g.lower h.bb) (Nat.le_trans h.bb h.fr.size) (by decide), ?_, g.row h.res (by decide), h.bb⟩
  · obtain ⟨c, fr, hx⟩ := h.tag
    exact ⟨c, fr, heb.trans hx⟩
  · obtain ⟨sao, scap, uao, ucap, ht⟩ := h.tab
    exact ⟨sao, scap, uao, ucap, ht.fr g (by decide)⟩
  · refine ⟨g.os.trans h.fr.os, g.tape.trans h.fr.tape, g.output.trans h.fr.output, Nat.le_trans h.fr.size g.size, fun k hk => ?_⟩
    rw [g.keep (Nat.lt_of_lt_of_le hk h.fr.size) (.inl hk)]
    exact h.fr.block k hk

theorem alk {wr' : World} (h : TSt w base ib nao nn ncap nm st E m cb tb eb f zs oao on ocap wr) (a : Alk wr' wr) : TSt w base ib nao nn ncap nm st E m cb tb eb f zs oao on ocap wr' :=
  h.turn (FrT.of_alk a) (h.cnt.of_block (by rw [a.heap])) (h.opn.alk a) h.ne
theorem alloc (h : TSt w base ib nao nn ncap nm st E m cb tb eb f zs oao on ocap wr) (o : Obj) : TSt w base ib nao nn ncap nm st E m cb tb eb f zs oao on ocap (wr.alloc o) :=
  h.turn (FrT.alloc _ _) (h.cnt.of_block (Below.heap_alloc _ _ _ h.cnt.lt)) (h.opn.of_block fun _ _ hlt => Below.heap_alloc _ _ _ hlt) h.ne

theorem setCnt (h : TSt w base ib nao nn ncap nm st E m cb tb eb f zs oao on ocap wr) {k : Nat} {v : Int} {f' : Int → Int} (hf : ∀ j : Nat, j < nn → f' j = if j = k then v else f j) :
    TSt w base ib nao nn ncap nm st E m cb tb eb f' zs oao on ocap (wr.setCell ⟨cb, k, none⟩ (.int .i32 v)) := by
  have g := setCell_grown wr cb k (.int .i32 v)
  refine h.turn (FrT.of_grown g h.cbN (row_tag h.cnt _ (by simp))) ((h.cnt.set k _).congr fun j hj => ?_) (h.opn.of_block fun b hb hlt => g.block b hlt ?_) h.ne
  · rw [hf j hj]
    by_cases e : j = k <;> simp [e]
  · have := h.ne
    rw [hb] at this
    exact this

/-- Behind an insertion into, or a deletion from, the open ids. -/
theorem setOpen {wr' : World} (h : TSt w base ib nao nn ncap nm st E m cb tb eb f zs oao on ocap wr) (g : wr.grownBy wr' (blkOf oao)) {zs' : List Int} {oao' : Option Addr} {on' ocap' : Nat} (ho : OR wr' w.heap.size 21 oao' on' ocap' (zs'.map (.int .i32))) (hat : blkOf oao' = blkOf oao ∨ ∃ b, blkOf oao' = some b ∧ wr.heap.size ≤ b) :
    TSt w base ib nao nn ncap nm st E m cb tb eb f zs' oao' on' ocap' wr' := by
  have hlt := h.cnt.lt
  refine h.turn (h.opn.fr g (by simp)) (h.cnt.of_block (g.block cb hlt (fun e => h.ne e.symm))) ho ?_
  rcases hat with e | ⟨b, e, hb⟩
  · rw [e]; exact h.ne
  · rw [e]; intro e2; have := Option.some.inj e2; omega
end TSt

end Go.Proofs.Qxb6618911aGreat
