/-
  The interner: NewInterner, Intern.
-/
import Derived.Test.Qxb6618911aGreatKeys
import Derived.Deep.RegionWith
import Derived.Deep.DeepMust
namespace Go.Proofs.Qxb6618911aGreat
open Go.RowKit Go.Lib Go.Shelf Go.Sort

/-- The interner's four fields. -/
def itF (nao : Option Addr) (nn ncap mb : Nat) (sao : Option Addr) (sn scap : Nat) (bao : Option Addr) (bn bcap : Nat) : Nat → Value
  | 0 => .slice nao nn ncap
  | 1 => .map (some mb)
  | 2 => .slice sao sn scap
  | _ => .slice bao bn bcap

/-- The cells of the row of sets. -/
def SetsAre (w : World) (base : Nat) (nm : Nat → ByteArray) (tab : List (List Int)) (sc : List Value) : Prop :=
  sc[0]? = some (.slice none 0 0) ∧ ∀ k, 0 < k → k < tab.length → ∃ g, sc[k]? = some (.slice (some ⟨g, 0, none⟩) (tab[k]!).length (tab[k]!).length) ∧ base ≤ g ∧ w.rowIs g 9 (tab[k]!).length (fun i => encStr (srtN nm tab[k]!)[i]!)

/-- The interner at block ib: its table is tab. -/
structure Itn (w : World) (base ib : Nat) (nao : Option Addr) (nn ncap : Nat) (nm : Nat → ByteArray) (tab : List (List Int)) (mb : Nat) (sao : Option Addr) (scap : Nat) (bao : Option Addr) (bn bcap : Nat) (sc bc : List Value) : Prop where
  fields : w.rowIs ib 104 4 (itF nao nn ncap mb sao tab.length scap bao bn bcap)
  ibB : base ≤ ib
  mbB : base ≤ mb
  map : MapIs w mb tab
  sets : OR w base 22 sao tab.length scap sc
  rows : SetsAre w base nm tab sc
  buf : OR w base 5 bao bn bcap bc
  names : Row w 0 base nao nn (fun i => Value.string (nm i))
  zero : tab[0]? = some []

def ItnE (w : World) (base ib : Nat) (nao : Option Addr) (nn ncap : Nat) (nm : Nat → ByteArray) (tab : List (List Int)) : Prop :=
  ∃ mb sao scap bao bn bcap sc bc, Itn w base ib nao nn ncap nm tab mb sao scap bao bn bcap sc bc

theorem SetsAre.fr {w w' : World} {base base' : Nat} {S : List TypeId} {nm : Nat → ByteArray} {tab : List (List Int)} {sc : List Value} (h : SetsAre w base nm tab sc) (f : FrT base' S w w') (h9 : 9 ∉ S) : SetsAre w' base nm tab sc :=
  ⟨h.1, fun k h0 hk => by obtain ⟨g, h1, h2, h3⟩ := h.2 k h0 hk; exact ⟨g, h1, h2, f.row h3 h9⟩⟩

/-- What Intern makes of the table. -/
def tabN (tab : List (List Int)) (zs : List Int) : List (List Int) := if zs ∈ tab then tab else tab ++ [zs]

/-- Behind Intern. -/
def InPost (w : World) (base ib : Nat) (nao : Option Addr) (nn ncap : Nat) (nm : Nat → ByteArray) (tab : List (List Int)) (zs : List Int) (e : Ending) (w' : World) : Prop :=
  e = .returned (.int .u32 ((tabN tab zs).idxOf zs)) ∧ ItnE w' base ib nao nn ncap nm (tabN tab zs) ∧ FrT base [104, 22, 5, mapTag] w w'

/-- Amid Intern's first loop: k ids are in the buffer. -/
def BufAt (w : World) (base ib : Nat) (nao : Option Addr) (nn ncap mb : Nat) (sao : Option Addr) (sn scap : Nat) (zs : List Int) (k : Nat) (wr : World) : Prop :=
  ∃ bao bcap, wr.rowIs ib 104 4 (itF nao nn ncap mb sao sn scap bao (4 * k) bcap) ∧ OR wr base 5 bao (4 * k) bcap ((keyN (zs.take k)).map (.int .u8)) ∧ FrT base [104, 5] w wr

theorem itF_set {nao : Option Addr} {nn ncap mb : Nat} {sao : Option Addr} {sn scap : Nat} {bao bao' : Option Addr} {bn bcap bn' bcap' : Nat} {w : World} {ib : Nat} (h : w.rowIs ib 104 4 (itF nao nn ncap mb sao sn scap bao bn bcap)) :
    (w.setCell ⟨ib, 3, none⟩ (.slice bao' bn' bcap')).rowIs ib 104 4 (itF nao nn ncap mb sao sn scap bao' bn' bcap') := by
  refine (h.set 3 _).congr fun j hj => ?_
  match j, hj with
  | 0, _ => simp [itF]
  | 1, _ => simp [itF]
  | 2, _ => simp [itF]
  | 3, _ => simp [itF]

theorem OR.none_head {w : World} {base : Nat} {e : TypeId} {ao : Option Addr} {n cap : Nat} {xs : List Value} (h : OR w base e ao n cap xs) : OR w base e ao 0 cap [] := by
  obtain ⟨h1, h2⟩ := h
  refine ⟨rfl, ?_⟩
  rcases h2 with ⟨h3, h4, h5⟩ | ⟨g, f, h3, h4, h5, h6, h7, h8⟩
  · exact .inl ⟨h3, rfl, h5⟩
  · exact .inr ⟨g, f, h3, h4, by omega, h6, h7, fun j hj => by omega⟩

theorem setCell_grown (w : World) (b o : Nat) (v : Value) : w.grownBy (w.setCell ⟨b, o, none⟩ v) (some b) :=
  ⟨rfl, rfl, rfl, by simp [World.setCell], fun k _ hne => Below.heap_setCell _ _ _ _ (fun e => hne (by rw [e]))⟩

theorem row_tag {w : World} {g : Nat} {t : TypeId} {n : Nat} {f : Nat → Value} (h : w.rowIs g t n f) (S : List TypeId) (ht : t ∈ S) : TagIn S w.heap[g]? := by
  obtain ⟨c, hc, _⟩ := h
  rw [hc]; exact ht

/-- Blocks of two tags are two. -/
theorem row_ne {w : World} {g g' : Nat} {t t' : TypeId} {n n' : Nat} {f f' : Nat → Value} (h : w.rowIs g t n f) (h' : w.rowIs g' t' n' f') (ht : t ≠ t') : g ≠ g' := by
  rintro rfl
  obtain ⟨c, hc, _⟩ := h
  obtain ⟨c', hc', _⟩ := h'
  rw [hc] at hc'
  cases hc'
  exact ht rfl

theorem OR.ne {w : World} {base g : Nat} {t e : TypeId} {n m cap : Nat} {f : Nat → Value} {ao : Option Addr} {xs : List Value} (h : w.rowIs g t n f) (h' : OR w base e ao m cap xs) (ht : t ≠ e) : some g ≠ blkOf ao := by
  obtain ⟨_, h2⟩ := h'
  rcases h2 with ⟨rfl, _⟩ | ⟨g', f', rfl, _, _, _, h7, _⟩
  · simp [blkOf]
  · simp only [blkOf]
    exact fun e => row_ne h h7 ht (Option.some.inj e)

theorem OR.fr {w w' : World} {base : Nat} {e : TypeId} {ao : Option Addr} {n cap : Nat} {xs : List Value} {S : List TypeId} (h : OR w base e ao n cap xs) (hg : w.grownBy w' (blkOf ao)) (he : e ∈ S) : FrT base S w w' := by
  obtain ⟨_, h2⟩ := h
  rcases h2 with ⟨rfl, _⟩ | ⟨g, f, rfl, h4, _, _, h7, _⟩
  · exact FrT.of_none hg
  · exact FrT.of_grown hg h4 (row_tag h7 S he)

theorem FrT.wide {base : Nat} {S S' : List TypeId} {w w' : World} (h : FrT base S w w') (hs : ∀ t ∈ S, t ∈ S') : FrT base S' w w' := ⟨h.os, h.tape, h.output, h.size, fun k hk => by
  rcases h.block k hk with h1 | ⟨h1, h2⟩
  · exact .inl h1
  · refine .inr ⟨h1, ?_⟩
    revert h2
    generalize w.heap[k]? = x
    rcases x with _ | x
    · exact id
    · cases x <;> first | exact id | exact hs _⟩

theorem BufAt.start {w : World} {base ib : Nat} {nao : Option Addr} {nn ncap : Nat} {nm : Nat → ByteArray} {tab : List (List Int)} {mb : Nat} {sao : Option Addr} {scap : Nat} {bao : Option Addr} {bn bcap : Nat} {sc bc : List Value}
    (h : Itn w base ib nao nn ncap nm tab mb sao scap bao bn bcap sc bc) (zs : List Int) : BufAt w base ib nao nn ncap mb sao tab.length scap zs 0 (w.setCell ⟨ib, 3, none⟩ (.slice bao 0 bcap)) := by
  have hg := setCell_grown w ib 3 (.slice bao 0 bcap)
  refine ⟨bao, bcap, itF_set h.fields, ?_, FrT.of_grown hg h.ibB (row_tag h.fields _ (by simp))⟩
  refine h.buf.none_head.of_block fun g hg' hlt => hg.block g hlt ?_
  have := OR.ne h.fields h.buf (by decide)
  rw [hg'] at this
  exact this.symm

theorem OR.alk {w w' : World} {base : Nat} {e : TypeId} {ao : Option Addr} {n cap : Nat} {xs : List Value} (h : OR w base e ao n cap xs) (a : Alk w' w) : OR w' base e ao n cap xs := h.of_block fun g _ _ => by rw [a.heap]

theorem BufAt.push {w wr wr0 w' : World} {base ib : Nat} {nao : Option Addr} {nn ncap mb : Nat} {sao : Option Addr} {sn scap : Nat} {zs : List Int} {k : Nat} {bao : Option Addr} {bcap : Nat} {zk : Int} {e : Ending}
    (hrow : wr.rowIs ib 104 4 (itF nao nn ncap mb sao sn scap bao (4 * k) bcap)) (hbuf : OR wr base 5 bao (4 * k) bcap ((keyN (zs.take k)).map (.int .u8))) (hfr : FrT base [104, 5] w wr) (hib : base ≤ ib) (hzk : zs[k]? = some zk)
    (a0 : Alk wr0 wr) (h : ApPost wr0 base bao (4 * k) ((keyN (zs.take k)).map (.int .u8)) zk e w') :
    ∃ g cap, e = .returned (.slice (some ⟨g, 0, none⟩) (4 * k + 4) cap) ∧ w'.cell? ⟨ib, 3, none⟩ = some (.slice bao (4 * k) bcap) ∧ w'.frozen? ⟨ib, 3, none⟩ = false ∧
      ∀ w2, Alk w2 w' → BufAt w base ib nao nn ncap mb sao sn scap zs (k + 1) (w2.setCell ⟨ib, 3, none⟩ (.slice (some ⟨g, 0, none⟩) (4 * k + 4) cap)) := by
  obtain ⟨g, cap, rfl, h1, h2, h3⟩ := h
  have hne := OR.ne hrow hbuf (by decide)
  have hrow' : w'.rowIs ib 104 4 (itF nao nn ncap mb sao sn scap bao (4 * k) bcap) := hrow.of_block (by rw [h2.block ib (by rw [a0.heap]; exact hrow.lt) hne, a0.heap])
  refine ⟨g, cap, rfl, hrow'.cell (by omega), hrow'.frozen 3, fun w2 a2 => ?_⟩
  have hrow2 : w2.rowIs ib 104 4 (itF nao nn ncap mb sao sn scap bao (4 * k) bcap) := hrow'.of_block (by rw [a2.heap])
  have h12 := h1.alk a2
  have hgs := setCell_grown w2 ib 3 (.slice (some ⟨g, 0, none⟩) (4 * k + 4) cap)
  refine ⟨some ⟨g, 0, none⟩, cap, itF_set hrow2, ?_, ?_⟩
  · have e1 : zs.take (k + 1) = zs.take k ++ [zk] := by rw [List.take_add_one, hzk]; rfl
    have e2 : (keyN (zs.take (k + 1))).map (Value.int .u8) = (keyN (zs.take k)).map (.int .u8) ++ (le4 zk).map (.int .u8) := by
      rw [e1]; simp [keyN]
    rw [e2, show 4 * (k + 1) = 4 * k + 4 from by omega]
    refine h12.of_block fun g' hg' hlt => hgs.block g' hlt ?_
    have := OR.ne hrow2 h12 (by decide)
    rw [hg'] at this
    exact this.symm
  · refine hfr.trans ((FrT.of_alk a0).trans (((hbuf.alk a0).fr h2 (by simp)).trans ((FrT.of_alk a2).trans (FrT.of_grown hgs hib (row_tag hrow2 _ (by simp))))))

theorem info22 : (Tryz.prog.info? 22).map (fun i => (i.zero, i.size, i.bytes)) = some (some (.slice none 0 0), 1, 24) := by kernel_rfl

theorem map_get! {zs : List Int} (f : Int → List UInt8) {j : Nat} (h : j < zs.length) : (zs.map f)[j]! = f zs[j]! := by
  rw [getElem!_pos (zs.map f) j (by simpa using h), getElem!_pos zs j h, List.getElem_map]

theorem itF_set2 {nao : Option Addr} {nn ncap mb : Nat} {sao sao' : Option Addr} {sn scap sn' scap' : Nat} {bao : Option Addr} {bn bcap : Nat} {w : World} {ib : Nat} (h : w.rowIs ib 104 4 (itF nao nn ncap mb sao sn scap bao bn bcap)) :
    (w.setCell ⟨ib, 2, none⟩ (.slice sao' sn' scap')).rowIs ib 104 4 (itF nao nn ncap mb sao' sn' scap' bao bn bcap) := by
  refine (h.set 2 _).congr fun j hj => ?_
  match j, hj with
  | 0, _ => simp [itF]
  | 1, _ => simp [itF]
  | 2, _ => simp [itF]
  | 3, _ => simp [itF]

theorem SetsAre.snoc {w : World} {base : Nat} {nm : Nat → ByteArray} {tab : List (List Int)} {sc : List Value} {zs : List Int} {g n : Nat} (h : SetsAre w base nm tab sc) (hl : sc.length = tab.length) (hz : zs.length = n) (hg : base ≤ g) (hr : w.rowIs g 9 n (fun i => encStr (srtN nm zs)[i]!)) (h0 : 0 < tab.length) :
    SetsAre w base nm (tab ++ [zs]) (sc ++ [.slice (some ⟨g, 0, none⟩) n n]) := by
  refine ⟨by rw [List.getElem?_append_left (by omega)]; exact h.1, fun k k0 hk => ?_⟩
  rw [List.length_append, List.length_singleton] at hk
  by_cases e : k = tab.length
  · subst e
    have e1 : (tab ++ [zs])[tab.length]! = zs := by rw [getElem!_pos (tab ++ [zs]) tab.length (by simp)]; simp
    rw [e1, hz]
    exact ⟨g, by rw [List.getElem?_append_right (by omega), hl]; simp, hg, hr⟩
  · have hk' : k < tab.length := by omega
    have e1 : (tab ++ [zs])[k]! = tab[k]! := by rw [getElem!_pos (tab ++ [zs]) k (by simp; omega), getElem!_pos tab k hk', List.getElem_append_left hk']
    rw [e1]
    obtain ⟨g', h1, h2, h3⟩ := h.2 k k0 hk'
    exact ⟨g', by rw [List.getElem?_append_left (by omega)]; exact h1, h2, h3⟩

theorem pos_of_zero {tab : List (List Int)} {x : List Int} (h : tab[0]? = some x) : 0 < tab.length := by
  rcases tab with _ | ⟨a, t⟩
  · cases h
  · simp

theorem look_drew {w : World} {mb : Nat} {tab : List (List Int)} (h : MapIs w mb tab) (zs : List Int) (hz : okIds zs) (hl : zs.length ≤ 1000000) :
    ∃ c, (∀ q, (Instr.lookup 101 (.map (some mb)) (.string (strOfNums (keyN zs))) true).run Tryz.prog (w.drewN q) = .ok (.tuple #[.int .u32 c, .bool (decide (zs ∈ tab))]) (w.drewN q)) ∧ (zs ∈ tab → c = tab.idxOf zs) := by
  by_cases hm : zs ∈ tab
  · refine ⟨tab.idxOf zs, fun q => ?_, fun _ => rfl⟩
    obtain ⟨c, h1, h2, _⟩ := MapIs.look (h.of_block (w' := w.drewN q) rfl) zs hz hl
    rw [h1, h2 hm]
  · refine ⟨0, fun q => ?_, fun h => absurd h hm⟩
    obtain ⟨c, h1, _, h2⟩ := MapIs.look (h.of_block (w' := w.drewN q) rfl) zs hz hl
    rw [h1, h2 hm]

theorem conv_key {w : World} {base : Nat} {bao : Option Addr} {n bcap : Nat} {zs : List Int} (h : OR w base 5 bao (4 * n) bcap ((keyN zs).map (.int .u8))) (hl : zs.length = n) :
    ∀ q, (convert 102 9 (.slice bao (4 * n) bcap)).run Tryz.prog (w.drewN q) = .ok (.string (strOfNums (keyN zs))) (w.drewN q) := by
  intro q
  have hx := keyN_len zs
  obtain ⟨h1, h2⟩ := h
  rcases h2 with ⟨rfl, h3, h4⟩ | ⟨g, f, rfl, h4, h5, h6, h7, h8⟩
  · rw [run_convert_bytes_nil (P := Tryz.prog) (w.drewN q) 102 5 Tryz.underlying102 Tryz.underlying5 _ _ 9 Tryz.underlying9]
    have : zs = [] := List.eq_nil_of_length_eq_zero (by omega)
    subst this
    rfl
  · refine run_convert_bytes_arg (P := Tryz.prog) (w.drewN q) 102 5 Tryz.underlying102 Tryz.underlying5 g 0 (4 * n) bcap (keyN zs) (by omega) (fun i hi => ?_) 9 Tryz.underlying9
    have hc := h7.cell (show i < bcap by omega)
    have h9 := h8 i hi
    rw [List.getElem?_map, List.getElem?_eq_getElem (by omega)] at h9
    rw [Nat.zero_add]
    show w.cell? _ = _
    rw [hc, ← h9]
    simp [List.getD, List.getElem?_eq_getElem (show i < (keyN zs).length by omega)]

set_option maxRecDepth 100000 in
set_option maxHeartbeats 2000000 in
theorem intern_any (base ib : Nat) (nao : Option Addr) (nn ncap : Nat) (nm : Nat → ByteArray) (tab : List (List Int)) (ao : Option Addr) (n cap : Nat) (zs : List Int) (w : World)
    (hI : ItnE w base ib nao nn ncap nm tab) (hown : OR w base 21 ao n cap (zs.map (Value.int .i32))) (hz : ∀ z ∈ zs, 0 ≤ z ∧ z < nn) (hnn : nn ≤ 100000) (hn : n ≤ 10000) (htab : tab.length ≤ 100000) (hbase : base ≤ w.heap.size) :
    Calls Tryz.prog 63 #[.pointer (some ⟨ib, 0, none⟩), .slice ao n cap] w fun e w' => InPost w base ib nao nn ncap nm tab zs e w' := by
  obtain ⟨mb, sao, scap, bao, bn, bcap, sc, bc, hI⟩ := hI
  have c0 : w.cell? ⟨ib, 0, none⟩ = some (.slice nao nn ncap) := hI.fields.cell (by omega)
  have c1 : w.cell? ⟨ib, 1, none⟩ = some (.map (some mb)) := hI.fields.cell (by omega)
  have c2 : w.cell? ⟨ib, 2, none⟩ = some (.slice sao tab.length scap) := hI.fields.cell (by omega)
  have c3 : w.cell? ⟨ib, 3, none⟩ = some (.slice bao bn bcap) := hI.fields.cell (by omega)
  have f3 : w.frozen? ⟨ib, 3, none⟩ = false := hI.fields.frozen 3
  go_enter Tryz.func63, Tryz.ntmps63
  have hokz : okIds zs := fun z h => ⟨(hz z h).1, by have := (hz z h).2; omega⟩
  have hzl : zs.length = n := by simpa using hown.1
  have HI : Hid (Itn w base ib nao nn ncap nm tab mb sao scap bao bn bcap sc bc) := hI
  have HO : Hid (OR w base 21 ao n cap (zs.map (Value.int .i32))) := hown
  clear hI hown
  go_wp2
  clear c0 c1 c2 c3 f3
  go_loopg [23] n (fun gk x23 wr => ∃ k : Nat, k ≤ n ∧ gk = n - k ∧ x23 = .int .i64 (k : Int) ∧ Hid (BufAt w base ib nao nn ncap mb sao tab.length scap zs k wr))
  case atStart => exact ⟨0, by omega, rfl, rfl, BufAt.start HI.out zs⟩
  case round =>
    obtain ⟨k, hk, hgk, rfl, HB⟩ := hrel
    by_cases hlt : k < n
    · have hlt' : (k : Int) < (n : Int) := by omega
      obtain ⟨bao', bcap', hrow, hbuf, hfr⟩ := HB.out
      obtain ⟨g, v, hg, -, hv, hcell, -⟩ := (hfr.own HO.out (by decide)).cell hlt
      subst hg
      rw [List.getElem?_map, List.getElem?_eq_getElem (by omega)] at hv
      cases hv
      have hz1 := hz zs[k] (List.getElem_mem _)
      have c0 : wr.cell? ⟨ib, 3, none⟩ = some (.slice bao' (4 * k) bcap') := hrow.cell (by omega)
      have HX : Hid (wr.rowIs ib 104 4 (itF nao nn ncap mb sao tab.length scap bao' (4 * k) bcap') ∧ OR wr base 5 bao' (4 * k) bcap' ((keyN (zs.take k)).map (.int .u8)) ∧ FrT base [104, 5] w wr) := ⟨hrow, hbuf, hfr⟩
      clear hrow hbuf hfr HB
      generalize hzk : zs[k] = zk at *
      have hz2 : zk < 4294967296 := by omega
      have hw4 : IntKind.u32.wrap zk = zk := by rw [IntKind.wrap_u32]; omega
      have hzk2 : zs[k]? = some zk := by rw [List.getElem?_eq_getElem (by omega), hzk]
      have hb2 : base ≤ wr.heap.size := Nat.le_trans hbase HX.out.2.2.size
      go_upto_region 5 with fail
      have ha : Alk wr.drew wr := ⟨rfl, rfl, rfl, rfl⟩
      have hcall := (appendU32 base bao' (4 * k) bcap' ((keyN (zs.take k)).map (.int .u8)) zk wr.drew (by omega) (by omega) (by omega) (HX.out.2.1.alk ha) (by rw [ha.heap]; exact hb2)).mono (fun e w' hap => BufAt.push HX.out.1 HX.out.2.1 HX.out.2.2 HI.out.ibB hzk2 ha hap)
      clear ha
      go_region_with ((go_at_call 77; go_must (refine hcall.mono ?_; rintro e w' ⟨g2, cap2, rfl, k1, k2, k3⟩)))
      all_goals
        go_wp2
        go_roundg (n - (k + 1))
        case measure => omega
        case rel => exact ⟨k + 1, by omega, rfl, by go_num, k3 _ (Alk.refl _)⟩
    · obtain rfl : n = k := by omega
      obtain ⟨wq, rfl⟩ : ∃ wq, wq = wr := ⟨wr, rfl⟩
      obtain ⟨bao', bcap', hrow, hbuf, hfr⟩ := HB.out
      clear HB
      have htk : zs.take n = zs := List.take_of_length_le (by omega)
      rw [htk] at hbuf
      have hmap : MapIs wq mb tab := HI.out.map.fr hfr (by decide)
      obtain ⟨c, hlook, hc⟩ : ∃ c, (∀ q, (Instr.lookup 101 (.map (some mb)) (.string (strOfNums (keyN zs))) true).run Tryz.prog (wq.drewN q) = .ok (.tuple #[.int .u32 c, .bool (decide (zs ∈ tab))]) (wq.drewN q)) ∧ (zs ∈ tab → c = tab.idxOf zs) := look_drew hmap zs hokz (by omega)
      have hconv := conv_key hbuf (by omega)
      have c0 : wq.cell? ⟨ib, 0, none⟩ = some (.slice nao nn ncap) := hrow.cell (by omega)
      have c1 : wq.cell? ⟨ib, 1, none⟩ = some (.map (some mb)) := hrow.cell (by omega)
      have c2 : wq.cell? ⟨ib, 2, none⟩ = some (.slice sao tab.length scap) := hrow.cell (by omega)
      have c3 : wq.cell? ⟨ib, 3, none⟩ = some (.slice bao' (4 * n) bcap') := hrow.cell (by omega)
      by_cases hm : zs ∈ tab
      · have hmb : decide (zs ∈ tab) = true := decide_eq_true hm
        rw [hmb, hc hm] at hlook
        have HM : Hid (zs ∈ tab) := hm
        have HX : Hid (wq.rowIs ib 104 4 (itF nao nn ncap mb sao tab.length scap bao' (4 * n) bcap') ∧ OR wq base 5 bao' (4 * n) bcap' ((keyN zs).map (.int .u8)) ∧ FrT base [104, 5] w wq) := ⟨hrow, hbuf, hfr⟩
        clear hc hm hmb hrow hbuf hfr hmap
        go_wp2
        go_quiet (fail)
        go_wp2
        go_ret
        obtain ⟨hrow, hbuf, hfr⟩ := HX.out
        have ha := Alk.drewN wq nq
        refine ⟨?_, ?_, ?_⟩
        · unfold tabN; rw [if_pos HM.out]; rfl
        · unfold tabN
          rw [if_pos HM.out]
          exact ⟨mb, sao, scap, bao', 4 * n, bcap', sc, _, hrow.of_block rfl, HI.out.ibB, HI.out.mbB, (HI.out.map.fr hfr (by decide)).of_block rfl, (hfr.own HI.out.sets (by decide)).alk ha, (HI.out.rows.fr hfr (by decide)).fr (FrT.of_alk (base := base) (S := []) ha) (by decide), hbuf.alk ha, (HI.out.names.below (hfr.below hbase) (Nat.le_refl _)).below (ha.below base) (Nat.le_refl _), HI.out.zero⟩
        · exact (hfr.wide (by decide)).trans (FrT.of_alk ha)
      · have hmb : decide (zs ∈ tab) = false := decide_eq_false hm
        rw [hmb] at hlook
        have HM : Hid (zs ∉ tab) := hm
        have HX : Hid (wq.rowIs ib 104 4 (itF nao nn ncap mb sao tab.length scap bao' (4 * n) bcap') ∧ OR wq base 5 bao' (4 * n) bcap' ((keyN zs).map (.int .u8)) ∧ FrT base [104, 5] w wq) := ⟨hrow, hbuf, hfr⟩
        clear hc hm hmb hrow hbuf hfr hmap
        have mk := fun w => run_make_row' (P := Tryz.prog) 22 9 (.string ⟨#[]⟩) 16 Tryz.underlying22 info9 rfl .i64 .i64 n (by omega) (by omega) w
        go_wp2
        go_quiet (fail)
        go_wp2
        clear mk hlook hconv c0 c1 c2 c3
        have n0 : 0 < n := by
          rcases Nat.eq_zero_or_pos n with h | h
          · exfalso
            have e0 : zs = [] := List.eq_nil_of_length_eq_zero (by omega)
            have h1 := HI.out.zero
            exact HM.out (by rw [e0]; exact List.mem_of_getElem? h1)
          · exact h
        go_loopg [59] n (fun gk x59 wz => ∃ k : Nat, k ≤ n ∧ gk = n - k ∧ x59 = .int .i64 (k : Int) ∧ Hid (wz.rowIs wq.heap.size 9 n (fun j => if j < k then Value.string (nm (zs[j]!).toNat) else .string ⟨#[]⟩) ∧ Below wq.heap.size wq wz))
        case atStart => exact ⟨0, by omega, rfl, rfl, (World.rowIs_made (wq.drewN nq) (.string ⟨#[]⟩) n 9).congr fun i _ => by simp, ((Alk.drewN wq nq).below _).alloc (Nat.le_refl _) _⟩
        case round =>
          obtain ⟨k, hk, hgk2, rfl, HZ⟩ := hrel
          obtain ⟨hrow, hbuf, hfr⟩ := HX.out
          have hbelow := HZ.out.2
          by_cases hlt : k < n
          · have hlt' : (k : Int) < (n : Int) := by omega
            obtain ⟨g, v, hg, -, hv, hcell, -⟩ := (hfr.own HO.out (by decide)).cell hlt
            subst hg
            rw [List.getElem?_map, List.getElem?_eq_getElem (by omega)] at hv
            cases hv
            have hz1 := hz zs[k] (List.getElem_mem _)
            have hcell' : wr.cell? ⟨g, k, none⟩ = some (.int .i32 zs[k]) := (hbelow.cell (p := ⟨g, k, none⟩) (lt_of_cell hcell)).trans hcell
            obtain ⟨zk, hzk⟩ : ∃ z, z = zs[k] := ⟨_, rfl⟩
            rw [← hzk] at hz1 hcell'
            have hzb : zs[k]! = zk := by rw [hzk, getElem!_pos zs k (by omega)]
            obtain ⟨id, hid⟩ : ∃ i : Nat, (i : Int) = zk := ⟨zk.toNat, by omega⟩
            subst hid
            have c0 : wr.cell? ⟨ib, 0, none⟩ = some (.slice nao nn ncap) := (hbelow.cell (p := ⟨ib, 0, none⟩) hrow.lt).trans (hrow.cell (by omega))
            obtain ⟨nb, noff, hnao, hncell⟩ := (HI.out.names.below (hfr.below hbase) (Nat.le_refl _)).cell (show id < nn by omega)
            subst hnao
            have hnc : wr.cell? ⟨nb, noff + id, none⟩ = some (.string (nm id)) := (hbelow.cell (p := ⟨nb, noff + id, none⟩) (lt_of_cell hncell)).trans hncell
            have hid2 : (id : Int) < (nn : Int) := hz1.2
            have d0 : wr.cell? ⟨wq.heap.size, k, none⟩ = some (.string ⟨#[]⟩) := by
              have := HZ.out.1.cell hlt
              simpa using this
            have d1 : wr.frozen? ⟨wq.heap.size, k, none⟩ = false := HZ.out.1.frozen k
            clear hcell hncell hbelow hrow hbuf hfr hz1 hzk
            go_wp2
            go_roundg (n - (k + 1))
            case measure => omega
            case rel =>
              refine ⟨k + 1, by omega, rfl, by go_num, (HZ.out.1.set k _).congr fun j hj => ?_, HZ.out.2.setCell (Nat.le_refl _) _⟩
              by_cases e : j = k
              · subst e; simp [hzb]
              · by_cases e2 : j < k
                · simp [e, e2, show j < k + 1 from by omega]
                · simp [e, e2, show ¬ j < k + 1 from by omega]
          · obtain rfl : n = k := by omega
            go_wp2_with fail
            have hrz : wr.rowIs wq.heap.size 9 n (fun i => encStr (zs.map fun z => (nm z.toNat).data.toList)[i]!) := HZ.out.1.congr fun j hj => by
              rw [if_pos hj, map_get! _ (by omega)]; first | rfl | done
            refine (sortStr_row wq.heap.size n n (zs.map fun z => (nm z.toNat).data.toList) wr (by simpa using hzl) (by omega) n0 hrz).mono ?_
            rintro e w5 ⟨rfl, hr5, hg5⟩
            have b5 : Below wq.heap.size wq w5 := ⟨hg5.os.trans hbelow.os, hg5.tape.trans hbelow.tape, hg5.output.trans hbelow.output, Nat.le_trans hbelow.size hg5.size, fun q hq => (hg5.block q (Nat.lt_of_lt_of_le hq hbelow.size) (fun e => by have := Option.some.inj e; omega)).trans (hbelow.block q hq)⟩
            have HS : Hid (w5.rowIs wq.heap.size 9 n (fun i => encStr (srtN nm zs)[i]!) ∧ Below wq.heap.size wq w5) := ⟨hr5, b5⟩
            have c2 : w5.cell? ⟨ib, 2, none⟩ = some (.slice sao tab.length scap) := (b5.cell (p := ⟨ib, 2, none⟩) hrow.lt).trans (hrow.cell (by omega))
            have hs5 : OR w5 base 22 sao tab.length scap sc := (hfr.own HI.out.sets (by decide)).of_block fun g _ hlt => b5.block g hlt
            have hbw : base ≤ w5.heap.size := Nat.le_trans hbase (Nat.le_trans hfr.size b5.size)
            have hs6 : OR (w5.alloc (.cells #[.slice (some ⟨wq.heap.size, 0, none⟩) n n] 22)) base 22 sao tab.length scap sc := hs5.of_block fun g _ hlt => Below.heap_alloc _ _ _ hlt
            obtain ⟨g6, cap6, w6, r6, o6, gr6, at6⟩ := appendOR 35 22 (.slice none 0 0) 24 Tryz.underlying35 info22 rfl (by omega) base sao tab.length scap sc _ hs6 w5.heap.size 1 [.slice (some ⟨wq.heap.size, 0, none⟩) n n] rfl (by omega) (alloc_new _ _) (fun u hu => by simp at hu; subst hu; rfl) (by omega) (by simp; omega)
            have htl : IntKind.u32.wrap (tab.length : Int) = tab.length := by rw [IntKind.wrap_u32]; omega
            have F56 : FrT base [22] w5 w6 := (FrT.alloc _ _).trans (hs6.fr gr6 (by simp))
            have F6 : FrT base [22] wq w6 := FrT.trans ⟨b5.os, b5.tape, b5.output, b5.size, fun q hq => .inl (b5.block q hq)⟩ F56
            have hrow6 := F6.row hrow (by decide)
            have c26 : w6.cell? ⟨ib, 2, none⟩ = some (.slice sao tab.length scap) := hrow6.cell (by omega)
            have f26 : w6.frozen? ⟨ib, 2, none⟩ = false := hrow6.frozen 2
            have HR6 : Hid (w6.rowIs ib 104 4 (itF nao nn ncap mb sao tab.length scap bao' (4 * n) bcap')) := hrow6
            have HF6 : Hid (FrT base [22] w5 w6 ∧ FrT base [22] wq w6 ∧ OR w6 base 22 (some ⟨g6, 0, none⟩) (tab.length + 1) cap6 (sc ++ [.slice (some ⟨wq.heap.size, 0, none⟩) n n])) := ⟨F56, F6, o6⟩
            clear hs5 hs6 hrz F56 F6 hrow6 o6 gr6 at6
            go_upto_region 19 with (at_builtin; refine Lib.wpList_append_run _ rfl _ _ _ _ rfl _ _ rfl rfl _ _ r6 ?_)
            clear r6 c26 f26 c2 htl
            obtain ⟨F56, F6, o6⟩ := HF6.out
            generalize hw7 : w6.setCell ⟨ib, 2, none⟩ _ = w7
            have F67 : FrT base [104] w6 w7 := by rw [← hw7]; exact FrT.of_grown (setCell_grown _ _ _ _) HI.out.ibB (row_tag HR6.out _ (by simp))
            have hrow7 : w7.rowIs ib 104 4 (itF nao nn ncap mb (some ⟨g6, 0, none⟩) (tab.length + 1) cap6 bao' (4 * n) bcap') := by rw [← hw7]; exact itF_set2 HR6.out
            have F7 : FrT base [104, 22] wq w7 := (F6.wide (by decide)).trans (F67.wide (by decide))
            have hmap7 : MapIs w7 mb tab := (HI.out.map.fr hfr (by decide)).fr F7 (by decide)
            have hbuf7 : OR w7 base 5 bao' (4 * n) bcap' ((keyN zs).map (.int .u8)) := F7.own hbuf (by decide)
            have hconv : (convert 102 9 (.slice bao' (4 * n) bcap')).run Tryz.prog w7.drew = .ok (.string (strOfNums (keyN zs))) w7.drew := conv_key hbuf7 (by omega) 1
            obtain ⟨w8, r8, hmap8, gr8⟩ := (hmap7.of_block (w' := w7.drew) rfl).put zs hokz (by omega) HM.out (by omega)
            have F8 : FrT base [mapTag] w7 w8 := FrT.trans (w' := w7.drew) (FrT.of_alk ⟨rfl, rfl, rfl, rfl⟩) (FrT.of_grown gr8 HI.out.mbB (by
              obtain ⟨es, cl, ht⟩ := hmap7.tag
              show TagIn _ w7.heap[mb]?
              rw [ht]; exact List.mem_singleton.2 rfl))
            have d1 : w7.cell? ⟨ib, 1, none⟩ = some (.map (some mb)) := hrow7.cell (by omega)
            have d3 : w7.cell? ⟨ib, 3, none⟩ = some (.slice bao' (4 * n) bcap') := hrow7.cell (by omega)
            have hset : SetsAre w8 base nm (tab ++ [zs]) (sc ++ [.slice (some ⟨wq.heap.size, 0, none⟩) n n]) := by
              have h5 : SetsAre w8 base nm tab sc := (((HI.out.rows.fr hfr (by decide)).fr F7 (by decide))).fr F8 (by decide)
              have h6 : w8.rowIs wq.heap.size 9 n (fun i => encStr (srtN nm zs)[i]!) := F8.row (F67.row (F56.row HS.out.1 (by decide)) (by decide)) (by decide)
              exact h5.snoc HI.out.sets.1 hzl (Nat.le_trans hbase hfr.size) h6 (pos_of_zero HI.out.zero)
            have HXX : Hid (ItnE w8 base ib nao nn ncap nm (tab ++ [zs]) ∧ FrT base [104, 22, 5, mapTag] w w8) := by
              refine ⟨⟨mb, some ⟨g6, 0, none⟩, cap6, bao', 4 * n, bcap', _, _, ?_, HI.out.ibB, HI.out.mbB, hmap8, ?_, hset, F8.own hbuf7 (by decide), ?_, ?_⟩, ?_⟩
              · have := F8.row hrow7 (by decide)
                rw [List.length_append]; exact this
              · have := F8.own (F67.own o6 (by decide)) (by decide)
                rw [List.length_append]; exact this
              · exact ((HI.out.names.below (hfr.below hbase) (Nat.le_refl _)).below (F7.below (Nat.le_trans hbase hfr.size)) (Nat.le_refl _)).below (F8.below (Nat.le_trans hbase (Nat.le_trans hfr.size F7.size))) (Nat.le_refl _)
              · rw [List.getElem?_append_left (pos_of_zero HI.out.zero)]; exact HI.out.zero
              · exact (hfr.wide (by decide)).trans ((F7.wide (by decide)).trans (F8.wide (by decide)))
            clear hset F8 hmap8 gr8 hmap7 hbuf7 F7 hrow7 F67 hw7 F56 F6 o6 HF6 HR6 b5 hbelow hrow hbuf hfr
            go_region
            go_wp2
            go_ret
            refine ⟨?_, ?_, HXX.out.2⟩
            · unfold tabN
              rw [if_neg HM.out, List.idxOf_append, if_neg HM.out]
              simp
            · unfold tabN
              rw [if_neg HM.out]
              exact HXX.out.1
theorem MapIs.made (w : World) : ∃ w', (Instr.mapUpdate 101 (.map (some w.heap.size)) (.string ⟨#[]⟩) (.int .u32 0)).run Tryz.prog (w.alloc (.map #[] 0)) = .ok () w' ∧ MapIs w' w.heap.size [[]] ∧ (w.alloc (.map #[] 0)).grownBy w' (some w.heap.size) := by
  have h : MapIs (w.alloc (.map #[] 0)) w.heap.size [] := ⟨_, World.ownsMap_made w Tryz.prog 9 (plainElem Tryz.prog 41), fun zs _ => ⟨by simp [Maps.has], fun h => by cases h⟩⟩
  obtain ⟨w', h1, h2, h3⟩ := h.put [] (fun z hz => by cases hz) (by simp) (by simp) (by simp)
  exact ⟨w', h1, h2, h3⟩

set_option maxRecDepth 100000 in
set_option maxHeartbeats 2000000 in
theorem newInterner_any (bb : Nat) (nao : Option Addr) (nn ncap : Nat) (nm : Nat → ByteArray) (w : World) (hc : w.cell? ⟨bb, 0, none⟩ = some (.slice nao nn ncap)) (hn : Row w 0 w.heap.size nao nn (fun i => Value.string (nm i))) :
    Calls Tryz.prog 32 #[.pointer (some ⟨bb, 0, none⟩)] w fun e w' => ∃ ib, e = .returned (.pointer (some ⟨ib, 0, none⟩)) ∧ ItnE w' w.heap.size ib nao nn ncap nm [[]] ∧ w.grownBy w' none := by
  obtain ⟨w1, r1, m1, g1⟩ := MapIs.made w
  have s1 : w.heap.size + 1 ≤ w1.heap.size := by have := g1.size; simpa using this
  have G1 : Hid (MapIs w1 w.heap.size [[]] ∧ (w.alloc (.map #[] 0)).grownBy w1 (some w.heap.size)) := ⟨m1, g1⟩
  clear m1 g1
  have mm : (Instr.makeMap 101 none).run Tryz.prog w = .ok (.map (some w.heap.size)) (w.alloc (.map #[] 0)) := rfl
  go_enter Tryz.func32, Tryz.ntmps32
  go_wp2
  go_ret
  generalize hw2 : (w1.alloc _).alloc _ = w2
  have t2 : w2.rowIs (w1.heap.size + 1) 104 4 (itF nao nn ncap w.heap.size (some ⟨w1.heap.size, 0, none⟩) 1 1 none 0 0) := by
    refine ⟨#[.slice nao nn ncap, .map (some w.heap.size), .slice (some ⟨w1.heap.size, 0, none⟩) 1 1, .slice none 0 0], ?_, rfl, fun i hi => ?_⟩
    · rw [← hw2, show w1.heap.size + 1 = (w1.alloc (.cells #[.slice none 0 0] 22)).heap.size from by simp]; exact alloc_new _ _
    · match i, hi with
      | 0, _ => rfl
      | 1, _ => rfl
      | 2, _ => rfl
      | 3, _ => rfl
  have o2 : ∀ k, k < w1.heap.size → w2.heap[k]? = w1.heap[k]? := fun k hk => by
    rw [← hw2, Below.heap_alloc _ _ _ (by simp; omega), Below.heap_alloc _ _ _ hk]
  have r2 : w2.rowIs w1.heap.size 22 1 (fun _ => .slice none 0 0) := by
    refine ⟨#[.slice none 0 0], ?_, rfl, fun i hi => ?_⟩
    · rw [← hw2, Below.heap_alloc _ _ _ (by simp)]; exact alloc_new _ _
    · obtain rfl : i = 0 := by omega
      rfl
  have G2 : w.grownBy w2 none := by
    have g := G1.out.2
    refine ⟨by rw [← hw2]; exact g.os, by rw [← hw2]; exact g.tape, by rw [← hw2]; exact g.output, by rw [← hw2]; simp; omega, fun k hk _ => ?_⟩
    rw [o2 k (by omega), g.block k (by simp; omega) (fun e => by have := Option.some.inj e; omega), Below.heap_alloc _ _ _ hk]
  refine ⟨w1.heap.size + 1, rfl, ⟨w.heap.size, some ⟨w1.heap.size, 0, none⟩, 1, none, 0, 0, [.slice none 0 0], [], ?_, by omega, by omega, G1.out.1.of_block (o2 _ (by omega)), ?_, ?_, ?_, ?_, rfl⟩, G2⟩
  · exact t2
  · exact ⟨rfl, .inr ⟨w1.heap.size, _, rfl, by omega, by simp, by simp [maxLen], r2, fun j hj => by
      obtain rfl : j = 0 := by simpa using hj
      rfl⟩⟩
  · exact ⟨rfl, fun k k0 hk => by simp at hk; omega⟩
  · exact ⟨rfl, .inl ⟨rfl, rfl, rfl⟩⟩
  · exact hn.of_blocks fun b _ hb => G2.block b hb (by simp)

end Go.Proofs.Qxb6618911aGreat
