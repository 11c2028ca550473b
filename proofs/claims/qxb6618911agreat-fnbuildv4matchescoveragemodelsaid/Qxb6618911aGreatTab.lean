/-
  buildTable (key4).
-/
import Derived.Test.Qxb6618911aGreatTabStart
import Derived.Deep.CutBlock
import Derived.Deep.DeepCutAuto
namespace Go.Proofs.Qxb6618911aGreat
open Go.RowKit Go.Lib Go.Shelf Go.Sort

theorem hE_mem {E l : List T3} {m nn i : Nat} (hp : E.Perm (evAll l)) (hm : E.length = m) (hl : ∀ x ∈ l, 0 ≤ x.1 ∧ x.1 ≤ x.2.1 ∧ x.2.1 ≤ 4294967295 ∧ 0 ≤ x.2.2 ∧ x.2.2 < nn) (hi : i < m) :
    0 ≤ (E[i]!).2.1 ∧ (E[i]!).2.1 < nn ∧ ((E[i]!).2.2 = 1 ∨ (E[i]!).2.2 = -1) := by
  have hin : E[i]! ∈ E := by rw [getElem!_pos E i (by omega)]; exact List.getElem_mem _
  obtain ⟨x, hx, e1, e2⟩ := evAll_mem (hp.mem_iff.1 hin)
  have := hl x hx
  refine ⟨by omega, by omega, ?_⟩
  rcases e2 with h | h
  · exact .inl h.2
  · exact .inr h.2.2

theorem cnt_step (E : List T3) {i : Nat} (hi : i < E.length) (s : Int) (hd : (E[i]!).2.2 = 1 ∨ (E[i]!).2.2 = -1) : cntOf (E.take (i + 1)) s = cntOf (E.take i) s + if (E[i]!).2.1 = s then (E[i]!).2.2 else 0 := by
  rw [List.take_add_one, List.getElem?_eq_getElem hi]
  rw [getElem!_pos E i hi] at hd ⊢
  exact cnt_snoc _ _ _ hd

/-- Behind buildTable. -/
def TabPost (w : World) (base ib : Nat) (nao : Option Addr) (nn ncap : Nat) (nm : Nat → ByteArray) (tab : List (List Int)) (l : List T3) (e : Ending) (w' : World) : Prop :=
  ∃ (ps : List Int) (sao : Option Addr) (scap : Nat) (uao : Option Addr) (ucap : Nat), ps.Pairwise (· < ·) ∧ (∀ q, q ∈ ps ↔ ∃ e ∈ evAll l, e.1 = q) ∧
    e = .returned (.agg #[.slice sao (tfold nn l tab ps).1.length scap, .slice uao (tfold nn l tab ps).2.1.length ucap, .slice none 0 0]) ∧
    OR w' w.heap.size 71 sao (tfold nn l tab ps).1.length scap ((tfold nn l tab ps).1.map (.int .u32)) ∧ OR w' w.heap.size 41 uao (tfold nn l tab ps).2.1.length ucap ((tfold nn l tab ps).2.1.map (.int .u32)) ∧
    ItnE w' base ib nao nn ncap nm (tfold nn l tab ps).2.2 ∧ FrT base [104, 22, 5, mapTag] w w'

theorem len_sub : ∀ (ps L : List Int), ps.Nodup → (∀ q ∈ ps, q ∈ L) → ps.length ≤ L.length
  | [], _, _, _ => Nat.zero_le _
  | q :: ps, L, hn, hs => by
    have hq : q ∈ L := hs q (by simp)
    have h1 := len_sub ps (L.erase q) (List.nodup_cons.1 hn).2 (fun x hx => (List.mem_erase_of_ne (fun e : x = q => (List.nodup_cons.1 hn).1 (by rw [← e]; exact hx))).2 (hs x (by simp [hx])))
    rw [List.length_erase_of_mem hq] at h1
    have := List.length_pos_of_mem hq
    simp; omega

theorem ps_len {E : List T3} {i m : Nat} {ps : List Int} (hm : E.length = m) (h : PsOk E i ps) : ps.length ≤ m := by
  have hnd : ps.Nodup := h.2.1.imp fun h => by omega
  have hsub : ∀ q ∈ ps, q ∈ E.map (·.1) := fun q hq => by
    obtain ⟨e, he, rfl⟩ := (h.2.2 q).1 hq
    exact List.mem_map_of_mem (List.mem_of_mem_take he)
  have := len_sub ps _ hnd hsub
  simpa [hm] using this

theorem opn_fresh {w : World} {base ib : Nat} {nao : Option Addr} {nn ncap : Nat} {nm : Nat → ByteArray} {st : List Int × List Int × List (List Int)} {E : List T3} {m cb tb eb : Nat} {f : Int → Int} {zs : List Int} {oao : Option Addr} {on ocap : Nat} {wr : World}
    (h : TSt w base ib nao nn ncap nm st E m cb tb eb f zs oao on ocap wr) : blkOf oao ≠ some wr.heap.size := by
  obtain ⟨_, h2⟩ := h.opn
  rcases h2 with ⟨rfl, _⟩ | ⟨g, f', rfl, _, _, _, h7, _⟩
  · simp [blkOf]
  · have := h7.lt
    intro e
    have := Option.some.inj e
    simp at this
    omega

set_option maxRecDepth 100000 in
set_option maxHeartbeats 4000000 in
theorem table_any (base ib : Nat) (nao : Option Addr) (nn ncap : Nat) (nm : Nat → ByteArray) (tab : List (List Int)) (sao : Option Addr) (l : List T3) (n : Nat) (w : World) (hn : l.length = n) (hn2 : n ≤ 1024) (hnn : nn ≤ 4096) (hbase : base ≤ w.heap.size)
    (hsp : ∀ i, i < n → ∃ sb, sao = some ⟨sb, 0, none⟩) (hR : ∀ sb, sao = some ⟨sb, 0, none⟩ → sb < base ∧ R3 spV w sb n (fun i => l[i]!)) (hl : ∀ x ∈ l, 0 ≤ x.1 ∧ x.1 ≤ x.2.1 ∧ x.2.1 ≤ 4294967295 ∧ 0 ≤ x.2.2 ∧ x.2.2 < nn)
    (hI : ItnE w base ib nao nn ncap nm tab) (ht : tab.length ≤ 10000) :
    Calls Tryz.prog 36 #[.slice sao n n, .int .i64 nn, .pointer (some ⟨ib, 0, none⟩)] w fun e w' => TabPost w base ib nao nn ncap nm tab l e w' := by
  have HL : Hid (∀ x ∈ l, 0 ≤ x.1 ∧ x.1 ≤ x.2.1 ∧ x.2.1 ≤ 4294967295 ∧ 0 ≤ x.2.2 ∧ x.2.2 < nn) := hl
  have HSP : Hid (∀ i, i < n → ∃ sb, sao = some ⟨sb, 0, none⟩) := hsp
  have HRR : Hid (∀ sb, sao = some ⟨sb, 0, none⟩ → sb < base ∧ R3 spV w sb n (fun i => l[i]!)) := hR
  have HN : Hid (l.length = n) := hn
  have HI : Hid (ItnE w base ib nao nn ncap nm tab) := hI
  clear hI hl hsp hR hn
  have mk1 : ∀ w : World, (Instr.makeSlice 121 (.int .i64 0) (.int .i64 (2 * (n : Int)))).run Tryz.prog w = .ok (.slice (some ⟨w.heap.size, 0, none⟩) 0 (2 * n)) (w.alloc (.cells (madeCells (Value.agg #[.int .u32 0, .int .i32 0, .int .i32 0]).cells (2 * n * 3)) 125)) := fun w => by
    have h := makeK 121 125 (.agg #[.int .u32 0, .int .i32 0, .int .i32 0]) 3 12 Tryz.underlying121 info125 0 (2 * n) (by omega) (by omega) (by omega) w
    rw [show ((2 * n : Nat) : Int) = 2 * (n : Int) from by omega] at h
    exact h
  have mk2 := fun w => run_make_row' (P := Tryz.prog) 24 21 (.int .i32 0) 4 Tryz.underlying24 info21' rfl .i64 .i64 nn (by omega) (by omega) w
  go_enter Tryz.func36, Tryz.ntmps36
  go_wp2
  clear mk1
  go_loopg [7, 32] n (fun gk x7 x32 wr => ∃ k m : Nat, k ≤ n ∧ gk = n - k ∧ x7 = .slice (some ⟨w.heap.size + 1, 0, none⟩) m (2 * n) ∧ x32 = .int .i64 (k : Int) ∧ Hid (EvAt w base l k m wr))
  case atStart =>
    refine ⟨0, 0, by omega, rfl, rfl, rfl, rfl, ?_, ?_⟩
    · have := World.ownsRow_made (base := base) (e := 125) (size := 3) (w.alloc (.cells #[.slice none 0 0, .slice none 0 0, .slice none 0 0] 89)) (madeCells #[.int .u32 0, .int .i32 0, .int .i32 0] (2 * n * 3)) (2 * n) (by simp; omega) (by unfold maxLen; omega) (by rw [size_madeCells])
      rw [HN.out]
      simpa [evAll, flatE] using this
    · exact (Below.refl _ _).alloc (by simp) _
  case round =>
    obtain ⟨k, m, hk, hgk, rfl, rfl, HE⟩ := hrel
    by_cases hlt : k < n
    · have hlt' : (k : Int) < (n : Int) := by omega
      obtain ⟨sb, rfl⟩ := HSP.out k hlt
      obtain ⟨hsb, hR3⟩ := HRR.out sb rfl
      obtain ⟨hm, hown, hbel⟩ := HE.out
      have hR4 : R3 spV wr sb n (fun i => l[i]!) := hR3.of_block (by rw [hbel.block sb (by omega), Below.heap_alloc _ _ _ (by omega)])
      obtain ⟨a0, a1, a2, _⟩ := hR4.three hlt
      have hkl : k < l.length := by have := HN.out; omega
      have hx := HL.out l[k]! (by rw [getElem!_pos l k hkl]; exact List.getElem_mem _)
      have hlk : Hid (evAll (l.take (k + 1)) = evAll (l.take k) ++ evOf l[k]!) := by
        exact evAll_take hkl
      have hm2 : m ≤ 2 * k := by
        have hml := evAll_len (l.take k)
        rw [List.length_take] at hml
        omega
      have HM : Hid (m = (evAll (l.take k)).length) := hm
      have HX : Hid (wr.ownsRow base 125 3 (.slice (some ⟨w.heap.size + 1, 0, none⟩) m (2 * n)) m (flatE (evAll (l.take k))) ∧ Below (w.heap.size + 1) (w.alloc (.cells #[.slice none 0 0, .slice none 0 0, .slice none 0 0] 89)) wr) := ⟨by rw [HN.out] at hown; exact hown, hbel⟩
      obtain ⟨x, hxx⟩ : ∃ x, x = l[k]! := ⟨_, rfl⟩
      rw [← hxx] at a0 a1 a2 hx hlk
      clear hown hbel hR4 hR3 HE hkl hm hxx
      have hx2 := hx.2.1
      have hx3 := hx.2.2.1
      have hx1 := hx.1
      clear hx
      go_wp2_with fail
      refine (addEv_any base (w.heap.size + 1) (2 * n) m (evAll (l.take k)) x _ HM.out.symm (by omega) (by omega) (by omega) (HX.out.1.alloc _)).mono ?_
      rintro e w' ⟨rfl, o1, g1⟩
      rw [← hlk.out] at o1 ⊢
      obtain ⟨m', hm'⟩ : ∃ m', m' = (evAll (l.take (k + 1))).length := ⟨_, rfl⟩
      rw [← hm'] at o1 ⊢
      have O1 : Hid (m' = (evAll (l.take (k + 1))).length ∧ w'.ownsRow base 125 3 (.slice (some ⟨w.heap.size + 1, 0, none⟩) m' (2 * n)) m' (flatE (evAll (l.take (k + 1))))) := ⟨hm', o1⟩
      have G1 : Hid (Below (w.heap.size + 1) wr w') := ⟨g1.os, g1.tape, g1.output, Nat.le_trans (by simp) g1.size, fun q hq => by
        have hs := HX.out.2.size
        simp at hs
        rw [g1.block q (by simp; omega) (fun e => by have := Option.some.inj e; omega), Below.heap_alloc _ _ _ (by omega)]⟩
      clear o1 g1 hm'
      go_wp2
      go_roundg (n - (k + 1))
      case measure => omega
      case rel => exact ⟨k + 1, m', by omega, rfl, rfl, by go_num, O1.out.1, by rw [HN.out]; exact O1.out.2, HX.out.2.trans G1.out⟩
    · obtain rfl : n = k := by omega
      obtain ⟨hm, hown, hbel⟩ := HE.out
      rw [HN.out] at hown
      rw [List.take_of_length_le (by rw [HN.out]; exact Nat.le_refl _)] at hm hown
      have hm2 : m ≤ 2 * n := by
        have hml := evAll_len l
        rw [HN.out] at hml
        omega
      have HB : Hid (Below (w.heap.size + 1) (w.alloc (.cells #[.slice none 0 0, .slice none 0 0, .slice none 0 0] 89)) wr) := hbel
      have HO : Hid (m = (evAll l).length ∧ wr.ownsRow base 125 3 (.slice (some ⟨w.heap.size + 1, 0, none⟩) m (2 * n)) m (flatE (evAll l))) := ⟨hm, hown⟩
      clear hm hown hbel HE
      go_wp2_with fail
      refine (sortE_own base (w.heap.size + 1) m (2 * n) (evAll l) wr HO.out.1.symm (by omega) HO.out.2).mono ?_
      rintro e w2 ⟨rfl, E, hP, hS, hEl, hR2, hT2, hg2⟩
      have hs1 : w.heap.size + 2 ≤ wr.heap.size := by
        have h : w.heap.size + 1 < wr.heap.size := (HO.out.2.lt (w.heap.size + 1) rfl).2
        omega
      have hs2 : w.heap.size + 2 ≤ w2.heap.size := Nat.le_trans hs1 hg2.size
      have HE : Hid (E.Perm (evAll l) ∧ E.Pairwise (fun a b => a.1 ≤ b.1) ∧ E.length = m) := ⟨hP, hS, hEl⟩
      have H2 : Hid (R3 evV w2 (w.heap.size + 1) m (fun i => E[i]!) ∧ TagIs w2 (w.heap.size + 1) 125 ∧ Below (w.heap.size + 1) (w.alloc (.cells #[.slice none 0 0, .slice none 0 0, .slice none 0 0] 89)) w2) := ⟨hR2, hT2, ⟨hg2.os.trans HB.out.os, hg2.tape.trans HB.out.tape, hg2.output.trans HB.out.output, Nat.le_trans HB.out.size hg2.size, fun q hq => (hg2.block q (by omega) (fun e => by have := Option.some.inj e; omega)).trans (HB.out.block q hq)⟩⟩
      clear hP hS hEl hR2 hT2 hg2 HO HB
      go_wp2
      clear mk2
      generalize hw3 : (((w2.alloc _).alloc _).alloc _).alloc _ = w3
      have T0 : Hid (TRel w base ib nao nn ncap nm (tfold nn l tab []) E m w2.heap.size (w2.heap.size + 1 + 1 + 1) (w.heap.size + 1) 0 none 0 0 w3) := by
        rw [← hw3]
        exact tab_start hs2 hbase H2.out.1 H2.out.2.1 H2.out.2.2 HI.out
      clear hw3
      generalize hcb : w2.heap.size = cb at *
      generalize htb : cb + 1 + 1 + 1 = tb at *
      go_loopg [13, 14] m (fun gk x13 x14 wr => ∃ (i on ocap : Nat) (oao : Option Addr) (ps : List Int), i ≤ m ∧ gk = m - i ∧ x13 = .slice oao on ocap ∧ x14 = .int .i64 (i : Int) ∧ Hid (TRel w base ib nao nn ncap nm (tfold nn l tab ps) E m cb tb (w.heap.size + 1) i oao on ocap wr) ∧ Hid (PsOk E i ps))
      case atStart => exact ⟨0, 0, 0, none, [], by omega, rfl, rfl, rfl, T0, ⟨by simp, .nil, fun q => by simp⟩⟩
      case round =>
        clear T0
        obtain ⟨i, on, ocap, oao, ps, hi, hgk2, rfl, rfl, HT, HP⟩ := hrel
        by_cases hlt2 : i < m
        · have hlt2' : (i : Int) < (m : Int) := by omega
          obtain ⟨p, hp⟩ : ∃ p, p = (E[i]!).1 := ⟨_, rfl⟩
          have e0 : wr.cell? ⟨w.heap.size + 1, i * 3, none⟩ = some (.int .u32 p) := by rw [hp]; exact (HT.out.evs i hlt2 0 (by omega)).1
          have HPP : Hid (p = (E[i]!).1) := hp
          clear hp
          go_upto_block 4 with fail
          clear e0
          go_cut [13, 14] (fun x13 x14 wx => ∃ (i' on ocap : Nat) (oao : Option Addr), i < i' ∧ i' ≤ m ∧ x13 = .slice oao on ocap ∧ x14 = .int .i64 (i' : Int) ∧ Hid (TRel w base ib nao nn ncap nm (tfold nn l tab ps) E m cb tb (w.heap.size + 1) i' oao on ocap wx) ∧ Hid (PsOk E i' (ps ++ [p]) ∧ (∀ e ∈ E.take i', e.1 ≤ p) ∧ (∀ e ∈ E.drop i', p < e.1)))
          case first =>
           go_wp2
           go_loopg [13, 14] (m - i) (fun gk x13 x14 wr => ∃ (i' on ocap : Nat) (oao : Option Addr), i ≤ i' ∧ i' ≤ m ∧ gk = m - i' ∧ x13 = .slice oao on ocap ∧ x14 = .int .i64 (i' : Int) ∧ Hid (TRel w base ib nao nn ncap nm (tfold nn l tab ps) E m cb tb (w.heap.size + 1) i' oao on ocap wr) ∧ Hid (∀ j, i ≤ j → j < i' → (E[j]!).1 = p))
           case atStart => exact ⟨i, on, ocap, oao, by omega, by omega, rfl, rfl, rfl, HT, fun j h1 h2 => by omega⟩
           case round =>
             clear HT
             obtain ⟨i', on', ocap', oao', hii, him, hgk3, rfl, rfl, HT, HJ⟩ := hrel
             by_cases hlt3 : i' < m
             · have hlt3' : (i' : Int) < (m : Int) := by omega
               by_cases hpe : (E[i']!).1 = p
               · have hev := hE_mem HE.out.1 HE.out.2.2 HL.out hlt3
                 have hpeb : ((E[i']!).1 == p) = true := by simpa using hpe
                 have e0 : wr.cell? ⟨w.heap.size + 1, i' * 3, none⟩ = some (.int .u32 p) := by rw [← hpe]; exact (HT.out.evs i' hlt3 0 (by omega)).1
                 have e1 : wr.cell? ⟨w.heap.size + 1, i' * 3 + 1, none⟩ = some (.int .i32 (E[i']!).2.1) := (HT.out.evs i' hlt3 1 (by omega)).1
                 have e2 : wr.cell? ⟨w.heap.size + 1, i' * 3 + 2, none⟩ = some (.int .i32 (E[i']!).2.2) := (HT.out.evs i' hlt3 2 (by omega)).1
                 have hstep := fun s => cnt_step E (i := i') (by rw [HE.out.2.2]; exact hlt3) s hev.2.2
                 obtain ⟨sN, hsN⟩ : ∃ k : Nat, (k : Int) = (E[i']!).2.1 := ⟨(E[i']!).2.1.toNat, by have := hev.1; omega⟩
                 obtain ⟨dl, hdl⟩ : ∃ d, d = (E[i']!).2.2 := ⟨_, rfl⟩
                 obtain ⟨c, hc⟩ : ∃ c, c = cntOf (E.take i') (sN : Int) := ⟨_, rfl⟩
                 have hsn : sN < nn := by have := hev.2.1; omega
                 have c0 : wr.cell? ⟨cb, sN, none⟩ = some (.int .i32 c) := by rw [hc]; exact HT.out.cnt.cell hsn
                 have f0 : wr.frozen? ⟨cb, sN, none⟩ = false := HT.out.cnt.frozen sN
                 have hcb1 := cnt_bound (E.take i') (sN : Int)
                 rw [List.length_take, ← hc] at hcb1
                 have hb1 : -3000 ≤ c := by omega
                 have hb2 : c ≤ 3000 := by omega
                 have hdl2 : dl = 1 ∨ dl = -1 := by rw [hdl]; exact hev.2.2
                 rw [← hdl] at e2
                 rw [← hsN] at e1
                 have HC : Hid (c = cntOf (E.take i') (sN : Int) ∧ (sN : Int) = (E[i']!).2.1 ∧ dl = (E[i']!).2.2 ∧ (dl = 1 ∨ dl = -1) ∧ ∀ s, cntOf (E.take (i' + 1)) s = cntOf (E.take i') s + if (sN : Int) = s then dl else 0) := ⟨hc, hsN, hdl, hdl2, by rw [hsN, hdl]; exact hstep⟩
                 have hd1 : -1 ≤ dl := by omega
                 have hd2 : dl ≤ 1 := by omega
                 have hsn' : (sN : Int) < (nn : Int) := by omega
                 have c0' := fun ob => cell_al c0 ob
                 have f0' := fun ob => frozen_al c0 f0 ob
                 have HPE : Hid ((E[i']!).1 = p) := hpe
                 clear hstep hev hpe hcb1 hc hsN hdl hdl2 hpeb
                 have hnn0 : 0 ≤ c + dl := by
                   have h1 := cnt_nonneg HE.out.1 HE.out.2.1 (fun x hx => (HL.out x hx).2.1) (List.take_append_drop (i' + 1) E).symm (sN : Int)
                   rw [HC.out.2.2.2.2, if_pos rfl, ← HC.out.1] at h1
                   exact h1
                 by_cases hz : c = 0
                 · have HZ : Hid (c = 0) := hz
                   subst hz
                   go_wp2
                   go_region
                   generalize hw4 : World.setCell _ _ _ = w4
                   have T4 : TSt w base ib nao nn ncap nm (tfold nn l tab ps) E m cb tb (w.heap.size + 1) (cntOf (E.take (i' + 1))) (openOf nn (cntOf (E.take i'))) oao' on' ocap' w4 := by
                     rw [← hw4]
                     refine (HT.out.alloc _).setCnt fun j hj => ?_
                     rw [HC.out.2.2.2.2]
                     by_cases e : j = sN
                     · subst e; rw [if_pos rfl, if_pos rfl, ← HC.out.1]; omega
                     · rw [if_neg e, if_neg (by omega), Int.add_zero]
                   have k1 : w4.cell? ⟨wr.heap.size, 1, none⟩ = some (.int .i32 (sN : Int)) := by
                     have hlt := HT.out.cnt.lt
                     rw [← hw4, World.cell?_of_block (w := wr.alloc (.cells #[.int .u32 p, .int .i32 (sN : Int), .int .i32 dl] 125)) (Below.heap_setCell _ _ _ _ (by show wr.heap.size ≠ cb; omega))]
                     simp only [World.cell?]
                     rw [alloc_new]
                     rfl
                   have H4 : Hid (TSt w base ib nao nn ncap nm (tfold nn l tab ps) E m cb tb (w.heap.size + 1) (cntOf (E.take (i' + 1))) (openOf nn (cntOf (E.take i'))) oao' on' ocap' w4) := T4
                   have hon : (openOf nn (cntOf (E.take i'))).length = on' := by simpa using T4.opn.1
                   have hon2 : on' ≤ 4096 := by have := openOf_len nn (cntOf (E.take i')); omega
                   have hpos := pos_le (openOf nn (cntOf (E.take i'))) (sN : Int)
                   rw [hon] at hpos
                   clear hw4 c0' f0' c0 f0 e0 e1 e2 T4 hon
                   go_wp2_with fail
                   refine (search_own w.heap.size oao' on' ocap' (openOf nn (cntOf (E.take i'))) (sN : Int) w4.drew (H4.out.alk ⟨rfl, rfl, rfl, rfl⟩).opn (openOf_sorted _ _) (by omega)).mono ?_
                   rintro e w5 ⟨⟨b, rfl⟩, hw⟩
                   subst w5
                   obtain ⟨P, hP⟩ : ∃ P, P = pos (openOf nn (cntOf (E.take i'))) (sN : Int) := ⟨_, rfl⟩
                   rw [← hP] at hpos ⊢
                   have HPS : Hid (P = pos (openOf nn (cntOf (E.take i'))) (sN : Int)) := hP
                   clear hP
                   go_wp2_with fail
                   have T5 := (H4.out.alk (wr' := w4.drew) ⟨rfl, rfl, rfl, rfl⟩).alloc (.cells #[.int .i32 (sN : Int)] 21)
                   have hbs : w.heap.size ≤ (w4.drew.alloc (.cells #[.int .i32 (sN : Int)] 21)).heap.size := T5.fr.size
                   refine (insert_own w.heap.size oao' on' ocap' P w4.heap.size _ (.int .i32 (sN : Int)) _ T5.opn hpos (by omega) (alloc_new w4.drew _) (opn_fresh H4.out) rfl (fun u hu => by obtain ⟨z, _, rfl⟩ := List.mem_map.1 hu; rfl) hbs).mono ?_
                   rintro e w6 ⟨g, cap6, rfl, o6, g6, at6⟩
                   have T6 : TRel w base ib nao nn ncap nm (tfold nn l tab ps) E m cb tb (w.heap.size + 1) (i' + 1) (some ⟨g, 0, none⟩) (on' + 1) cap6 w6 := by
                     have hd : dl = 1 := by have := HC.out.2.2.2.1; omega
                     have e1 := open_ins (nn := nn) (f := cntOf (E.take i')) (f' := cntOf (E.take (i' + 1))) (s0 := (sN : Int)) (by omega) hsn' HC.out.1.symm (by rw [← hd]; exact HC.out.2.2.2.2)
                     unfold TRel
                     refine T5.setOpen g6 ?_ ?_
                     · rw [e1, ← HPS.out]
                       simpa using o6
                     · rcases at6 with h | h
                       · exact .inl h.symm
                       · exact .inr ⟨g, rfl, h⟩
                   have H6 : Hid (TRel w base ib nao nn ncap nm (tfold nn l tab ps) E m cb tb (w.heap.size + 1) (i' + 1) (some ⟨g, 0, none⟩) (on' + 1) cap6 w6) := T6
                   clear T5 hbs o6 g6 at6 T6
                   go_wp2
                   go_roundg (m - (i' + 1))
                   case measure => omega
                   case rel => exact ⟨i' + 1, on' + 1, cap6, some ⟨g, 0, none⟩, by omega, by omega, rfl, rfl, by go_num, H6, fun j h1 h2 => by
                     by_cases e : j = i'
                     · rw [e]; exact HPE.out
                     · exact HJ.out j h1 (by omega)⟩
                 · have hzb : (c == 0) = false := by simpa using hz
                   have hcpos : 0 < c := by
                     have h1 := cnt_nonneg HE.out.1 HE.out.2.1 (fun x hx => (HL.out x hx).2.1) (List.take_append_drop i' E).symm (sN : Int)
                     rw [← HC.out.1] at h1
                     omega
                   have HZ : Hid (¬ c = 0) := hz
                   clear hz
                   go_wp2
                   go_region
                   generalize hw4 : World.setCell _ _ _ = w4
                   have T4 : TSt w base ib nao nn ncap nm (tfold nn l tab ps) E m cb tb (w.heap.size + 1) (cntOf (E.take (i' + 1))) (openOf nn (cntOf (E.take i'))) oao' on' ocap' w4 := by
                     rw [← hw4]
                     refine (HT.out.alloc _).setCnt fun j hj => ?_
                     rw [HC.out.2.2.2.2]
                     by_cases e : j = sN
                     · subst e; rw [if_pos rfl, if_pos rfl, ← HC.out.1]
                     · rw [if_neg e, if_neg (by omega), Int.add_zero]
                   have k1 : w4.cell? ⟨wr.heap.size, 1, none⟩ = some (.int .i32 (sN : Int)) := by
                     have hlt := HT.out.cnt.lt
                     rw [← hw4, World.cell?_of_block (w := wr.alloc (.cells #[.int .u32 p, .int .i32 (sN : Int), .int .i32 dl] 125)) (Below.heap_setCell _ _ _ _ (by show wr.heap.size ≠ cb; omega))]
                     simp only [World.cell?]
                     rw [alloc_new]
                     rfl
                   have k2 : w4.cell? ⟨cb, sN, none⟩ = some (.int .i32 (c + dl)) := by
                     have := T4.cnt.cell hsn
                     rw [this, HC.out.2.2.2.2, if_pos rfl, ← HC.out.1]
                   have H4 : Hid (TSt w base ib nao nn ncap nm (tfold nn l tab ps) E m cb tb (w.heap.size + 1) (cntOf (E.take (i' + 1))) (openOf nn (cntOf (E.take i'))) oao' on' ocap' w4) := T4
                   have hon : (openOf nn (cntOf (E.take i'))).length = on' := by simpa using T4.opn.1
                   have hon2 : on' ≤ 4096 := by have := openOf_len nn (cntOf (E.take i')); omega
                   clear hw4 c0' f0' c0 f0 e0 e1 e2 T4
                   by_cases hz2 : c + dl = 0
                   · have hz2b : (c + dl == 0) = true := by simpa using hz2
                     obtain ⟨eo, hpos⟩ := open_del (nn := nn) (f := cntOf (E.take i')) (f' := cntOf (E.take (i' + 1))) (s0 := (sN : Int)) (by omega) hsn' (by rw [← HC.out.1]; exact hcpos) (by rw [HC.out.2.2.2.2, if_pos rfl, ← HC.out.1]; exact hz2) (fun s hs => by rw [HC.out.2.2.2.2, if_neg hs, Int.add_zero])
                     have HEO : Hid (openOf nn (cntOf (E.take (i' + 1))) = (openOf nn (cntOf (E.take i'))).take (pos (openOf nn (cntOf (E.take i'))) (sN : Int)) ++ (openOf nn (cntOf (E.take i'))).drop (pos (openOf nn (cntOf (E.take i'))) (sN : Int) + 1)) := eo
                     rw [hon] at hpos
                     have HZ2 : Hid (c + dl = 0) := hz2
                     clear eo hon hz2
                     go_wp2_with fail
                     refine (search_own w.heap.size oao' on' ocap' (openOf nn (cntOf (E.take i'))) (sN : Int) w4.drew (H4.out.alk ⟨rfl, rfl, rfl, rfl⟩).opn (openOf_sorted _ _) (by omega)).mono ?_
                     rintro e w5 ⟨⟨b, rfl⟩, hw⟩
                     subst w5
                     obtain ⟨P, hP⟩ : ∃ P, P = pos (openOf nn (cntOf (E.take i'))) (sN : Int) := ⟨_, rfl⟩
                     rw [← hP] at hpos HEO ⊢
                     clear hP
                     go_wp2_with fail
                     refine (delete_own w.heap.size oao' on' ocap' P (openOf nn (cntOf (E.take i'))) w4.drew (H4.out.alk ⟨rfl, rfl, rfl, rfl⟩).opn hpos).mono ?_
                     rintro e w6 ⟨rfl, o6, g6⟩
                     have T6 : TRel w base ib nao nn ncap nm (tfold nn l tab ps) E m cb tb (w.heap.size + 1) (i' + 1) oao' (on' - 1) ocap' w6 := by
                       unfold TRel
                       refine (H4.out.alk (wr' := w4.drew) ⟨rfl, rfl, rfl, rfl⟩).setOpen g6 ?_ (.inl rfl)
                       rw [HEO.out]
                       exact o6
                     have H6 : Hid (TRel w base ib nao nn ncap nm (tfold nn l tab ps) E m cb tb (w.heap.size + 1) (i' + 1) oao' (on' - 1) ocap' w6) := T6
                     clear o6 g6 T6
                     go_wp2
                     go_roundg (m - (i' + 1))
                     case measure => omega
                     case rel => exact ⟨i' + 1, on' - 1, ocap', oao', by omega, by omega, rfl, rfl, by go_num, H6, fun j h1 h2 => by
                       by_cases e : j = i'
                       · rw [e]; exact HPE.out
                       · exact HJ.out j h1 (by omega)⟩
                   · have hz2b : (c + dl == 0) = false := by simpa using hz2
                     have HZ2 : Hid (¬ c + dl = 0) := hz2
                     clear hz2
                     go_wp2
                     go_roundg (m - (i' + 1))
                     case measure => omega
                     case rel =>
                       refine ⟨i' + 1, on', ocap', oao', by omega, by omega, rfl, rfl, by go_num, ?_, fun j h1 h2 => by
                         by_cases e : j = i'
                         · rw [e]; exact HPE.out
                         · exact HJ.out j h1 (by omega)⟩
                       have e1 : openOf nn (cntOf (E.take (i' + 1))) = openOf nn (cntOf (E.take i')) := open_same fun s => by
                         rw [HC.out.2.2.2.2]
                         by_cases e : (sN : Int) = s
                         · rw [if_pos e, ← e, ← HC.out.1]; have := HZ2.out; omega
                         · rw [if_neg e, Int.add_zero]
                       show TRel w base ib nao nn ncap nm (tfold nn l tab ps) E m cb tb (w.heap.size + 1) (i' + 1) oao' on' ocap' _
                       unfold TRel
                       rw [e1]
                       exact H4.out.alk ⟨rfl, rfl, rfl, rfl⟩
               · obtain ⟨pa, hpa⟩ : ∃ a, a = (E[i']!).1 := ⟨_, rfl⟩
                 have hpeb : (pa == p) = false := by rw [hpa]; simpa using hpe
                 have e0 : wr.cell? ⟨w.heap.size + 1, i' * 3, none⟩ = some (.int .u32 pa) := by rw [hpa]; exact (HT.out.evs i' hlt3 0 (by omega)).1
                 have HG : Hid (PsOk E i' (ps ++ [p]) ∧ (∀ e ∈ E.take i', e.1 ≤ p) ∧ (∀ e ∈ E.drop i', p < e.1)) := by
                   have hne : i ≠ i' := fun e => hpe (by rw [← e]; exact HPP.out.symm)
                   exact ps_step HE.out.2.1 HE.out.2.2 HP.out (by omega) (by omega) HJ.out (.inr hpe)
                 have hne : i < i' := by
                   rcases Nat.lt_or_ge i i' with h | h
                   · exact h
                   · exfalso; obtain rfl : i = i' := by omega
                     exact hpe HPP.out.symm
                 clear hpe hpa
                 go_wp2
                 go_meet
                 exact ⟨i', on', ocap', oao', hne, by omega, rfl, rfl, HT, HG⟩
             · obtain rfl : m = i' := by omega
               have HG : Hid (PsOk E m (ps ++ [p]) ∧ (∀ e ∈ E.take m, e.1 ≤ p) ∧ (∀ e ∈ E.drop m, p < e.1)) := ps_step HE.out.2.1 HE.out.2.2 HP.out (by omega) (by omega) HJ.out (.inl rfl)
               have hnlt : decide ((m : Int) < (m : Int)) = false := by simp
               go_wp2
               go_meet
               exact ⟨m, on', ocap', oao', by omega, by omega, rfl, rfl, HT, HG⟩
          case rest =>
            obtain ⟨i', on', ocap', oao', hii, him, rfl, rfl, HT2, HG⟩ := hcut
            clear HT
            have hpm : p ≤ 4294967295 ∧ 0 ≤ p := by
              have h1 := at_le HE.out.1 HL.out (e := E[i]!) (by rw [getElem!_pos E i (by have := HE.out.2.2; omega)]; exact List.getElem_mem _)
              rw [← HPP.out] at h1
              omega
            have hcov : openOf nn (cntOf (E.take i')) = cover nn l p := open_cover HE.out.1 HL.out hpm.1 HG.out.2.1 HG.out.2.2
            have hlen := tfold_len nn l tab ps
            have hpsl : ps.length ≤ m := ps_len HE.out.2.2 HP.out
            have hitn := HT2.out.itn
            have hopn := HT2.out.opn
            rw [hcov] at hopn
            have hol : (cover nn l p).length = on' := by simpa using hopn.1
            have hol2 := cover_len nn l p
            have H2' : Hid (TSt w base ib nao nn ncap nm (tfold nn l tab ps) E m cb tb (w.heap.size + 1) (cntOf (E.take i')) (cover nn l p) oao' on' ocap' wc) := by
              have h := HT2.out
              unfold TRel at h
              rw [hcov] at h
              exact h
            have hbw : base ≤ wc.heap.size := Nat.le_trans hbase HT2.out.fr.size
            have HST : Hid (StLen tab.length (tfold nn l tab ps) ps.length) := hlen
            have htl : (tfold nn l tab ps).2.2.length ≤ 20000 := by have := hlen.2.2.2; omega
            clear HT2 hcov hlen
            generalize hst : tfold nn l tab ps = st at *
            have HSTE : Hid (tfold nn l tab ps = st) := hst
            clear hst
            go_wp2_with fail
            refine (intern_any base ib nao nn ncap nm st.2.2 oao' on' ocap' (cover nn l p) wc hitn (hopn.down (by omega)) (fun z hz => by have := mem_cover.1 hz; exact ⟨this.1, this.2.1⟩) (by omega) (by omega) (by omega) hbw).mono ?_
            rintro e w5 ⟨rfl, i5, f5⟩
            have T5 := H2'.out.intern i5 f5
            obtain ⟨K, hK⟩ : ∃ K : Nat, K = (tabN st.2.2 (cover nn l p)).idxOf (cover nn l p) := ⟨_, rfl⟩
            rw [← hK]
            obtain ⟨sao5, scap5, uao5, ucap5, ht5⟩ := T5.tab
            obtain ⟨L5, hL5⟩ : ∃ k, st.2.1.length = k + 1 := ⟨st.2.1.length - 1, by have := HST.out.1; have := HST.out.2.1; omega⟩
            have hL6 : st.1.length = L5 + 1 := by have := HST.out.1; omega
            have hL7 : L5 ≤ 20000 := by have := HST.out.2.2.1; omega
            have t0 : w5.cell? ⟨tb, 0, none⟩ = some (.slice sao5 (L5 + 1) scap5) := by rw [← hL6]; exact ht5.1.cell (by omega)
            have t1 : w5.cell? ⟨tb, 1, none⟩ = some (.slice uao5 (L5 + 1) ucap5) := by rw [← hL5]; exact ht5.1.cell (by omega)
            obtain ⟨gu, vu, hgu, hgu2, hvu, hcu, hfu⟩ := ht5.2.2.cell (j := L5) (by show L5 < st.2.1.length; omega)
            obtain ⟨gs, vs, hgs, hgs2, hvs, hcs, hfs⟩ := ht5.2.1.cell (j := L5) (by show L5 < st.1.length; omega)
            simp only at hgu hgs hvu hvs
            subst hgu hgs
            rw [List.getElem?_map, List.getElem?_eq_getElem (by omega)] at hvu hvs
            cases hvu
            cases hvs
            obtain ⟨U, hU⟩ : ∃ U, U = st.2.1[L5]'(by omega) := ⟨_, rfl⟩
            obtain ⟨A, hA⟩ : ∃ A, A = st.1[L5]'(by omega) := ⟨_, rfl⟩
            have hU2 : st.2.1.getLast? = some U := by rw [List.getLast?_eq_getElem?, hL5, hU, Nat.add_sub_cancel, List.getElem?_eq_getElem (by omega)]
            have hA2 : st.1.getLast? = some A := by rw [List.getLast?_eq_getElem?, hL6, hA, Nat.add_sub_cancel, List.getElem?_eq_getElem (by omega)]
            rw [← hU] at hcu
            rw [← hA] at hcs
            have H5 : Hid (TSt w base ib nao nn ncap nm (st.1, st.2.1, tabN st.2.2 (cover nn l p)) E m cb tb (w.heap.size + 1) (cntOf (E.take i')) (cover nn l p) oao' on' ocap' w5 ∧ TabAt w5 w.heap.size tb (st.1, st.2.1) (some ⟨gs, 0, none⟩) scap5 (some ⟨gu, 0, none⟩) ucap5) := ⟨T5, ht5⟩
            have HST2 : Hid (st.2.1.length = L5 + 1 ∧ st.1.length = L5 + 1 ∧ st.2.1.getLast? = some U ∧ st.1.getLast? = some A ∧ K = (tabN st.2.2 (cover nn l p)).idxOf (cover nn l p)) := ⟨hL5, hL6, hU2, hA2, hK⟩
            clear T5 ht5 i5 f5 hL5 hL6 hU hA hU2 hA2 hK hitn hopn hol hol2 htl hgu2 hgs2
            have hfin : ∀ st', tstep (cover nn l p) p st = st' → ∀ wz, TSt w base ib nao nn ncap nm st' E m cb tb (w.heap.size + 1) (cntOf (E.take i')) (cover nn l p) oao' on' ocap' wz → Hid (TRel w base ib nao nn ncap nm (tfold nn l tab (ps ++ [p])) E m cb tb (w.heap.size + 1) i' oao' on' ocap' wz) := by
              intro st' he wz hz
              show TRel _ _ _ _ _ _ _ _ _ _ _ _ _ _ _ _ _ _
              unfold TRel
              rw [open_cover HE.out.1 HL.out hpm.1 HG.out.2.1 HG.out.2.2, tfold_snoc, HSTE.out, he]
              exact hz
            have HFIN : Hid _ := hfin
            clear hfin
            by_cases hUK : U = (K : Int)
            · have hUb : (U == (K : Int)) = true := by simpa using hUK
              have HUK : Hid (U = (K : Int)) := hUK
              clear hUK
              go_wp2
              go_roundg (m - i')
              case measure => omega
              case rel =>
                refine ⟨i', on', ocap', oao', ps ++ [p], by omega, rfl, rfl, rfl, HFIN.out _ ?_ _ H5.out.1, HG.out.1⟩
                unfold tstep
                rw [if_pos (by rw [HST2.out.2.2.1, HUK.out, HST2.out.2.2.2.2])]
            · have hUb : (U == (K : Int)) = false := by simpa using hUK
              have HUK : Hid (¬ U = (K : Int)) := hUK
              clear hUK
              by_cases hAp : A = p
              · have hAb : (A == p) = true := by simpa using hAp
                have HAP : Hid (A = p) := hAp
                clear hAp
                go_wp2
                go_roundg (m - i')
                case measure => omega
                case rel =>
                  refine ⟨i', on', ocap', oao', ps ++ [p], by omega, rfl, rfl, rfl, HFIN.out (st.1, st.2.1.dropLast ++ [(K : Int)], tabN st.2.2 (cover nn l p)) ?_ _ (H5.out.1.turnLast H5.out.2 HST2.out.1), HG.out.1⟩
                  unfold tstep
                  rw [if_neg (by rw [HST2.out.2.2.1, ← HST2.out.2.2.2.2]; intro e; exact HUK.out (Option.some.inj e)), if_pos (by rw [HST2.out.2.2.2.1, HAP.out]), ← HST2.out.2.2.2.2]
              · have hAb : (A == p) = false := by simpa using hAp
                have HAP : Hid (¬ A = p) := hAp
                clear hAp
                obtain ⟨g6, cap6, w6, r6, y0, y1, hnext⟩ := H5.out.1.push (p := p) (v := (K : Int)) H5.out.2 (by rw [HST2.out.2.1]; omega) (by rw [HST2.out.1]; omega)
                rw [HST2.out.2.1] at r6 y0 hnext
                obtain ⟨w7, hw7⟩ : ∃ w7, w7 = w6.setCell ⟨tb, 0, none⟩ (.slice (some ⟨g6, 0, none⟩) (L5 + 1 + 1) cap6) := ⟨_, rfl⟩
                obtain ⟨y2, g8, cap8, w8, r8, y3, y4, T9⟩ := hnext w7 hw7
                rw [HST2.out.1] at y2 r8 y3 T9
                have H9 : Hid (TSt w base ib nao nn ncap nm (st.1 ++ [p], st.2.1 ++ [(K : Int)], tabN st.2.2 (cover nn l p)) E m cb tb (w.heap.size + 1) (cntOf (E.take i')) (cover nn l p) oao' on' ocap' (w8.setCell ⟨tb, 1, none⟩ (.slice (some ⟨g8, 0, none⟩) (L5 + 1 + 1) cap8))) := T9
                have HW7 : Hid (w7 = w6.setCell ⟨tb, 0, none⟩ (.slice (some ⟨g6, 0, none⟩) (L5 + 1 + 1) cap6)) := hw7
                clear T9 hnext hw7
                go_upto_region 29 with (at_builtin; refine Lib.wpList_append_run _ rfl _ _ _ _ rfl _ _ rfl rfl _ _ r6 ?_)
                rw [← HW7.out]
                clear r6 y0 y1
                go_wp2_with (at_builtin; refine Lib.wpList_append_run _ rfl _ _ _ _ rfl _ _ rfl rfl _ _ r8 ?_)
                go_roundg (m - i')
                case measure => omega
                case rel =>
                  refine ⟨i', on', ocap', oao', ps ++ [p], by omega, rfl, rfl, rfl, HFIN.out (st.1 ++ [p], st.2.1 ++ [(K : Int)], tabN st.2.2 (cover nn l p)) ?_ _ H9.out, HG.out.1⟩
                  unfold tstep
                  rw [if_neg (by rw [HST2.out.2.2.1, ← HST2.out.2.2.2.2]; intro e; exact HUK.out (Option.some.inj e)), if_neg (by rw [HST2.out.2.2.2.1]; intro e; exact HAP.out (Option.some.inj e)), ← HST2.out.2.2.2.2]
        · obtain rfl : m = i := by omega
          obtain ⟨sao5, scap5, uao5, ucap5, ht5⟩ := HT.out.tab
          have hlen := tfold_len nn l tab ps
          have hpsl : ps.length ≤ m := ps_len HE.out.2.2 HP.out
          have hsl : (tfold nn l tab ps).1.length < 4096 := by have := hlen.2.2.1; omega
          obtain ⟨L1, hL1⟩ : ∃ k, k = (tfold nn l tab ps).1.length := ⟨_, rfl⟩
          obtain ⟨L2, hL2⟩ : ∃ k, k = (tfold nn l tab ps).2.1.length := ⟨_, rfl⟩
          have t0 : wr.cell? ⟨tb, 0, none⟩ = some (.slice sao5 L1 scap5) := by rw [hL1]; exact ht5.1.cell (by omega)
          have t1 : wr.cell? ⟨tb, 1, none⟩ = some (.slice uao5 L2 ucap5) := by rw [hL2]; exact ht5.1.cell (by omega)
          have t2 : wr.cell? ⟨tb, 2, none⟩ = some (.slice none 0 0) := ht5.1.cell (by omega)
          have x0 : wr.cell? ⟨w.heap.size, 0, none⟩ = some (.slice none 0 0) := HT.out.res.cell (by omega)
          have x1 : wr.cell? ⟨w.heap.size, 1, none⟩ = some (.slice none 0 0) := HT.out.res.cell (by omega)
          have x2 : wr.cell? ⟨w.heap.size, 2, none⟩ = some (.slice none 0 0) := HT.out.res.cell (by omega)
          have z0 : wr.frozen? ⟨w.heap.size, 0, none⟩ = false := HT.out.res.frozen 0
          have z1 : wr.frozen? ⟨w.heap.size, 1, none⟩ = false := HT.out.res.frozen 1
          have z2 : wr.frozen? ⟨w.heap.size, 2, none⟩ = false := HT.out.res.frozen 2
          have hL1' : (L1 : Int) < 4096 := by omega
          have H5 : Hid (TabAt wr w.heap.size tb ((tfold nn l tab ps).1, (tfold nn l tab ps).2.1) sao5 scap5 uao5 ucap5 ∧ L1 = (tfold nn l tab ps).1.length ∧ L2 = (tfold nn l tab ps).2.1.length) := ⟨ht5, hL1, hL2⟩
          clear ht5 hlen hsl hL1 hL2 hpsl
          go_wp2
          refine bodyPost_ret (v := .agg #[.slice sao5 L1 scap5, .slice uao5 L2 ucap5, .slice none 0 0]) (by simp [results, Tryz.results36, x0, x1, x2, go_sem]) rfl ?_
          have g9 : wr.grownBy (((wr.setCell ⟨w.heap.size, 0, none⟩ (.slice sao5 L1 scap5)).setCell ⟨w.heap.size, 1, none⟩ (.slice uao5 L2 ucap5)).setCell ⟨w.heap.size, 2, none⟩ (.slice none 0 0)) (some w.heap.size) := set3_grown _ _ _ _ _ _ _ _
          have hT := HT.out
          refine ⟨ps, sao5, scap5, uao5, ucap5, HP.out.2.1, fun q => ?_, by rw [H5.out.2.1, H5.out.2.2], ?_, ?_, ?_, hT.fr.new g9 (Nat.le_refl _)⟩
          · have := HP.out.2.2 q
            rw [List.take_of_length_le (by rw [HE.out.2.2]; exact Nat.le_refl _)] at this
            rw [this]
            constructor
            · rintro ⟨e, he, h⟩; exact ⟨e, HE.out.1.mem_iff.1 he, h⟩
            · rintro ⟨e, he, h⟩; exact ⟨e, HE.out.1.mem_iff.2 he, h⟩
          · exact H5.out.1.2.1.of_block fun b hb hlt => g9.block b hlt (by
              have := OR.ne hT.res H5.out.1.2.1 (by decide)
              rw [hb] at this
              exact this.symm)
          · exact H5.out.1.2.2.of_block fun b hb hlt => g9.block b hlt (by
              have := OR.ne hT.res H5.out.1.2.2 (by decide)
              rw [hb] at this
              exact this.symm)
          · exact hT.itn.fr (S := [89]) (FrT.of_grown g9 hT.bb (row_tag hT.res _ (by simp))) (Nat.le_trans hT.bb hT.fr.size) (by decide)
end Go.Proofs.Qxb6618911aGreat
