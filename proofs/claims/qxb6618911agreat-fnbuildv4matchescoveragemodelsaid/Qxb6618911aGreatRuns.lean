/-
  zzModelRuns.
-/
import Derived.Test.Qxb6618911aGreatCov
namespace Go.Proofs.Qxb6618911aGreat
open Go.RowKit Go.Lib

/-- One point of the model's sweep. -/
def mstep (cov : Int → List Int) (st : List Int × List (List Int)) (p : Int) : List Int × List (List Int) := if st.2.getLast? = some (cov p) then st else (st.1 ++ [p], st.2 ++ [cov p])
/-- The model's runs: starts and covers. -/
def mfold (cov : Int → List Int) (pts : List Int) : List Int × List (List Int) := pts.foldl (mstep cov) ([], [])

theorem mfold_snoc (cov : Int → List Int) (pts : List Int) (p : Int) : mfold cov (pts ++ [p]) = mstep cov (mfold cov pts) p := by
  unfold mfold; rw [List.foldl_append]; rfl

theorem mstep_len {cov : Int → List Int} {st : List Int × List (List Int)} {p : Int} {k : Nat} (h : st.1.length = st.2.length ∧ st.1.length ≤ k) : (mstep cov st p).1.length = (mstep cov st p).2.length ∧ (mstep cov st p).1.length ≤ k + 1 := by
  unfold mstep
  split
  · exact ⟨h.1, by omega⟩
  · simp; omega

theorem mfold_len (cov : Int → List Int) : ∀ (n : Nat) (pts : List Int), pts.length = n → (mfold cov pts).1.length = (mfold cov pts).2.length ∧ (mfold cov pts).1.length ≤ n
  | 0, pts, hn => by rw [List.length_eq_zero_iff.1 hn]; simp [mfold]
  | n + 1, pts, hn => by
    have hne : pts ≠ [] := by rintro rfl; simp at hn
    obtain ⟨qs, p, rfl⟩ : ∃ qs p, pts = qs ++ [p] := ⟨_, _, (List.dropLast_concat_getLast hne).symm⟩
    rw [mfold_snoc]
    exact mstep_len (mfold_len cov n qs (by simpa using hn))

theorem mfold_mem (cov : Int → List Int) : ∀ (n : Nat) (pts : List Int), pts.length = n → ∀ zs ∈ (mfold cov pts).2, ∃ p, zs = cov p
  | 0, pts, hn => by rw [List.length_eq_zero_iff.1 hn]; intro zs hz; simp [mfold] at hz
  | n + 1, pts, hn => by
    have hne : pts ≠ [] := by rintro rfl; simp at hn
    obtain ⟨qs, p, rfl⟩ : ∃ qs p, pts = qs ++ [p] := ⟨_, _, (List.dropLast_concat_getLast hne).symm⟩
    rw [mfold_snoc]
    have ih := mfold_mem cov n qs (by simpa using hn)
    unfold mstep
    split
    · exact ih
    · intro zs hz
      rcases List.mem_append.1 hz with h | h
      · exact ih zs h
      · exact ⟨p, List.mem_singleton.1 h⟩

theorem take_snoc {α : Type} {xs : List α} {k : Nat} {x : α} (h : xs[k]? = some x) : xs.take (k + 1) = xs.take k ++ [x] := by
  rw [List.take_add_one, h]; rfl

/-- Slices of ids, each its own row. -/
def CovRows (w : World) (base : Nat) (C : List (List Int)) (cv : List Value) : Prop :=
  ∀ (k : Nat) (ys : List Int), C[k]? = some ys → ∃ (ao : Option Addr) (cap : Nat), cv[k]? = some (Value.slice ao ys.length cap) ∧ OR w base 21 ao ys.length cap (ys.map (.int .i32))

theorem CovRows.fr {w w' : World} {base : Nat} {S : List TypeId} {C : List (List Int)} {cv : List Value} (h : CovRows w base C cv) (f : FrT base S w w') (hs : 21 ∉ S) : CovRows w' base C cv := fun k ys hk => by
  obtain ⟨ao, cap, h1, h2⟩ := h k ys hk
  exact ⟨ao, cap, h1, f.own h2 hs⟩

theorem CovRows.snoc {w : World} {base : Nat} {C : List (List Int)} {cv : List Value} {ys : List Int} {ao : Option Addr} {cap : Nat} (h : CovRows w base C cv) (hl : cv.length = C.length) (ho : OR w base 21 ao ys.length cap (ys.map (.int .i32))) : CovRows w base (C ++ [ys]) (cv ++ [.slice ao ys.length cap]) := fun k zs hk => by
  by_cases hc : k < C.length
  · rw [List.getElem?_append_left hc] at hk
    obtain ⟨ao', cap', h1, h2⟩ := h k zs hk
    exact ⟨ao', cap', by rw [List.getElem?_append_left (by omega)]; exact h1, h2⟩
  · have hk' : k = C.length := by
      rcases Nat.lt_or_ge C.length k with c | c
      · rw [List.getElem?_eq_none (by simp; omega)] at hk; cases hk
      · omega
    subst hk'
    rw [List.getElem?_append_right (by omega)] at hk
    simp at hk
    subst hk
    exact ⟨ao, cap, by rw [List.getElem?_append_right (by omega), hl]; simp, ho⟩

theorem info24l : (Tryz.prog.info? 24).map (fun i => (i.zero, i.size, i.bytes)) = some (some (.slice none 0 0), 1, 24) := by kernel_rfl

theorem OR.rowI32 {w : World} {base : Nat} {e : TypeId} {ao : Option Addr} {n cap : Nat} {zs : List Int} (h : OR w base e ao n cap (zs.map (.int .i32))) : Row w 0 w.heap.size ao n (fun i => .int .i32 zs[i]!) :=
  h.rowOf.congr fun i hi => by
    have hl : (zs.map (Value.int .i32)).length = n := h.1
    have hz : zs.length = n := by simpa using hl
    rw [getL _ (by omega), List.getElem_map, getL _ (by omega)]

theorem list_eq_iff (xs ys : List Int) : xs = ys ↔ xs.length = ys.length ∧ ∀ i, i < xs.length → xs[i]! = ys[i]! := by
  constructor
  · rintro rfl; exact ⟨rfl, fun _ _ => rfl⟩
  · rintro ⟨h1, h2⟩
    apply List.ext_getElem h1
    intro i a b
    have := h2 i a
    rw [getL _ a, getL _ b] at this
    exact this

/-- Amid the model's second loop. -/
structure MR (w2 : World) (M : List Int × List (List Int)) (sao : Option Addr) (c : Nat) (ca : Option Addr) (c' : Nat) (cv : List Value) (wr : World) : Prop where
  gr : Gr w2 wr
  st : OR wr w2.heap.size 41 sao M.1.length c (M.1.map (.int .u32))
  cs : OR wr w2.heap.size 24 ca M.2.length c' cv
  rows : CovRows wr w2.heap.size M.2 cv

namespace MR
variable {w2 : World} {M : List Int × List (List Int)} {sao : Option Addr} {c : Nat} {ca : Option Addr} {c' : Nat} {cv : List Value} {wr wr' : World}

theorem fr {S : List TypeId} (h : MR w2 M sao c ca c' cv wr) (f : FrT w2.heap.size S wr wr') (hs : 41 ∉ S ∧ 24 ∉ S ∧ 21 ∉ S) : MR w2 M sao c ca c' cv wr' :=
  ⟨⟨f.os.trans h.gr.os, f.tape.trans h.gr.tape, f.output.trans h.gr.output, Nat.le_trans h.gr.size f.size, fun q hq => (f.keep (Nat.lt_of_lt_of_le hq h.gr.size) (.inl hq)).trans (h.gr.block q hq)⟩, f.own h.st hs.1, f.own h.cs hs.2.1, h.rows.fr f hs.2.2⟩

theorem grown (h : MR w2 M sao c ca c' cv wr) (g : Gr wr wr') : MR w2 M sao c ca c' cv wr' :=
  h.fr (S := []) ⟨g.os, g.tape, g.output, g.size, fun k hk => .inl (g.block k hk)⟩ (by decide)

theorem start (w2 : World) : MR w2 ([], []) none 0 none 0 [] w2 := ⟨Gr.refl _, ⟨rfl, .inl ⟨rfl, rfl, rfl⟩⟩, ⟨rfl, .inl ⟨rfl, rfl, rfl⟩⟩, fun k ys hk => by simp at hk⟩

/-- A run begun: the two appends. -/
theorem push (h : MR w2 M sao c ca c' cv wr) (hl : M.1.length = M.2.length) (hlen : M.1.length ≤ 100000) (p : Int) (ys : List Int) (ao : Option Addr) (cap : Nat) (ho : OR wr w2.heap.size 21 ao ys.length cap (ys.map (.int .i32))) :
    ∃ g c2 w5 g' c3 w6, (Builtin.append_ #[23, 23] 23 #[.slice sao M.1.length c, .slice (some ⟨wr.heap.size, 0, none⟩) 1 1]).run Tryz.prog (wr.alloc (.cells #[.int .u32 p] 41)) = .ok (.slice (some ⟨g, 0, none⟩) (M.1.length + 1) c2) w5 ∧
      (Builtin.append_ #[46, 46] 46 #[.slice ca M.2.length c', .slice (some ⟨w5.heap.size, 0, none⟩) 1 1]).run Tryz.prog (w5.alloc (.cells #[.slice ao ys.length cap] 24)) = .ok (.slice (some ⟨g', 0, none⟩) (M.2.length + 1) c3) w6 ∧
      MR w2 (M.1 ++ [p], M.2 ++ [ys]) (some ⟨g, 0, none⟩) c2 (some ⟨g', 0, none⟩) c3 (cv ++ [.slice ao ys.length cap]) w6 := by
  have hs := h.gr.size
  have h4 := h.fr (S := []) (FrT.alloc wr (.cells #[.int .u32 p] 41)) (by decide)
  have ho4 : OR (wr.alloc (.cells #[.int .u32 p] 41)) w2.heap.size 21 ao ys.length cap (ys.map (.int .i32)) := FrT.own (S := []) (FrT.alloc wr _) ho (by simp)
  obtain ⟨g, c2, w5, r5, o5, g5, at5⟩ := appendOR 23 41 (.int .u32 0) 4 Tryz.underlying23 info41l rfl (by omega) w2.heap.size sao M.1.length c _ _ h4.st wr.heap.size 1 [.int .u32 p] rfl (by omega) (alloc_new _ _) (fun u hu => by simp at hu; subst hu; rfl) (by omega) (by simp; omega)
  have f5 : FrT w2.heap.size [41] (wr.alloc (.cells #[.int .u32 p] 41)) w5 := OR.fr h4.st g5 (by simp)
  have cs5 := f5.own h4.cs (by decide)
  have rows5 := h4.rows.fr f5 (by decide)
  have ho5 := f5.own ho4 (by decide)
  have f6a : FrT w2.heap.size ([] : List TypeId) w5 (w5.alloc (.cells #[.slice ao ys.length cap] 24)) := FrT.alloc _ _
  have s5 : w2.heap.size ≤ w5.heap.size := Nat.le_trans h4.gr.size f5.size
  obtain ⟨g', c3, w6, r6, o6, g6, at6⟩ := appendOR 46 24 (.slice none 0 0) 24 Tryz.underlying46 info24l rfl (by omega) w2.heap.size ca M.2.length c' _ _ (f6a.own cs5 (by simp)) w5.heap.size 1 [.slice ao ys.length cap] rfl (by omega) (alloc_new _ _) (fun u hu => by simp at hu; subst hu; rfl) (by omega) (by simp; omega)
  have f6 : FrT w2.heap.size [24] (w5.alloc (.cells #[.slice ao ys.length cap] 24)) w6 := OR.fr (f6a.own cs5 (by simp)) g6 (by simp)
  have gr6 : Gr w2 w6 := by
    have k1 := h4.gr.own h4.st g5
    have k2 : Gr w2 (w5.alloc (.cells #[.slice ao ys.length cap] 24)) := k1.trans (Gr.of_none (World.grownBy_alloc _ _ _))
    exact k2.own (f6a.own cs5 (by simp)) g6
  refine ⟨g, c2, w5, g', c3, w6, r5, r6, gr6, ?_, ?_, ?_⟩
  · have := f6.own (f6a.own o5 (by simp)) (by decide)
    simpa using this
  · simpa using o6
  · have := (rows5.fr f6a (by simp)).fr f6 (by decide)
    exact this.snoc (by have := h.cs.1; omega) (f6.own (f6a.own ho5 (by simp)) (by decide))
end MR

/-- The model's points of the first k spans. -/
def PtAt (fl fh : Nat → Int) (k : Nat) (P : List Int) : Prop := P.Pairwise (· < ·) ∧ P.length ≤ 2 * k + 1 ∧ ∀ q, q ∈ P ↔ q = 0 ∨ ∃ i, i < k ∧ (q = fl i ∨ (fh i ≠ 4294967295 ∧ q = fh i + 1))

theorem PtAt.next {fl fh : Nat → Int} {k : Nat} {P P1 P2 : List Int} (h : PtAt fl fh k P) (h1 : ∀ q, q ∈ P1 ↔ q = fl k ∨ q ∈ P) (hl1 : P1.length ≤ P.length + 1) (h2 : ∀ q, q ∈ P2 ↔ (fh k ≠ 4294967295 ∧ q = fh k + 1) ∨ q ∈ P1) (hl2 : P2.length ≤ P1.length + 1) (ha : P2.Pairwise (· < ·)) : PtAt fl fh (k + 1) P2 :=
  ⟨ha, by have := h.2.1; omega, fun q => by
    rw [h2, h1, h.2.2]
    constructor
    · rintro (⟨a, b⟩ | a | a | ⟨i, hi, a⟩)
      · exact .inr ⟨k, by omega, .inr ⟨a, b⟩⟩
      · exact .inr ⟨k, by omega, .inl a⟩
      · exact .inl a
      · exact .inr ⟨i, by omega, a⟩
    · rintro (a | ⟨i, hi, a⟩)
      · exact .inr (.inr (.inl a))
      · by_cases e : i = k
        · subst e
          rcases a with a | a
          · exact .inr (.inl a)
          · exact .inl a
        · exact .inr (.inr (.inr ⟨i, by omega, a⟩))⟩

/-- Behind zzModelRuns. -/
def RunsPost (w : World) (cov : Int → List Int) (fl fh : Nat → Int) (n : Nat) (e : Ending) (w' : World) : Prop :=
  ∃ (P : List Int) (w2 : World) (sao : Option Addr) (c : Nat) (ca : Option Addr) (c' : Nat) (cv : List Value), e = .returned (.tuple #[.slice sao (mfold cov P).1.length c, .slice ca (mfold cov P).2.length c']) ∧ PtAt fl fh n P ∧ Gr w w2 ∧ MR w2 (mfold cov P) sao c ca c' cv w'

set_option maxRecDepth 100000 in
set_option maxHeartbeats 4000000 in
theorem runs_any (la ha sa : Option Addr) (n c1 c2 c3 : Nat) (fl fh fs : Nat → Int) (cov : Int → List Int) (w : World) (hn : n ≤ 1024) (h1 : Row w 0 w.heap.size la n (fun i => .int .u32 (fl i))) (h2 : Row w 0 w.heap.size ha n (fun i => .int .u32 (fh i))) (h3 : Row w 0 w.heap.size sa n (fun i => .int .i32 (fs i)))
    (hf : ∀ i, i < n → 0 ≤ fh i ∧ fh i ≤ 4294967295) (hcov : ∀ p ys, CovIs fl fh fs n p ys → ys = cov p) (hcl : ∀ p, (cov p).length ≤ 4096) :
    Calls Tryz.prog 19 #[.slice la n c1, .slice ha n c2, .slice sa n c3] w fun e w' => RunsPost w cov fl fh n e w' := by
  have H : Hid (Row w 0 w.heap.size la n (fun i => .int .u32 (fl i)) ∧ Row w 0 w.heap.size ha n (fun i => .int .u32 (fh i)) ∧ Row w 0 w.heap.size sa n (fun i => .int .i32 (fs i))) := ⟨h1, h2, h3⟩
  have HF : Hid (∀ i, i < n → 0 ≤ fh i ∧ fh i ≤ 4294967295) := hf
  have HC : Hid (∀ p ys, CovIs fl fh fs n p ys → ys = cov p) := hcov
  have HCL := Hid.intro hcl
  clear h1 h2 h3 hf hcov hcl
  go_enter Tryz.func19, Tryz.ntmps19
  go_wp2
  go_loopg [8, 9] n (fun gk x8 x9 wr => ∃ (k : Nat) (pao : Option Addr) (P : List Int) (cap : Nat), k ≤ n ∧ gk = n - k ∧ x8 = .slice pao P.length cap ∧ x9 = .int .i64 k ∧ Hid (PtAt fl fh k P ∧ OR wr w.heap.size 41 pao P.length cap (P.map (.int .u32)) ∧ Gr w wr))
  case atStart =>
    refine ⟨0, some ⟨w.heap.size, 0, none⟩, [0], 1, by omega, rfl, rfl, rfl, ⟨by simp, by simp, fun q => by simp⟩, ⟨rfl, .inr ⟨w.heap.size, _, rfl, Nat.le_refl _, Nat.le_refl _, by unfold maxLen; omega, rowIs_of_block (alloc_new _ _), fun j hj => ?_⟩⟩, Gr.of_none (World.grownBy_alloc _ _ _)⟩
    have : j = 0 := by simp at hj; omega
    subst this
    rfl
  case round =>
    obtain ⟨k, pao, P, cap, hk, hgk, rfl, rfl, HX⟩ := hrel
    by_cases hlt : k < n
    · have hlt' : (k : Int) < (n : Int) := by omega
      obtain ⟨b1, o1, rfl, d1⟩ := (HX.out.2.2.row H.out.1).cell (i := k) hlt
      have hl := HX.out.1.2.1
      go_wp2_with fail
      refine (insu32_any w.heap.size pao P.length cap P (fl k) wr HX.out.2.1 HX.out.1.1 (by omega) HX.out.2.2.size).mono ?_
      rintro e w1 ⟨pao1, P1, cap1, rfl, p1, p2, p3, p4, p5⟩
      have X1 : Hid (P1.Pairwise (· < ·) ∧ (∀ q, q ∈ P1 ↔ q = fl k ∨ q ∈ P) ∧ P1.length ≤ P.length + 1 ∧ OR w1 w.heap.size 41 pao1 P1.length cap1 (P1.map (.int .u32)) ∧ Gr w w1) := ⟨p1, p2, p5, p3, HX.out.2.2.own HX.out.2.1 p4⟩
      clear p1 p2 p3 p4 p5 d1
      obtain ⟨b2, o2, rfl, d2⟩ := (X1.out.2.2.2.2.row H.out.2.1).cell (i := k) hlt
      have hf := HF.out k hlt
      by_cases hm : fh k = 4294967295
      · have hm' : (fh k != 4294967295) = false := by simpa using hm
        have NX : Hid (PtAt fl fh (k + 1) P1) := HX.out.1.next X1.out.2.1 X1.out.2.2.1 (fun q => ⟨.inr, fun h => h.elim (fun h => absurd hm h.1) id⟩) (by omega) X1.out.1
        clear hm HX
        go_wp2
        go_roundg (n - (k + 1))
        case measure => omega
        case rel => exact ⟨k + 1, pao1, P1, cap1, by omega, rfl, rfl, by go_num, NX.out, X1.out.2.2.2⟩
      · have hm' : (fh k != 4294967295) = true := by simpa using hm
        have hwr : IntKind.u32.wrap (fh k + 1) = fh k + 1 := by rw [IntKind.wrap_u32]; omega
        have hl1 := X1.out.2.2.1
        go_wp2_with fail
        refine (insu32_any w.heap.size pao1 P1.length cap1 P1 (fh k + 1) w1 X1.out.2.2.2.1 X1.out.1 (by omega) X1.out.2.2.2.2.size).mono ?_
        rintro e w3 ⟨pao2, P2, cap2, rfl, p1, p2, p3, p4, p5⟩
        have NX : Hid (PtAt fl fh (k + 1) P2 ∧ OR w3 w.heap.size 41 pao2 P2.length cap2 (P2.map (.int .u32)) ∧ Gr w w3) :=
          ⟨HX.out.1.next X1.out.2.1 X1.out.2.2.1 (fun q => by rw [p2]; exact ⟨fun h => h.imp (fun e => ⟨hm, e⟩) id, fun h => h.imp (fun e => e.2) id⟩) p5 p1, p3, X1.out.2.2.2.2.own X1.out.2.2.2.1 p4⟩
        clear p1 p2 p3 p4 p5 HX X1 d2 hm
        go_wp2
        go_roundg (n - (k + 1))
        case measure => omega
        case rel => exact ⟨k + 1, pao2, P2, cap2, by omega, rfl, rfl, by go_num, NX⟩
    · obtain rfl : n = k := by omega
      obtain ⟨w2, rfl⟩ : ∃ w2, w2 = wr := ⟨wr, rfl⟩
      have hPl := HX.out.1.2.1
      go_wp2
      go_loopg [10, 11, 13, 14, 42] P.length (fun gk x10 x11 x13 x14 x42 wr => ∃ (i : Nat) (sao : Option Addr) (c : Nat) (ca : Option Addr) (c' : Nat) (cv : List Value) (M : List Int × List (List Int)), i ≤ P.length ∧ gk = P.length - i ∧ x10 = .slice sao M.1.length c ∧ x11 = .slice ca M.2.length c' ∧ x42 = .int .i64 i ∧ Hid (M = mfold cov (P.take i) ∧ MR w2 M sao c ca c' cv wr))
      case atStart => exact ⟨0, none, 0, none, 0, [], ([], []), by omega, rfl, rfl, rfl, rfl, by simp [mfold], MR.start _⟩
      case round =>
        obtain ⟨i, sao, c, ca, c', cv, M, hi, hgk2, rfl, rfl, rfl, HM⟩ := hrel
        by_cases hlt2 : i < P.length
        · have hlt2' : (i : Int) < (P.length : Int) := by omega
          obtain ⟨p, hp⟩ : ∃ p, P[i]? = some p := ⟨P[i], List.getElem?_eq_getElem _⟩
          obtain ⟨pg, u, rfl, -, eu, cu, -⟩ := HX.out.2.1.cell hlt2
          rw [List.getElem?_map, hp] at eu
          obtain rfl : u = .int .u32 p := (Option.some.inj eu).symm
          clear eu
          replace cu := HM.out.2.gr.cell cu
          have G0 : Hid (Gr w wr) := HX.out.2.2.trans HM.out.2.gr
          have hML : M.1.length = M.2.length ∧ M.1.length ≤ i := by rw [HM.out.1]; have := mfold_len cov _ (P.take i) rfl; have e := List.length_take (i := i) (l := P); omega
          have HML := Hid.intro hML
          have MEQ := Hid.intro HM.out.1
          have NEW : Hid (M.2.getLast? = some (cov p) → M = mfold cov (P.take (i + 1))) := fun h => by
            rw [take_snoc hp, mfold_snoc, ← HM.out.1]; unfold mstep; rw [if_pos h]
          have NEW2 : Hid (¬ M.2.getLast? = some (cov p) → (M.1 ++ [p], M.2 ++ [cov p]) = mfold cov (P.take (i + 1))) := fun h => by
            rw [take_snoc hp, mfold_snoc, ← HM.out.1]; unfold mstep; rw [if_neg h]
          clear hML hp
          go_wp2_with fail
          refine (cover_any p la ha sa n c1 c2 c3 fl fh fs wr hn (G0.out.row H.out.1) (G0.out.row H.out.2.1) (G0.out.row H.out.2.2)).mono ?_
          rintro e w3 ⟨yao, ys, ycap, rfl, hy1, hy2, hy3⟩
          have hys := HC.out p ys hy1
          have M3 : Hid (MR w2 M sao c ca c' cv w3 ∧ OR w3 w2.heap.size 21 yao ys.length ycap (ys.map (.int .i32)) ∧ ys.length ≤ 1024) := ⟨HM.out.2.grown hy3, hy2.lower HM.out.2.gr.size, by have := hy1.2.1; omega⟩
          rw [← hys] at NEW NEW2
          clear hy1 hy2 hy3 hys HM cu
          rcases Nat.eq_zero_or_pos M.2.length with hz | hz
          · have hnl : ¬ M.2.getLast? = some ys := by rw [List.length_eq_zero_iff.1 hz]; simp
            obtain ⟨g, e2, w5, g', e3, w6, r5, r6, M6⟩ := M3.out.1.push HML.out.1 (by have := HML.out.2; omega) p ys yao ycap M3.out.2.1
            have NX : Hid ((M.1 ++ [p], M.2 ++ [ys]) = mfold cov (P.take (i + 1)) ∧ MR w2 (M.1 ++ [p], M.2 ++ [ys]) (some ⟨g, 0, none⟩) e2 (some ⟨g', 0, none⟩) e3 (cv ++ [.slice yao ys.length ycap]) w6) := ⟨NEW2.out hnl, M6⟩
            have hz' : ((M.2.length : Int) == 0) = true := by simpa using hz
            clear hz hnl M6 M3 NEW NEW2
            go_wp2_with (at_builtin; first | refine Lib.wpList_append_run _ rfl _ _ _ _ rfl _ _ rfl rfl _ _ r5 ?_ | refine Lib.wpList_append_run _ rfl _ _ _ _ rfl _ _ rfl rfl _ _ r6 ?_)
            go_roundg (P.length - (i + 1))
            case measure => omega
            case rel => exact ⟨i + 1, some ⟨g, 0, none⟩, e2, some ⟨g', 0, none⟩, e3, _, (M.1 ++ [p], M.2 ++ [ys]), by omega, rfl, by simp, by simp, by go_num, NX⟩
          · obtain ⟨m, hm⟩ : ∃ m, m + 1 = M.2.length := ⟨M.2.length - 1, by omega⟩
            obtain ⟨zs, hzs⟩ : ∃ zs, M.2[m]? = some zs := ⟨M.2[m], List.getElem?_eq_getElem _⟩
            have hlast : M.2.getLast? = some zs := by rw [List.getLast?_eq_getElem?, ← hzs]; congr 1; omega
            obtain ⟨zao, zcap, ez, oz⟩ := M3.out.1.rows m zs hzs
            obtain ⟨cg, u, rfl, -, eu, cu, -⟩ := M3.out.1.cs.cell (j := m) (by omega)
            rw [ez] at eu
            obtain rfl : u = .slice zao zs.length zcap := (Option.some.inj eu).symm
            have hmb : m ≤ 3000 := by have := HML.out; omega
            have hml : (m : Int) < (m : Int) + 1 := by omega
            have hz' : (((m : Int) + 1) == 0) = false := beq_eq_false_iff_ne.2 (by omega)
            have hmi : (m : Int) + 1 - 1 = (m : Int) := by omega
            have OZ := Hid.intro oz
            have zl : zs.length ≤ 1000000 := by
              have hm2 := List.mem_of_getElem? hzs
              rw [MEQ.out] at hm2
              obtain ⟨q, rfl⟩ := mfold_mem cov _ (P.take i) rfl zs hm2
              have := HCL.out q
              omega
            have HLAST := Hid.intro hlast
            have HMM := Hid.intro hm
            rw [← hm]
            clear eu ez oz hzs hm hz hlast
            go_wp2_with fail
            have rz := OZ.out.rowI32
            have ry := M3.out.2.1.rowI32
            refine (sameI32_any zao yao w3.heap.size w3.heap.size zs.length ys.length zcap ycap (fun i => zs[i]!) (fun i => ys[i]!) w3 zl (by have := M3.out.2.2; omega) rz ry).mono ?_
            rintro e w4 ⟨⟨b, rfl, hb⟩, a4⟩
            have HEQ : Hid (b = true ↔ zs = ys) := by
              rw [show (zs = ys) = _ from propext (list_eq_iff zs ys)]; exact hb
            have M4 : Hid (MR w2 M sao c (some ⟨cg, 0, none⟩) c' cv w4 ∧ OR w4 w2.heap.size 21 yao ys.length ycap (ys.map (.int .i32))) := ⟨M3.out.1.grown (Gr.of_alk a4), M3.out.2.1.alk a4⟩
            clear rz ry hb a4 M3 cu OZ
            rcases b with _ | _
            · have hnl : ¬ M.2.getLast? = some ys := by rw [HLAST.out]; intro e; have := HEQ.out.2 (Option.some.inj e); cases this
              obtain ⟨g, e2, w5, g', e3, w6, r5, r6, M6⟩ := M4.out.1.push HML.out.1 (by have := HML.out.2; omega) p ys yao ycap M4.out.2
              have NX : Hid ((M.1 ++ [p], M.2 ++ [ys]) = mfold cov (P.take (i + 1)) ∧ MR w2 (M.1 ++ [p], M.2 ++ [ys]) (some ⟨g, 0, none⟩) e2 (some ⟨g', 0, none⟩) e3 (cv ++ [.slice yao ys.length ycap]) w6) := ⟨NEW2.out hnl, M6⟩
              rw [← HMM.out] at r6
              clear hnl M6 M4 NEW NEW2
              go_wp2_with (at_builtin; first | refine Lib.wpList_append_run _ rfl _ _ _ _ rfl _ _ rfl rfl _ _ r5 ?_ | refine Lib.wpList_append_run _ rfl _ _ _ _ rfl _ _ rfl rfl _ _ r6 ?_)
              go_roundg (P.length - (i + 1))
              case measure => omega
              case rel => exact ⟨i + 1, some ⟨g, 0, none⟩, e2, some ⟨g', 0, none⟩, e3, _, (M.1 ++ [p], M.2 ++ [ys]), by omega, rfl, by simp, by have := HMM.out; simp; omega, by go_num, NX⟩
            · have hyes : M.2.getLast? = some ys := by rw [HLAST.out, HEQ.out.1 rfl]
              have NX : Hid (M = mfold cov (P.take (i + 1))) := NEW.out hyes
              clear hyes NEW NEW2
              go_wp2
              go_roundg (P.length - (i + 1))
              case measure => omega
              case rel => exact ⟨i + 1, sao, c, _, c', cv, M, by omega, rfl, rfl, by rw [HMM.out], by go_num, NX.out, M4.out.1⟩
        · obtain rfl : P.length = i := by omega
          have hfin : M = mfold cov P := by rw [HM.out.1, List.take_length]
          have FIN : Hid (M = mfold cov P) := hfin
          clear hfin
          go_wp2
          refine bodyPost_ret (v := .tuple #[.slice sao M.1.length c, .slice ca M.2.length c']) (by simp [results, Tryz.results19, go_sem]) rfl ?_
          exact ⟨P, w2, sao, c, ca, c', cv, by rw [← FIN.out], HX.out.1, HX.out.2.2, by rw [← FIN.out]; exact HM.out.2⟩
end Go.Proofs.Qxb6618911aGreat
