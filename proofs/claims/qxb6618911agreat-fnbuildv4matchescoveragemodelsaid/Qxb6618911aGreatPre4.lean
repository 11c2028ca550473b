/-
  What the laws' walks take out of the index and of its builder. No walk here.
-/
import Derived.Test.Qxb6618911aGreatBuild
import Derived.Test.Qxb6618911aGreatRead
import Derived.Test.Qxb6618911aGreatSets
import Derived.Test.Qxb6618911aGreatHolds
namespace Go.Proofs.Qxb6618911aGreat
open Go.RowKit Go.Lib

/-- No old block has turned. -/
def Gr (a b : World) : Prop := Below a.heap.size a b

namespace Gr
variable {a b c : World}
theorem refl (a : World) : Gr a a := Below.refl _ _
theorem trans (h : Gr a b) (k : Gr b c) : Gr a c := Below.trans h (Below.mono k h.size)
theorem of_alk (h : Alk b a) : Gr a b := h.below _
theorem of_none (g : a.grownBy b none) : Gr a b := ⟨g.os, g.tape, g.output, g.size, fun k hk => g.block k hk (by simp)⟩
theorem row (h : Gr a b) {lo : Nat} {ao : Option Addr} {n : Nat} {f : Nat → Value} (r : Row a lo a.heap.size ao n f) : Row b lo b.heap.size ao n f := (Row.below r h (Nat.le_refl _)).widen (Nat.le_refl _) h.size
theorem rowIs (h : Gr a b) {g : Nat} {t : TypeId} {n : Nat} {f : Nat → Value} (r : a.rowIs g t n f) : b.rowIs g t n f := r.of_block (h.block g r.lt)
theorem cell (h : Gr a b) {p o : Nat} {v : Value} (r : a.cell? ⟨p, o, none⟩ = some v) : b.cell? ⟨p, o, none⟩ = some v := by
  rw [Below.cell h (p := ⟨p, o, none⟩) (lt_of_cell r)]; exact r
theorem of_kp {P : Nat → Prop} (h : Kp P a b) (hp : ∀ q, q < a.heap.size → ¬ P q) : Gr a b := ⟨h.os, h.tape, h.output, h.size, fun q hq => h.block q hq (hp q hq)⟩
/-- .. behind a step that only turns blocks that are new to the first world. -/
theorem kp {P : Nat → Prop} (g : Gr a b) (h : Kp P b c) (hp : ∀ q, P q → a.heap.size ≤ q) : Gr a c :=
  ⟨h.os.trans g.os, h.tape.trans g.tape, h.output.trans g.output, Nat.le_trans g.size h.size, fun q hq => (h.block q (Nat.lt_of_lt_of_le hq g.size) (fun x => by have := hp q x; omega)).trans (g.block q hq)⟩
theorem row3 (h : Gr a b) {g n : Nat} {d : Nat → Int × Int × Int} (h0 : 0 < n) (r : R3 spV a g n d) : R3 spV b g n d := r.of_block (h.block g (r.lt h0))
end Gr

theorem Gr.row0 {a : World} {g : Nat} {t : TypeId} {n : Nat} {f : Nat → Value} (h : a.rowIs g t n f) : Row a 0 a.heap.size (some ⟨g, 0, none⟩) n f := Row.of_rowIs h (Nat.zero_le _) h.lt

/-- The clone, and that its address is plain. -/
theorem cloneStr_plain (ao : Option Addr) (lo hi n cap : Nat) (f : Nat → ByteArray) (w : World) (hn : n ≤ 1048576) (h0 : ao = none → n = 0) (hsp : ∀ a, ao = some a → a.spot = none) (hr : Row w lo hi ao n (fun i => Value.string (f i))) :
    Calls Tryz.prog 8 #[.slice ao n cap] w fun e w' => ∃ ao', e = .returned (.slice ao' n n) ∧ (ao' = none → n = 0) ∧ (∀ a, ao' = some a → a.spot = none) ∧ Row w' w.heap.size w'.heap.size ao' n (fun i => Value.string (f i)) ∧ Gr w w' := by
  rcases ao with _ | ⟨b, off, spot⟩
  · have e := h0 rfl
    subst e
    refine (cloneStr_nil 0 cap w).mono ?_
    rintro e w' ⟨rfl, rfl⟩
    exact ⟨none, rfl, fun _ => rfl, fun a e => (by cases e), fun i hi => by omega, Gr.refl _⟩
  · have := hsp _ rfl
    simp only at this
    subst this
    refine (cloneStr_some b off n cap f w hn ?_).mono ?_
    · intro i hi
      obtain ⟨b', off', e, h1⟩ := hr.cell hi
      cases e
      exact h1
    · rintro e w' ⟨rfl, h1, h2⟩
      exact ⟨_, rfl, fun h => (by cases h), fun a e => (by cases e; rfl), Row.of_rowIs h1 (Nat.le_refl _) h1.lt, h2⟩

theorem OR.rowOf {w : World} {base : Nat} {e : TypeId} {ao : Option Addr} {n cap : Nat} {xs : List Value} (h : OR w base e ao n cap xs) : Row w 0 w.heap.size ao n (fun i => xs[i]!) := fun i hi => by
  obtain ⟨g, v, h1, h2, h3, h4, _⟩ := h.cell hi
  refine ⟨g, 0, h1, Nat.zero_le _, lt_of_cell h4, ?_⟩
  have hl : i < xs.length := by rw [h.1]; exact hi
  rw [List.getElem?_eq_getElem hl] at h3
  show w.cell? ⟨g, 0 + i, none⟩ = some xs[i]!
  rw [Nat.zero_add, h4, getL _ hl, Option.some.inj h3]

theorem OR.rowInt {w : World} {base : Nat} {e : TypeId} {ao : Option Addr} {n cap : Nat} {zs : List Int} (h : OR w base e ao n cap (zs.map (.int .u32))) : Row w 0 w.heap.size ao n (fun i => .int .u32 zs[i]!) :=
  h.rowOf.congr fun i hi => by
    have hl : (zs.map (Value.int .u32)).length = n := h.1
    have hz : zs.length = n := by simpa using hl
    rw [getL _ (by omega), List.getElem_map, getL _ (by omega)]

namespace IdxW
variable {w w' : World} {base : Nat} {sao : Option Addr} {xb : Nat} {nao : Option Addr} {nn ncap : Nat} {nm : Nat → ByteArray} {l : List T3} {r : Nat → Int} {st : List Int × List Int × List (List Int)} {sta : Option Addr} {stc : Nat} {ua : Option Addr} {uc s6 u6 : Nat} {ta : Option Addr} {tc : Nat} {sc : List Value} {rb r6 : Nat}

theorem gr (h : IdxW w base sao xb nao nn ncap nm l r st sta stc ua uc s6 u6 ta tc sc rb r6) (g : Gr w w') : IdxW w' base sao xb nao nn ncap nm l r st sta stc ua uc s6 u6 ta tc sc rb r6 := h.keep fun q hq _ => g.block q hq

theorem s3 (h : IdxW w base sao xb nao nn ncap nm l r st sta stc ua uc s6 u6 ta tc sc rb r6) : S3 w sao l.length (fun i => l[i]!) := fun i hi => by
  rcases h.spz with ⟨sb, e⟩ | e
  · obtain ⟨m0, m1, m2, _⟩ := (h.spans sb e).three hi
    exact ⟨sb, e, m0, m1, m2⟩
  · rw [e] at hi; simp at hi

/-- The row of a set. -/
theorem setRow (h : IdxW w base sao xb nao nn ncap nm l r st sta stc ua uc s6 u6 ta tc sc rb r6) {k : Nat} (h0 : 0 < k) (hk : k < st.2.2.length) : ∃ g, sc[k]! = .slice (some ⟨g, 0, none⟩) (st.2.2[k]!).length (st.2.2[k]!).length ∧ Row w 0 w.heap.size (some ⟨g, 0, none⟩) (st.2.2[k]!).length (fun i => .string ⟨⟨(srtN nm st.2.2[k]!)[i]!⟩⟩) := by
  obtain ⟨g, h1, h2, h3⟩ := h.rows.2 k h0 hk
  refine ⟨g, ?_, Gr.row0 h3⟩
  have hl : k < sc.length := by rw [h.sets.1]; exact hk
  rw [List.getElem?_eq_getElem hl] at h1
  rw [getL _ hl]; exact Option.some.inj h1

theorem set0 (h : IdxW w base sao xb nao nn ncap nm l r st sta stc ua uc s6 u6 ta tc sc rb r6) : sc[0]! = .slice none 0 0 := by
  have h1 := h.rows.1
  have hl : 0 < sc.length := by
    rcases Nat.eq_zero_or_pos sc.length with e | e
    · rw [List.length_eq_zero_iff.1 e] at h1; simp at h1
    · exact e
  rw [List.getElem?_eq_getElem hl] at h1
  rw [getL _ hl]; exact Option.some.inj h1
end IdxW

theorem idx_twin {w : World} {base base2 : Nat} {sao sao2 : Option Addr} {xb xb2 : Nat} {nao nao2 : Option Addr} {nn ncap nn2 ncap2 : Nat} {nm : Nat → ByteArray} {l l2 : List T3} {r r2 : Nat → Int} {st : List Int × List Int × List (List Int)} {sta sta2 : Option Addr} {stc stc2 : Nat} {ua ua2 : Option Addr} {uc uc2 s6 u6 s62 u62 : Nat} {ta ta2 : Option Addr} {tc tc2 : Nat} {sc sc2 : List Value} {rb r6 rb2 r62 : Nat}
    (h : IdxW w base sao xb nao nn ncap nm l r st sta stc ua uc s6 u6 ta tc sc rb r6) (k : IdxW w base2 sao2 xb2 nao2 nn2 ncap2 nm l2 r2 st sta2 stc2 ua2 uc2 s62 u62 ta2 tc2 sc2 rb2 r62) (hs : ∀ zs ∈ st.2.2, zs.length ≤ 1000000) :
    ∀ i, i < st.2.2.length → TwinS w w.heap.size w.heap.size sc[i]! sc2[i]! := fun i hi => by
  rcases Nat.eq_zero_or_pos i with rfl | h0
  · rw [h.set0, k.set0]
    exact ⟨none, none, 0, 0, 0, fun _ => .empty, rfl, rfl, by simp, by simp, by simp, fun i hi => by omega, fun i hi => by omega⟩
  · obtain ⟨g, e1, r1⟩ := h.setRow h0 hi
    obtain ⟨g2, e2, r2⟩ := k.setRow h0 hi
    exact ⟨_, _, _, _, _, _, e1, e2, by simp, by simp, hs _ (by rw [getL _ hi]; exact List.getElem_mem _), r1, r2⟩

/-! ### Bounds -/

theorem ps_bound {l : List T3} {ps : List Int} (h : PsOf l ps) (hl : l.length ≤ 1024) : ps.length ≤ 2048 := by
  have h1 := len_sub ps ((evAll l).map (·.1)) (h.1.imp fun {a b} hab e => by omega) (fun q hq => by
    obtain ⟨e, he, rfl⟩ := (h.2 q).1 hq
    exact List.mem_map.2 ⟨e, he, rfl⟩)
  have h2 := evAll_len l
  rw [List.length_map] at h1
  omega

theorem ps_ok {l : List T3} {ps : List Int} (h : PsOf l ps) (hl : ∀ x ∈ l, 0 ≤ x.1 ∧ x.1 ≤ x.2.1) : ∀ p ∈ ps, 0 ≤ p := fun p hp => by
  obtain ⟨e, he, rfl⟩ := (h.2 p).1 hp
  obtain ⟨x, hx, _, h2⟩ := evAll_mem he
  have := hl x hx
  rcases h2 with ⟨h2, _⟩ | ⟨_, h2, _⟩ <;> omega

theorem tabN_mem {tab : List (List Int)} {zs ys : List Int} (h : ys ∈ tabN tab zs) : ys ∈ tab ∨ ys = zs := by
  unfold tabN at h
  split at h
  · exact .inl h
  · simpa using h

theorem tfold_sets (nn : Nat) (l : List T3) (hnn : nn ≤ 4096) : ∀ (n : Nat) (ps : List Int), ps.length = n → ∀ zs ∈ (tfold nn l [[]] ps).2.2, zs.length ≤ 4096
  | 0, ps, hn => by rw [List.length_eq_zero_iff.1 hn]; intro zs hz; simp [tfold] at hz; simp [hz]
  | n + 1, ps, hn => by
    have hne : ps ≠ [] := by rintro rfl; simp at hn
    obtain ⟨qs, p, rfl⟩ : ∃ qs p, ps = qs ++ [p] := ⟨_, _, (List.dropLast_concat_getLast hne).symm⟩
    rw [tfold_snoc]
    have ih := tfold_sets nn l hnn n qs (by simpa using hn)
    have hst : (tstep (cover nn l p) p (tfold nn l [[]] qs)).2.2 = tabN (tfold nn l [[]] qs).2.2 (cover nn l p) := by 
      unfold tstep
      split
      · rfl
      · split <;> rfl
    rw [hst]
    intro zs hz
    rcases tabN_mem hz with h | rfl
    · exact ih zs h
    · exact Nat.le_trans (cover_len nn l p) hnn

/-- The builder, handed to Build. -/
theorem barg_of {w w' : World} {nao : Option Addr} {nn ncap n bb mb : Nat} {N : Nat → ByteArray} {sao : Option Addr} {d : Nat → Int × Int × Int} (hn : n ≤ 1024) (hnn : nn ≤ 4096) (hB : w'.rowIs bb 70 4 (bF nao nn ncap mb sao n)) (hb : w.heap.size ≤ bb) (g : w.grownBy w' none)
    (hs : (n = 0 ∧ sao = none) ∨ (0 < n ∧ ∃ sb, sao = some ⟨sb, 0, none⟩ ∧ w.heap.size ≤ sb ∧ sb ≠ bb ∧ R3 spV w' sb n d)) (hr : Row w 0 w.heap.size nao nn (fun i => Value.string (N i)))
    (ok : ∀ i, i < n → 0 ≤ (d i).1 ∧ (d i).1 ≤ (d i).2.1 ∧ (d i).2.1 ≤ 4294967295 ∧ 0 ≤ (d i).2.2 ∧ (d i).2.2 < nn) : BArg w' bb nao nn ncap N (.map (some mb)) sao n d w.heap.size :=
  ⟨hn, hnn, hB.congr fun i hi => (by
    match i, hi with
    | 0, _ => rfl
    | 1, _ => rfl
    | 2, _ => rfl
    | 3, _ => rfl), Row.below hr (Gr.of_none g) (Nat.le_refl _), hb, (by
    rcases hs with h | ⟨h0, sb, e, h1, h2, h3⟩
    · exact .inl h
    · exact .inr ⟨h0, sb, e, h2, h1, h3⟩), ok⟩

/-- Build turns no block that was there ahead of the builder. -/
theorem gr_build {w w' w'' : World} {n bb : Nat} {sao : Option Addr} {d : Nat → Int × Int × Int} (hb : w.heap.size ≤ bb) (g : w.grownBy w' none)
    (hs : (n = 0 ∧ sao = none) ∨ (0 < n ∧ ∃ sb, sao = some ⟨sb, 0, none⟩ ∧ w.heap.size ≤ sb ∧ sb ≠ bb ∧ R3 spV w' sb n d)) (k : Kp (fun q => q = bb ∨ sao = some ⟨q, 0, none⟩) w' w'') : Gr w w'' :=
  (Gr.of_none g).kp k fun q hq => by
    rcases hq with rfl | e
    · exact hb
    · rcases hs with ⟨_, h⟩ | ⟨_, sb, e2, h1, _⟩
      · rw [h] at e; cases e
      · rw [e2] at e
        have := Option.some.inj e
        simp only [Addr.mk.injEq] at this
        omega

/-- The place that comes to i when the spans are rotated at c. -/
def rot (n c i : Nat) : Nat := if n ≤ c + i then c + i - n else c + i

theorem rot_lt {n c i : Nat} (hc : c ≤ n) (hi : i < n) : rot n c i < n := by unfold rot; split <;> omega

/-- The bounds of an index. -/
structure Bnd (nn : Nat) (l : List T3) (ps : List Int) : Prop where
  pts : PsOf l ps
  ok : ∀ x ∈ l, 0 ≤ x.1 ∧ x.1 ≤ x.2.1 ∧ x.2.1 ≤ 4294967295 ∧ 0 ≤ x.2.2 ∧ x.2.2 < nn
  hl : l.length ≤ 1024
  hnn : nn ≤ 4096

namespace Bnd
variable {nn : Nat} {l : List T3} {ps : List Int}
theorem look (h : Bnd nn l ps) : Look nn l ps (tfold nn l [[]] ps) := tfold_look nn l _ ps rfl h.pts.1 (ps_ok h.pts fun x hx => ⟨(h.ok x hx).1, (h.ok x hx).2.1⟩)
theorem len1 (h : Bnd nn l ps) : (tfold nn l [[]] ps).1.length ≤ 1000000 := by
  have h1 := (tfold_len nn l [[]] ps).2.2.1
  have h2 := ps_bound h.pts h.hl
  omega
theorem len2 (h : Bnd nn l ps) : (tfold nn l [[]] ps).2.1.length ≤ 1000000 := by
  have h1 := h.len1
  rw [h.look.len] at h1
  exact h1
theorem len3 (h : Bnd nn l ps) : (tfold nn l [[]] ps).2.2.length ≤ 1000000 := by
  have h1 := (tfold_len nn l [[]] ps).2.2.2
  have h2 := ps_bound h.pts h.hl
  simp only [List.length_cons, List.length_nil] at h1
  omega
theorem sets (h : Bnd nn l ps) : ∀ zs ∈ (tfold nn l [[]] ps).2.2, zs.length ≤ 1000000 := fun zs hz => by
  have := tfold_sets nn l h.hnn _ ps rfl zs hz
  omega
end Bnd

/-- A span's source is named by the run at each address of the span. -/
theorem holds_call {w : World} {base : Nat} {sao : Option Addr} {xb : Nat} {nao : Option Addr} {nn ncap : Nat} {nm : Nat → ByteArray} {l : List T3} {r : Nat → Int} {ps : List Int} {sta : Option Addr} {stc : Nat} {ua : Option Addr} {uc s6 u6 : Nat} {ta : Option Addr} {tc : Nat} {sc : List Value} {rb r6 : Nat}
    (h : IdxW w base sao xb nao nn ncap nm l r (tfold nn l [[]] ps) sta stc ua uc s6 u6 ta tc sc rb r6) (b : Bnd nn l ps) (s1 : Option Addr) (c1 : Nat) (hs : Row w 0 w.heap.size s1 (tfold nn l [[]] ps).1.length (fun i => .int .u32 (tfold nn l [[]] ps).1[i]!)) {x : T3} (hx : x ∈ l) {a : Int} (h1 : x.1 ≤ a) (h2 : a ≤ x.2.1) :
    Calls Tryz.prog 30 #[.slice s1 (tfold nn l [[]] ps).1.length c1, .slice ua (tfold nn l [[]] ps).2.1.length uc, .slice ta (tfold nn l [[]] ps).2.2.length tc, .int .u32 a, .string (nm x.2.2.toNat)] w fun e w' => e = .returned (.bool true) ∧ Alk w' w := by
  have hx5 := b.ok x hx
  obtain ⟨i, k, g1, g2, g3, g4, g5, g6⟩ := b.look.look a (by omega)
  rw [cv_cover b.pts (by omega)] at g6
  have hm : x.2.2 ∈ cover nn l a := mem_cover.2 ⟨by omega, by omega, x, hx, rfl, h1, h2⟩
  have hk0 : 0 < k := by
    rcases Nat.eq_zero_or_pos k with e | e
    · exfalso
      subst e
      have hz := b.look.zero
      rw [List.getElem?_eq_getElem g5] at hz
      rw [getL _ g5, Option.some.inj hz] at g6
      rw [← g6] at hm
      simp at hm
    · exact e
  obtain ⟨g, e1, r1⟩ := h.setRow hk0 g5
  obtain ⟨j, hj, ej⟩ := srtN_mem (nm := nm) (zs := (tfold nn l [[]] ps).2.2[k]!) (s := x.2.2) (by rw [g6]; exact hm)
  rw [srtN_len] at hj
  have hnums := h.nums.rowInt
  rw [← b.look.len] at hnums ⊢
  exact runHolds_true s1 ua ta _ w.heap.size _ _ _ c1 uc tc _ (fun i => (tfold nn l [[]] ps).1[i]!) (fun i => (tfold nn l [[]] ps).2.1[i]!) (fun i => sc[i]!) _ a _ w b.len1 b.len3 (b.sets _ (by rw [getL _ g5]; exact List.getElem_mem _))
    hs hnums h.sets.rowOf i g1 g2 g3 k g4 g5 e1 r1 ⟨j, hj, by show ByteArray.mk ⟨_⟩ = _; rw [ej]⟩
end Go.Proofs.Qxb6618911aGreat
