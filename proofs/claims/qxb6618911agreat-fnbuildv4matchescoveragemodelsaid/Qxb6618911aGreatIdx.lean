/-
  The index as it lies in memory, and what keeps it. No walk here.
-/
import Derived.Test.Qxb6618911aGreatTab
import Derived.Test.Qxb6618911aGreatTab6
import Derived.Test.Qxb6618911aGreatSmall
import Derived.Test.Qxb6618911aGreatBuilder
import Derived.Test.Qxb6618911aGreatPlain4
namespace Go.Proofs.Qxb6618911aGreat
open Go.RowKit Go.Lib

/-- The index's twelve fields. -/
def xF (s u f s6 u6 f6 t sp rc e6 r6 nm : Value) : Nat → Value
  | 0 => s
  | 1 => u
  | 2 => f
  | 3 => s6
  | 4 => u6
  | 5 => f6
  | 6 => t
  | 7 => sp
  | 8 => rc
  | 9 => e6
  | 10 => r6
  | _ => nm

/-- Old blocks outside P are kept. -/
structure Kp (P : Nat → Prop) (w w' : World) : Prop where
  os : w'.os = w.os
  tape : w'.tape = w.tape
  output : w'.output = w.output
  size : w.heap.size ≤ w'.heap.size
  block : ∀ q, q < w.heap.size → ¬ P q → w'.heap[q]? = w.heap[q]?

namespace Kp
variable {P P' : Nat → Prop} {w w' w'' : World}
theorem refl (w : World) : Kp P w w := ⟨rfl, rfl, rfl, Nat.le_refl _, fun _ _ _ => rfl⟩
theorem trans (h : Kp P w w') (k : Kp P w' w'') : Kp P w w'' :=
  ⟨k.os.trans h.os, k.tape.trans h.tape, k.output.trans h.output, Nat.le_trans h.size k.size, fun q hq hn => (k.block q (Nat.lt_of_lt_of_le hq h.size) hn).trans (h.block q hq hn)⟩
theorem of_alk (a : Alk w' w) : Kp P w w' := ⟨a.os, a.tape, a.output, by rw [a.heap]; exact Nat.le_refl _, fun _ _ _ => by rw [a.heap]⟩
theorem of_grown {r : Option Nat} (g : w.grownBy w' r) (h : ∀ q, some q = r → P q) : Kp P w w' := ⟨g.os, g.tape, g.output, g.size, fun q hq hn => g.block q hq (fun e => hn (h q e))⟩
theorem of_none (g : w.grownBy w' none) : Kp P w w' := of_grown g (fun q e => by cases e)
theorem of_below (g : Below w.heap.size w w') : Kp P w w' := ⟨g.os, g.tape, g.output, g.size, fun q hq _ => g.block q hq⟩
theorem wide (h : Kp P w w') (hp : ∀ q, P q → P' q) : Kp P' w w' := ⟨h.os, h.tape, h.output, h.size, fun q hq hn => h.block q hq (fun x => hn (hp q x))⟩
/-- From w0 on, where only blocks from w0's size on have turned. -/
theorem fr {base : Nat} {S : List TypeId} (h : Kp P w w') (f : FrT base S w' w'') (hb : w.heap.size ≤ base) : Kp P w w'' :=
  ⟨f.os.trans h.os, f.tape.trans h.tape, f.output.trans h.output, Nat.le_trans h.size f.size, fun q hq hn => (f.keep (Nat.lt_of_lt_of_le hq h.size) (.inl (by omega))).trans (h.block q hq hn)⟩
end Kp

theorem OR.lower {w : World} {base base' : Nat} {e : TypeId} {ao : Option Addr} {n cap : Nat} {xs : List Value} (h : OR w base e ao n cap xs) (hb : base' ≤ base) : OR w base' e ao n cap xs := by
  obtain ⟨h1, h2⟩ := h
  refine ⟨h1, ?_⟩
  rcases h2 with h2 | ⟨g, f, h3, h4, h5, h6, h7, h8⟩
  · exact .inl h2
  · exact .inr ⟨g, f, h3, by omega, h5, h6, h7, h8⟩

/-- The interner is kept where the blocks from base on are, and the names are. -/
theorem ItnE.keep {w w' : World} {base ib : Nat} {nao : Option Addr} {nn ncap : Nat} {nm : Nat → ByteArray} {tab : List (List Int)} (h : ItnE w base ib nao nn ncap nm tab) (k : ∀ q, q < w.heap.size → base ≤ q → w'.heap[q]? = w.heap[q]?)
    (hn : Row w' 0 base nao nn (fun i => Value.string (nm i))) : ItnE w' base ib nao nn ncap nm tab := by
  obtain ⟨mb, sao, scap, bao, bn, bcap, sc, bc, h⟩ := h
  have ko : ∀ {e : TypeId} {ao : Option Addr} {n cap : Nat} {xs : List Value}, OR w base e ao n cap xs → OR w' base e ao n cap xs := by
    rintro e ao n cap xs ⟨h1, h2⟩
    refine ⟨h1, ?_⟩
    rcases h2 with h2 | ⟨g, f, h3, h4, h5, h6, h7, h8⟩
    · exact .inl h2
    · exact .inr ⟨g, f, h3, h4, h5, h6, h7.of_block (k g h7.lt h4), h8⟩
  exact ⟨mb, sao, scap, bao, bn, bcap, sc, bc, h.fields.of_block (k _ h.fields.lt h.ibB), h.ibB, h.mbB, h.map.of_block (k _ h.map.lt h.mbB), ko h.sets,
    ⟨h.rows.1, fun j h0 hj => by obtain ⟨g, g1, g2, g3⟩ := h.rows.2 j h0 hj; exact ⟨g, g1, g2, g3.of_block (k _ g3.lt g2)⟩⟩, ko h.buf, hn, h.zero⟩

/-- The index at block xb, its addresses given. -/
structure IdxW (w : World) (base : Nat) (sao : Option Addr) (xb : Nat) (nao : Option Addr) (nn ncap : Nat) (nm : Nat → ByteArray) (l : List T3) (r : Nat → Int) (st : List Int × List Int × List (List Int)) (sta : Option Addr) (stc : Nat) (ua : Option Addr) (uc s6 u6 : Nat) (ta : Option Addr) (tc : Nat) (sc : List Value) (rb r6 : Nat) : Prop where
  x : w.rowIs xb 93 12 (xF (.slice sta st.1.length stc) (.slice ua st.2.1.length uc) (.slice none 0 0) (.slice (some ⟨s6, 0, none⟩) 1 1) (.slice (some ⟨u6, 0, none⟩) 1 1) (.slice none 0 0) (.slice ta st.2.2.length tc) (.slice sao l.length l.length) (.slice (some ⟨rb, 0, none⟩) l.length l.length) (.slice none 0 0) (.slice (some ⟨r6, 0, none⟩) 0 0) (.slice nao nn ncap))
  xB : base ≤ xb
  starts : OR w base 71 sta st.1.length stc (st.1.map (.int .u32))
  nums : OR w base 41 ua st.2.1.length uc (st.2.1.map (.int .u32))
  sets : OR w base 22 ta st.2.2.length tc sc
  rows : SetsAre w base nm st.2.2 sc
  spans : ∀ sb, sao = some ⟨sb, 0, none⟩ → R3 spV w sb l.length (fun i => l[i]!)
  spz : (∃ sb, sao = some ⟨sb, 0, none⟩) ∨ l = []
  reach : w.rowIs rb 71 l.length (fun k => .int .u32 (r k))
  rB : base ≤ rb
  c60 : w.cell? ⟨s6, 0, none⟩ = some (.int .u64 0)
  c61 : w.cell? ⟨s6, 1, none⟩ = some (.int .u64 0)
  c62 : w.cell? ⟨u6, 0, none⟩ = some (.int .u32 0)
  s6B : base ≤ s6
  u6B : base ≤ u6

theorem IdxW.keep {w w' : World} {base : Nat} {sao : Option Addr} {xb : Nat} {nao : Option Addr} {nn ncap : Nat} {nm : Nat → ByteArray} {l : List T3} {r : Nat → Int} {st : List Int × List Int × List (List Int)} {sta : Option Addr} {stc : Nat} {ua : Option Addr} {uc s6 u6 : Nat} {ta : Option Addr} {tc : Nat} {sc : List Value} {rb r6 : Nat}
    (h : IdxW w base sao xb nao nn ncap nm l r st sta stc ua uc s6 u6 ta tc sc rb r6) (k : ∀ q, q < w.heap.size → (base ≤ q ∨ sao = some ⟨q, 0, none⟩) → w'.heap[q]? = w.heap[q]?) : IdxW w' base sao xb nao nn ncap nm l r st sta stc ua uc s6 u6 ta tc sc rb r6 := by
  have ko : ∀ {e : TypeId} {ao : Option Addr} {n cap : Nat} {xs : List Value}, OR w base e ao n cap xs → OR w' base e ao n cap xs := by
    rintro e ao n cap xs ⟨h1, h2⟩
    refine ⟨h1, ?_⟩
    rcases h2 with h2 | ⟨g, f, h3, h4, h5, h6, h7, h8⟩
    · exact .inl h2
    · exact .inr ⟨g, f, h3, h4, h5, h6, h7.of_block (k g h7.lt (.inl h4)), h8⟩
  have kc : ∀ {b o : Nat} {v : Value}, base ≤ b → w.cell? ⟨b, o, none⟩ = some v → w'.cell? ⟨b, o, none⟩ = some v := fun {b o v} hb hc =>
    (World.cell?_of_block (w := w) (a := ⟨b, o, none⟩) (k b (lt_of_cell hc) (.inl hb))).trans hc
  exact ⟨h.x.of_block (k _ h.x.lt (.inl h.xB)), h.xB, ko h.starts, ko h.nums, ko h.sets, ⟨h.rows.1, fun j h0 hj => by obtain ⟨g, g1, g2, g3⟩ := h.rows.2 j h0 hj; exact ⟨g, g1, g2, g3.of_block (k _ g3.lt (.inl g2))⟩⟩,
    fun sb e => by
      rcases Nat.eq_zero_or_pos l.length with h0 | h0
      · rw [h0]; exact fun i hi => by omega
      · exact (h.spans sb e).of_block (k _ ((h.spans sb e).lt h0) (.inr e)), h.spz, h.reach.of_block (k _ h.reach.lt (.inl h.rB)), h.rB, kc h.s6B h.c60, kc h.s6B h.c61, kc h.u6B h.c62, h.s6B, h.u6B⟩

/-- The index at block xb. -/
def Idx (w : World) (base : Nat) (sao : Option Addr) (xb : Nat) (nao : Option Addr) (nn ncap : Nat) (nm : Nat → ByteArray) (l : List T3) (st : List Int × List Int × List (List Int)) : Prop :=
  ∃ r, RO (fun k => l[k]!.2.1) r 0 l.length ∧ ∃ sta stc ua uc s6 u6 ta tc sc rb r6, IdxW w base sao xb nao nn ncap nm l r st sta stc ua uc s6 u6 ta tc sc rb r6

/-- The builder's four fields, for any map. -/
def bG (nao : Option Addr) (nn ncap : Nat) (mv : Value) (sao : Option Addr) (n : Nat) : Nat → Value
  | 0 => .slice nao nn ncap
  | 1 => mv
  | 2 => .slice sao n n
  | _ => .slice none 0 0

/-- Behind Build. -/
def BuildPost (w : World) (bb : Nat) (nao : Option Addr) (nn ncap : Nat) (nm : Nat → ByteArray) (sao : Option Addr) (l : List T3) (e : Ending) (w' : World) : Prop :=
  ∃ xb ps, e = .returned (.pointer (some ⟨xb, 0, none⟩)) ∧ PsOf l ps ∧ Idx w' w.heap.size sao xb nao nn ncap nm l (tfold nn l [[]] ps) ∧ w'.rowIs bb 70 4 (bG none 0 0 (.map none) none 0) ∧ Kp (fun q => q = bb ∨ sao = some ⟨q, 0, none⟩) w w'

/-! ### The states between -/

/-- 33 has not been called. -/
def B0 (w1 wx : World) : Prop := w1.grownBy wx none

/-- 33 has been called. -/
def B1 (w1 : World) (sao : Option Addr) (l : List T3) (rb : Nat) (r : Nat → Int) (wx : World) : Prop :=
  (∀ blk, sao = some ⟨blk, 0, none⟩ → R3 spV wx blk l.length (fun i => l[i]!)) ∧ wx.rowIs rb 71 l.length (fun k => .int .u32 (r k)) ∧ RO (fun k => l[k]!.2.1) r 0 l.length ∧ w1.heap.size ≤ rb ∧ w1.grownBy wx (blkOf sao)

theorem B1.none_grown {w1 wx wy : World} {sao : Option Addr} {l : List T3} {rb : Nat} {r : Nat → Int} (h : B1 w1 sao l rb r wx) (g : wx.grownBy wy none) : B1 w1 sao l rb r wy := by
  obtain ⟨h1, h2, h3, h4, h5⟩ := h
  refine ⟨fun blk e => ?_, h2.of_block (g.block _ h2.lt (by simp)), h3, h4, ⟨g.os.trans h5.os, g.tape.trans h5.tape, g.output.trans h5.output, Nat.le_trans h5.size g.size, fun q hq hn => (g.block q (Nat.lt_of_lt_of_le hq h5.size) (by simp)).trans (h5.block q hq hn)⟩⟩
  rcases Nat.eq_zero_or_pos l.length with h0 | h0
  · rw [h0]; exact fun i hi => by omega
  · exact (h1 blk e).of_block (g.block _ ((h1 blk e).lt h0) (by simp))

theorem xF_row {w : World} {xb : Nat} {s u f s6 u6 f6 t sp rc e6 r6 nm : Value} (h : w.heap[xb]? = some (.cells #[s, u, f, s6, u6, f6, t, sp, rc, e6, r6, nm] 93 (0, 0))) : w.rowIs xb 93 12 (xF s u f s6 u6 f6 t sp rc e6 r6 nm) := by
  refine ⟨_, h, rfl, fun i hi => ?_⟩
  match i, hi with
  | 0, _ => rfl
  | 1, _ => rfl
  | 2, _ => rfl
  | 3, _ => rfl
  | 4, _ => rfl
  | 5, _ => rfl
  | 6, _ => rfl
  | 7, _ => rfl
  | 8, _ => rfl
  | 9, _ => rfl
  | 10, _ => rfl
  | 11, _ => rfl

theorem xF_set0 {w : World} {xb : Nat} {s u f s6 u6 f6 t sp rc e6 r6 nm s' u' f' : Value} (h : w.rowIs xb 93 12 (xF s u f s6 u6 f6 t sp rc e6 r6 nm)) :
    (((w.setCell ⟨xb, 0, none⟩ s').setCell ⟨xb, 1, none⟩ u').setCell ⟨xb, 2, none⟩ f').rowIs xb 93 12 (xF s' u' f' s6 u6 f6 t sp rc e6 r6 nm) :=
  (((h.set 0 s').set 1 u').set 2 f').congr fun i hi => by
    match i, hi with
    | 0, _ => rfl
    | 1, _ => rfl
    | 2, _ => rfl
    | 3, _ => rfl
    | 4, _ => rfl
    | 5, _ => rfl
    | 6, _ => rfl
    | 7, _ => rfl
    | 8, _ => rfl
    | 9, _ => rfl
    | 10, _ => rfl
    | 11, _ => rfl

theorem xF_set3 {w : World} {xb : Nat} {s u f s6 u6 f6 t sp rc e6 r6 nm s' u' f' : Value} (h : w.rowIs xb 93 12 (xF s u f s6 u6 f6 t sp rc e6 r6 nm)) :
    (((w.setCell ⟨xb, 3, none⟩ s').setCell ⟨xb, 4, none⟩ u').setCell ⟨xb, 5, none⟩ f').rowIs xb 93 12 (xF s u f s' u' f' t sp rc e6 r6 nm) :=
  (((h.set 3 s').set 4 u').set 5 f').congr fun i hi => by
    match i, hi with
    | 0, _ => rfl
    | 1, _ => rfl
    | 2, _ => rfl
    | 3, _ => rfl
    | 4, _ => rfl
    | 5, _ => rfl
    | 6, _ => rfl
    | 7, _ => rfl
    | 8, _ => rfl
    | 9, _ => rfl
    | 10, _ => rfl
    | 11, _ => rfl

theorem xF_set6 {w : World} {xb : Nat} {s u f s6 u6 f6 t sp rc e6 r6 nm t' : Value} (h : w.rowIs xb 93 12 (xF s u f s6 u6 f6 t sp rc e6 r6 nm)) :
    (w.setCell ⟨xb, 6, none⟩ t').rowIs xb 93 12 (xF s u f s6 u6 f6 t' sp rc e6 r6 nm) :=
  (h.set 6 t').congr fun i hi => by
    match i, hi with
    | 0, _ => rfl
    | 1, _ => rfl
    | 2, _ => rfl
    | 3, _ => rfl
    | 4, _ => rfl
    | 5, _ => rfl
    | 6, _ => rfl
    | 7, _ => rfl
    | 8, _ => rfl
    | 9, _ => rfl
    | 10, _ => rfl
    | 11, _ => rfl

/-- Between Build's statements: the index's fields are F, the interner's table is tab. -/
structure StX (w : World) (ib : Nat) (nao : Option Addr) (nn ncap : Nat) (nm : Nat → ByteArray) (sao : Option Addr) (l : List T3) (r : Nat → Int) (xb rb : Nat) (tab : List (List Int)) (F : Nat → Value) (wx : World) : Prop where
  kp : Kp (fun q => sao = some ⟨q, 0, none⟩) w wx
  itn : ItnE wx w.heap.size ib nao nn ncap nm tab
  x : wx.rowIs xb 93 12 F
  xB : w.heap.size ≤ xb
  spans : ∀ sb, sao = some ⟨sb, 0, none⟩ → sb < w.heap.size ∧ R3 spV wx sb l.length (fun i => l[i]!)
  reach : wx.rowIs rb 71 l.length (fun k => .int .u32 (r k))
  rB : w.heap.size ≤ rb

namespace StX
variable {w : World} {ib : Nat} {nao : Option Addr} {nn ncap : Nat} {nm : Nat → ByteArray} {sao : Option Addr} {l : List T3} {r : Nat → Int} {xb rb : Nat} {tab : List (List Int)} {F : Nat → Value} {wx wy : World}

theorem R3.nil {wx : World} {b : Nat} {d : Nat → Int × Int × Int} {n : Nat} (h : n = 0) : R3 spV wx b n d := fun i hi => by omega

/-- The blocks that the interner's tags leave alone; the interner's own state is handed in. -/
theorem fr {S : List TypeId} {tab' : List (List Int)} (h : StX w ib nao nn ncap nm sao l r xb rb tab F wx) (f : FrT w.heap.size S wx wy) (h93 : 93 ∉ S) (h71 : 71 ∉ S) (hi : ItnE wy w.heap.size ib nao nn ncap nm tab') : StX w ib nao nn ncap nm sao l r xb rb tab' F wy :=
  ⟨h.kp.fr f (Nat.le_refl _), hi, f.row h.x h93, h.xB, fun sb e => ⟨(h.spans sb e).1, (h.spans sb e).2.of_block (f.keep (Nat.lt_of_lt_of_le (h.spans sb e).1 h.kp.size) (.inl (h.spans sb e).1))⟩, f.row h.reach h71, h.rB⟩

/-- A store into the index. -/
theorem store (h : StX w ib nao nn ncap nm sao l r xb rb tab F wx) (g : wx.grownBy wy (some xb)) {F' : Nat → Value} (hF : wy.rowIs xb 93 12 F') : StX w ib nao nn ncap nm sao l r xb rb tab F' wy := by
  have f : FrT w.heap.size [93] wx wy := FrT.of_grown g h.xB (row_tag h.x [93] (by simp))
  exact ⟨h.kp.fr f (Nat.le_refl _), h.itn.fr f h.kp.size (by decide), hF, h.xB, fun sb e => ⟨(h.spans sb e).1, (h.spans sb e).2.of_block (f.keep (Nat.lt_of_lt_of_le (h.spans sb e).1 h.kp.size) (.inl (h.spans sb e).1))⟩, f.row h.reach (by decide), h.rB⟩

theorem alk (h : StX w ib nao nn ncap nm sao l r xb rb tab F wx) (a : Alk wy wx) : StX w ib nao nn ncap nm sao l r xb rb tab F wy :=
  h.fr (S := []) (FrT.of_alk a) (by simp) (by simp) (h.itn.fr (S := []) (FrT.of_alk a) h.kp.size (by decide))

theorem none_grown (h : StX w ib nao nn ncap nm sao l r xb rb tab F wx) (g : wx.grownBy wy none) : StX w ib nao nn ncap nm sao l r xb rb tab F wy :=
  h.fr (S := []) (FrT.of_none g) (by simp) (by simp) (h.itn.fr (S := []) (FrT.of_none g) h.kp.size (by decide))
end StX

end Go.Proofs.Qxb6618911aGreat
