/-
  Frames by tags; the interner's map as a table of sets; the string sort on a row.
-/
import Derived.Test.Qxb6618911aGreatApp
import Derived.Test.Qxb6618911aGreatLayStr
import Derived.Maps.OwnSet
import Derived.StringKeys
namespace Go.Proofs.Qxb6618911aGreat
open Go.RowKit Go.Lib Go.Shelf Go.Sort

/-! ### Frames -/

/-- A tag for maps (no type's number). -/
def mapTag : TypeId := 1000000

/-- A block of cells whose element type is among S, or a map where the tag of maps is. -/
def TagIn (S : List TypeId) : Option Obj → Prop
  | some (.cells _ t _) => t ∈ S
  | some (.map _ _) => mapTag ∈ S
  | _ => False

/-- Among the old blocks only those from base on with a tag in S have turned. -/
structure FrT (base : Nat) (S : List TypeId) (w w' : World) : Prop where
  os : w'.os = w.os
  tape : w'.tape = w.tape
  output : w'.output = w.output
  size : w.heap.size ≤ w'.heap.size
  block : ∀ k, k < w.heap.size → w'.heap[k]? = w.heap[k]? ∨ (base ≤ k ∧ TagIn S w.heap[k]?)

namespace FrT
variable {base : Nat} {S : List TypeId} {w w' w'' : World}
theorem refl (w : World) : FrT base S w w := ⟨rfl, rfl, rfl, Nat.le_refl _, fun _ _ => .inl rfl⟩
theorem trans (h : FrT base S w w') (k : FrT base S w' w'') : FrT base S w w'' :=
  ⟨k.os.trans h.os, k.tape.trans h.tape, k.output.trans h.output, Nat.le_trans h.size k.size, fun i hi => by
    rcases h.block i hi with h1 | h1
    · rcases k.block i (Nat.lt_of_lt_of_le hi h.size) with h2 | h2
      · exact .inl (h2.trans h1)
      · exact .inr ⟨h2.1, h1 ▸ h2.2⟩
    · exact .inr h1⟩
theorem of_alk (a : Alk w' w) : FrT base S w w' := ⟨a.os, a.tape, a.output, by rw [a.heap]; exact Nat.le_refl _, fun _ _ => .inl (by rw [a.heap])⟩
theorem alloc (w : World) (o : Obj) : FrT base S w (w.alloc o) := ⟨rfl, rfl, rfl, by simp, fun k hk => .inl (Below.heap_alloc _ _ _ hk)⟩
theorem of_none (g : w.grownBy w' none) : FrT base S w w' := ⟨g.os, g.tape, g.output, g.size, fun k hk => .inl (g.block k hk (by simp))⟩
theorem of_grown {b : Nat} (g : w.grownBy w' (some b)) (hb : base ≤ b) (ht : TagIn S w.heap[b]?) : FrT base S w w' :=
  ⟨g.os, g.tape, g.output, g.size, fun k hk => by
    by_cases e : k = b
    · subst e; exact .inr ⟨hb, ht⟩
    · exact .inl (g.block k hk (fun h => e (Option.some.inj h)))⟩
theorem keep (h : FrT base S w w') {k : Nat} (hk : k < w.heap.size) (hn : k < base ∨ ¬ TagIn S w.heap[k]?) : w'.heap[k]? = w.heap[k]? := by
  rcases h.block k hk with h1 | h1
  · exact h1
  · rcases hn with hn | hn
    · omega
    · exact absurd h1.2 hn
theorem below (h : FrT base S w w') (hb : base ≤ w.heap.size) : Below base w w' := ⟨h.os, h.tape, h.output, h.size, fun k hk => h.keep (by omega) (.inl hk)⟩
theorem row (h : FrT base S w w') {g : Nat} {t : TypeId} {n : Nat} {f : Nat → Value} (hr : w.rowIs g t n f) (ht : t ∉ S) : w'.rowIs g t n f :=
  hr.of_block (h.keep hr.lt (.inr (by obtain ⟨c, hc, _⟩ := hr; rw [hc]; exact ht)))
theorem own (h : FrT base S w w') {e : TypeId} {ao : Option Addr} {n cap : Nat} {xs : List Value} (hr : OR w base e ao n cap xs) (ht : e ∉ S) : OR w' base e ao n cap xs := by
  obtain ⟨h1, h2⟩ := hr
  refine ⟨h1, ?_⟩
  rcases h2 with h2 | ⟨g, f, h3, h4, h5, h6, h7, h8⟩
  · exact .inl h2
  · exact .inr ⟨g, f, h3, h4, h5, h6, h.row h7 ht, h8⟩
end FrT

/-! ### Keys -/

/-- The key of a set of ids: four bytes an id. -/
def keyN (zs : List Int) : List Int := zs.flatMap le4
def keyL (zs : List Int) : List UInt8 := (keyN zs).map fun n => UInt8.ofNat n.toNat

theorem keyN_len (zs : List Int) : (keyN zs).length = zs.length * 4 := by
  induction zs with
  | nil => rfl
  | cons z zs ih =>
    have : keyN (z :: zs) = le4 z ++ keyN zs := rfl
    rw [this, List.length_append, ih, List.length_cons]
    simp [le4]; omega

def okIds (zs : List Int) : Prop := ∀ z ∈ zs, 0 ≤ z ∧ z < 4294967296

theorem ofNat_inj {a b : Int} (ha : 0 ≤ a) (ha2 : a < 256) (hb : 0 ≤ b) (hb2 : b < 256) (h : UInt8.ofNat a.toNat = UInt8.ofNat b.toNat) : a = b := by
  have h2 := congrArg UInt8.toNat h
  rw [UInt8.toNat_ofNat', UInt8.toNat_ofNat', Nat.mod_eq_of_lt (by omega), Nat.mod_eq_of_lt (by omega)] at h2
  omega

theorem keyL_cons (z : Int) (zs : List Int) : keyL (z :: zs) = UInt8.ofNat (z % 256).toNat :: UInt8.ofNat (z / 256 % 256).toNat :: UInt8.ofNat (z / 65536 % 256).toNat :: UInt8.ofNat (z / 16777216).toNat :: keyL zs := rfl

theorem keyL_inj : ∀ (zs ys : List Int), okIds zs → okIds ys → keyL zs = keyL ys → zs = ys
  | [], [], _, _, _ => rfl
  | [], y :: ys, _, _, h => by rw [keyL_cons] at h; cases h
  | z :: zs, [], _, _, h => by rw [keyL_cons] at h; cases h
  | z :: zs, y :: ys, hz, hy, h => by
    rw [keyL_cons, keyL_cons] at h
    simp only [List.cons.injEq] at h
    obtain ⟨h1, h2, h3, h4, h5⟩ := h
    have z0 := hz z (by simp)
    have y0 := hy y (by simp)
    have e1 := ofNat_inj (by omega) (by omega) (by omega) (by omega) h1
    have e2 := ofNat_inj (by omega) (by omega) (by omega) (by omega) h2
    have e3 := ofNat_inj (by omega) (by omega) (by omega) (by omega) h3
    have e4 := ofNat_inj (by omega) (by omega) (by omega) (by omega) h4
    rw [keyL_inj zs ys (fun x hx => hz x (by simp [hx])) (fun x hx => hy x (by simp [hx])) h5]
    congr 1
    omega

/-- The map at block mb numbers the sets of tab, each by its place. -/
def MapIs (w : World) (mb : Nat) (tab : List (List Int)) : Prop :=
  ∃ D : DataW Unit, w.ownsMap Tryz.prog 9 (plainElem Tryz.prog 41) mb tab.length D ∧
    ∀ zs, okIds zs → Maps.has D (.string (keyL zs)) = decide (zs ∈ tab) ∧ (zs ∈ tab → D.atKey (.string (keyL zs)) (.lit (.int .u32 0)) = .lit (.int .u32 (tab.idxOf zs)))

theorem MapIs.lt {w : World} {mb : Nat} {tab : List (List Int)} (h : MapIs w mb tab) : mb < w.heap.size := by
  obtain ⟨D, h1, _⟩ := h; exact h1.lt

theorem MapIs.kept {w w' : World} {mb : Nat} {tab : List (List Int)} {row : Option Nat} (h : MapIs w mb tab) (hg : w.grownBy w' row) (hne : some mb ≠ row) : MapIs w' mb tab := by
  obtain ⟨D, h1, h2⟩ := h
  exact ⟨D, h1.kept hg hne, h2⟩

theorem MapIs.of_block {w w' : World} {mb : Nat} {tab : List (List Int)} (h : MapIs w mb tab) (e : w'.heap[mb]? = w.heap[mb]?) : MapIs w' mb tab := by
  obtain ⟨D, ⟨es, cl, h1, h2, h3, h4⟩, h5⟩ := h
  exact ⟨D, ⟨es, cl, e.trans h1, h2, h3, h4⟩, h5⟩

theorem MapIs.tag {w : World} {mb : Nat} {tab : List (List Int)} (h : MapIs w mb tab) : ∃ es cl, w.heap[mb]? = some (.map es cl) := by
  obtain ⟨D, ⟨es, cl, h1, h2, h3, h4⟩, h5⟩ := h
  exact ⟨es, cl, h1⟩

theorem MapIs.fr {w w' : World} {mb base : Nat} {S : List TypeId} {tab : List (List Int)} (h : MapIs w mb tab) (f : FrT base S w w') (hs : mapTag ∉ S) : MapIs w' mb tab := by
  obtain ⟨es, cl, ht⟩ := h.tag
  exact h.of_block (f.keep h.lt (.inr (by rw [ht]; exact hs)))

theorem strOfNums_key (zs : List Int) : (strOfNums (keyN zs)).data.toList = keyL zs := rfl

theorem keyOf_key (zs : List Int) (hl : zs.length ≤ 1000000) : keyOf Tryz.prog 9 (.string (strOfNums (keyN zs))) = some (.string (keyL zs)) := by
  have := Go.WideMaps.keyOf_string_mk (P := Tryz.prog) Tryz.underlying9 (s := strOfNums (keyN zs)) (by rw [strOfNums_size, keyN_len]; unfold maxLen; omega)
  rw [this, strOfNums_key]

theorem MapIs.look {w : World} {mb : Nat} {tab : List (List Int)} (h : MapIs w mb tab) (zs : List Int) (hz : okIds zs) (hl : zs.length ≤ 1000000) :
    ∃ c, (Instr.lookup 101 (.map (some mb)) (.string (strOfNums (keyN zs))) true).run Tryz.prog w = .ok (.tuple #[.int .u32 c, .bool (decide (zs ∈ tab))]) w ∧ (zs ∈ tab → c = tab.idxOf zs) ∧ (zs ∉ tab → c = 0) := by
  obtain ⟨D, h1, h2⟩ := h
  obtain ⟨e1, e2⟩ := h2 zs hz
  have hz41 : (zeroValue 41).run Tryz.prog w = .ok (.int .u32 0) w := by kernel_rfl
  obtain ⟨v, ps, hrun, hv⟩ := h1.look_ok (Go.Maps.string_keyed Tryz.underlying9) Tryz.underlying101 hz41 (plainElem_int Tryz.underlying41 (by decide)) (keyOf_key zs hl)
  obtain ⟨c, rfl, hc, hwc⟩ := plainElem_int_inv Tryz.underlying41 hv
  rw [e1] at hrun
  simp only [Prod.mk.injEq] at hc
  refine ⟨c, hrun, fun hm => ?_, fun hm => ?_⟩
  · have h3 := e2 hm
    rw [hc.1] at h3
    simpa using h3
  · have h3 := Maps.atKey_of_not_has (D := D) (k := .string (keyL zs)) (by rw [e1]; simpa using hm) (.lit (.int .u32 0))
    rw [hc.1] at h3
    simpa using h3

theorem key_lit (zs : List Int) : WideAt.IsKeyLit (.string (keyL zs)) := by trivial

theorem MapIs.put {w : World} {mb : Nat} {tab : List (List Int)} (h : MapIs w mb tab) (zs : List Int) (hz : okIds zs) (hl : zs.length ≤ 1000000) (hn : zs ∉ tab) (ht : tab.length < 1000000) :
    ∃ w', (Instr.mapUpdate 101 (.map (some mb)) (.string (strOfNums (keyN zs))) (.int .u32 tab.length)).run Tryz.prog w = .ok () w' ∧ MapIs w' mb (tab ++ [zs]) ∧ w.grownBy w' (some mb) := by
  obtain ⟨D, h1, h2⟩ := h
  have hwf : (Lit.int .u32 (tab.length : Int)).wf = true := by
    have h1 : IntKind.u32.min = 0 := rfl
    have h2 : IntKind.u32.max = 4294967295 := rfl
    simp [Lit.wf, h1, h2]
    omega
  obtain ⟨w', hr, h3, h4⟩ := h1.update (Go.Maps.string_keyed Tryz.underlying9) Tryz.underlying101 (by unfold maxLen; omega) (keyOf_key zs hl) (plainElem_int Tryz.underlying41 hwf)
  refine ⟨w', hr, ⟨_, by rw [List.length_append]; exact h3, fun ys hy => ?_⟩, h4⟩
  by_cases e : ys = zs
  · subst e
    refine ⟨?_, fun _ => ?_⟩
    · rw [Maps.has_put_same h1.isMap (key_lit _)]; simp
    · rw [Maps.atKey_put_same h1.isMap (key_lit _), List.idxOf_append, if_neg hn]
      simp
  · have hne : Lit.string (keyL ys) ≠ .string (keyL zs) := fun h => e (keyL_inj _ _ hy hz (by injection h))
    obtain ⟨e1, e2⟩ := h2 ys hy
    refine ⟨?_, fun hm => ?_⟩
    · rw [Maps.has_put_other hne, e1]; simp [e]
    · have hm' : ys ∈ tab := by simpa [e] using hm
      rw [Maps.atKey_put_other hne, e2 hm', List.idxOf_append, if_pos hm']

/-! ### The string sort on a row -/

/-- The names of the ids, in byte order. -/
def srtN (nm : Nat → ByteArray) (zs : List Int) : List (List UInt8) := (zs.map fun z => (nm z.toNat).data.toList).mergeSort fun x y => decide (x ≤ y)

theorem srtN_len (nm : Nat → ByteArray) (zs : List Int) : (srtN nm zs).length = zs.length := by unfold srtN; rw [List.length_mergeSort, List.length_map]

theorem row_putRow {w : World} {g n : Nat} {t : TypeId} {f : Nat → Value} (h : w.rowIs g t n f) (l : List (List UInt8)) (hl : l.length = n) (m : Nat) (os : Array Obj) :
    (grow (putRow encStr (Sort.ahead w m) g 0 l.toArray) os).rowIs g t n (fun i => encStr l[i]!) := by
  obtain ⟨c, h1, h2, h3⟩ := h
  have hlt : g < w.heap.size := by
    rcases Nat.lt_or_ge g w.heap.size with h | h
    · exact h
    · rw [Array.getElem?_eq_none h] at h1; cases h1
  refine ⟨putCells encStr 0 l.toArray c, ?_, by simp [putCells, h2], fun i hi => ?_⟩
  · show (_ ++ os)[g]? = _
    rw [Array.getElem?_append_left (by simp [putRow, mapBlock]; exact hlt)]
    simp only [putRow, mapBlock, Array.getElem?_modify]
    rw [if_pos trivial]
    show Option.map _ (w.heap[g]?) = _
    rw [h1]
    rfl
  · have hic : i < c.size := by omega
    simp only [putCells]
    rw [Array.getElem?_mapIdx, Array.getElem?_eq_getElem hic]
    simp only [Option.map_some]
    rw [if_pos (by simp; omega)]
    simp

theorem grown_putRow (w : World) (g : Nat) (l : List (List UInt8)) (m : Nat) (os : Array Obj) : w.grownBy (grow (putRow encStr (Sort.ahead w m) g 0 l.toArray) os) (some g) := by
  refine ⟨rfl, rfl, rfl, ?_, fun k hk hne => ?_⟩
  · simp [grow, putRow, mapBlock, Sort.ahead]
  · show (_ ++ os)[k]? = _
    rw [Array.getElem?_append_left (by simp [putRow, mapBlock]; exact hk)]
    simp only [putRow, mapBlock, Array.getElem?_modify]
    rw [if_neg (fun e => hne (by rw [e]))]
    rfl

theorem encStr_data (s : ByteArray) : encStr s.data.toList = Value.string s := rfl

theorem sortStr_row (g n cap : Nat) (l : List (List UInt8)) (w : World) (hl : l.length = n) (hn : n ≤ 1000000) (h0 : 0 < n) (h : w.rowIs g 9 n (fun i => encStr l[i]!)) :
    Calls Tryz.prog 78 #[.slice (some ⟨g, 0, none⟩) n cap] w fun e w' => e = .returned (.tuple #[]) ∧ w'.rowIs g 9 n (fun i => encStr (l.mergeSort fun x y => decide (x ≤ y))[i]!) ∧ w.grownBy w' (some g) := by
  subst hl
  refine (AnyM.slices_Sort_string Tryz.sortStr g 0 cap l w (fun j hj => ?_) h.lt (by omega)).mono ?_
  · have hj' : j < l.length := by simpa using hj
    rw [Nat.zero_add]
    refine ⟨?_, h.frozen j⟩
    rw [h.cell hj']
    simp
  · rintro e w' ⟨rfl, m, os, rfl⟩
    exact ⟨rfl, row_putRow h _ (List.length_mergeSort _) m os, grown_putRow _ _ _ _ _⟩

theorem sortStr_none (ao : Option Addr) (cap : Nat) (w : World) : Calls Tryz.prog 78 #[.slice ao 0 cap] w fun e w' => e = .returned (.tuple #[]) ∧ w' = w := AnyM.slices_Sort_string_none Tryz.sortStr ao cap w

end Go.Proofs.Qxb6618911aGreat
