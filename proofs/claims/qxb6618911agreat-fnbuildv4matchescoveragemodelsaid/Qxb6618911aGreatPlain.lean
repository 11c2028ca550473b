/-
  Plain laws of the sweep: counts, open ids, coverage. No Go in sight.
-/
import Derived.Test.Qxb6618911aGreatEvents
import Derived.Test.Qxb6618911aGreatDelOwn
namespace Go.Proofs.Qxb6618911aGreat

abbrev T3 := Int × Int × Int

def cS (s : Int) (e : T3) : Bool := decide (e.2.1 = s ∧ e.2.2 = 1)
def cE (s : Int) (e : T3) : Bool := decide (e.2.1 = s ∧ e.2.2 = -1)
/-- Starts less ends of source s. -/
def cntOf (A : List T3) (s : Int) : Int := (A.countP (cS s) : Int) - (A.countP (cE s) : Int)

theorem cnt_nil (s : Int) : cntOf [] s = 0 := rfl

theorem cnt_snoc (A : List T3) (e : T3) (s : Int) (hd : e.2.2 = 1 ∨ e.2.2 = -1) : cntOf (A ++ [e]) s = cntOf A s + if e.2.1 = s then e.2.2 else 0 := by
  unfold cntOf
  rw [List.countP_append, List.countP_append, List.countP_singleton, List.countP_singleton]
  unfold cS cE
  by_cases h : e.2.1 = s
  · rcases hd with h1 | h1 <;> simp [h, h1] <;> omega
  · simp [h]

theorem cnt_bound (A : List T3) (s : Int) : -(A.length : Int) ≤ cntOf A s ∧ cntOf A s ≤ A.length := by
  unfold cntOf
  have h1 := List.countP_le_length (p := cS s) (l := A)
  have h2 := List.countP_le_length (p := cE s) (l := A)
  omega

/-- All events of the spans. -/
def evAll (l : List T3) : List T3 := l.flatMap evOf

theorem evAll_len (l : List T3) : (evAll l).length ≤ 2 * l.length := by
  induction l with
  | nil => simp [evAll]
  | cons x l ih =>
    have e : evAll (x :: l) = evOf x ++ evAll l := rfl
    rw [e, List.length_append, List.length_cons]
    have : (evOf x).length ≤ 2 := by unfold evOf; split <;> simp
    omega

theorem evAll_mem {l : List T3} {e : T3} (h : e ∈ evAll l) : ∃ x ∈ l, e.2.1 = x.2.2 ∧ ((e.1 = x.1 ∧ e.2.2 = 1) ∨ (x.2.1 ≠ 4294967295 ∧ e.1 = x.2.1 + 1 ∧ e.2.2 = -1)) := by
  obtain ⟨x, hx, he⟩ := List.mem_flatMap.1 h
  refine ⟨x, hx, ?_⟩
  unfold evOf at he
  split at he
  · simp at he; subst he; exact ⟨rfl, .inl ⟨rfl, rfl⟩⟩
  · rename_i hne
    simp at he
    rcases he with rfl | rfl
    · exact ⟨rfl, .inl ⟨rfl, rfl⟩⟩
    · exact ⟨rfl, .inr ⟨hne, rfl, rfl⟩⟩

theorem ends_le_starts (l : List T3) (hl : ∀ x ∈ l, x.1 ≤ x.2.1) (s p : Int) :
    (evAll l).countP (fun e => cE s e && decide (e.1 ≤ p)) ≤ (evAll l).countP (fun e => cS s e && decide (e.1 < p)) := by
  induction l with
  | nil => simp [evAll]
  | cons x l ih =>
    have e : evAll (x :: l) = evOf x ++ evAll l := rfl
    rw [e, List.countP_append, List.countP_append]
    have ih' := ih fun y hy => hl y (by simp [hy])
    have hx := hl x (by simp)
    have : (evOf x).countP (fun e => cE s e && decide (e.1 ≤ p)) ≤ (evOf x).countP (fun e => cS s e && decide (e.1 < p)) := by
      unfold evOf cE cS
      by_cases h1 : x.2.1 = 4294967295
      · simp [h1]
      · by_cases h2 : x.2.2 = s
        · by_cases h3 : x.2.1 + 1 ≤ p
          · have h4 : x.1 < p := by omega
            simp [h1, h2, h3, h4]
          · simp [h1, h2, h3]
        · simp [h1, h2]
    omega

theorem cnt_nonneg {l E A B : List T3} (hp : E.Perm (evAll l)) (hs : E.Pairwise (fun a b => a.1 ≤ b.1)) (hl : ∀ x ∈ l, x.1 ≤ x.2.1) (hE : E = A ++ B) (s : Int) : 0 ≤ cntOf A s := by
  rcases List.eq_nil_or_concat A with rfl | ⟨A', a, rfl⟩
  · simp [cnt_nil]
  · rw [List.concat_eq_append] at *
    subst hE
    have hs1 := List.pairwise_append.1 hs
    have hA := (List.pairwise_append.1 hs1.1)
    have hle : ∀ e ∈ A' ++ [a], e.1 ≤ a.1 := by
      intro e he
      rcases List.mem_append.1 he with h | h
      · exact hA.2.2 e h a (by simp)
      · simp at h; subst h; exact Int.le_refl _
    have hB : ∀ e ∈ B, a.1 ≤ e.1 := fun e he => hs1.2.2 a (by simp) e he
    have h1 : (A' ++ [a]).countP (cE s) = (A' ++ [a]).countP (fun e => cE s e && decide (e.1 ≤ a.1)) := by
      apply List.countP_congr
      intro e he
      simp [hle e he]
    have h2 : (A' ++ [a]).countP (fun e => cE s e && decide (e.1 ≤ a.1)) ≤ (A' ++ [a] ++ B).countP (fun e => cE s e && decide (e.1 ≤ a.1)) := by
      rw [List.countP_append (l₂ := B)]; omega
    have h3 : (A' ++ [a]).countP (fun e => cS s e && decide (e.1 < a.1)) ≤ (A' ++ [a]).countP (cS s) := List.countP_mono_left fun e _ h => by
      simp at h; exact h.1
    have h4 : (A' ++ [a] ++ B).countP (fun e => cS s e && decide (e.1 < a.1)) = (A' ++ [a]).countP (fun e => cS s e && decide (e.1 < a.1)) := by
      rw [List.countP_append (l₂ := B)]
      have : B.countP (fun e => cS s e && decide (e.1 < a.1)) = 0 := by
        rw [List.countP_eq_zero]
        intro e he
        have := hB e he
        simp; intro _; omega
      omega
    have h5 := ends_le_starts l hl s a.1
    rw [← hp.countP_eq, ← hp.countP_eq] at h5
    unfold cntOf
    omega

theorem cover_count (l : List T3) (hl : ∀ x ∈ l, x.1 ≤ x.2.1) (s p : Int) (hpm : p ≤ 4294967295) :
    ((evAll l).countP (fun e => cS s e && decide (e.1 ≤ p)) : Int) - (evAll l).countP (fun e => cE s e && decide (e.1 ≤ p)) = l.countP (fun x => decide (x.2.2 = s ∧ x.1 ≤ p ∧ p ≤ x.2.1)) := by
  induction l with
  | nil => simp [evAll]
  | cons x l ih =>
    have e : evAll (x :: l) = evOf x ++ evAll l := rfl
    rw [e, List.countP_append, List.countP_append, List.countP_cons]
    have ih' := ih fun y hy => hl y (by simp [hy])
    have hx := hl x (by simp)
    have : ((evOf x).countP (fun e => cS s e && decide (e.1 ≤ p)) : Int) - (evOf x).countP (fun e => cE s e && decide (e.1 ≤ p)) = (if decide (x.2.2 = s ∧ x.1 ≤ p ∧ p ≤ x.2.1) = true then 1 else 0 : Nat) := by
      unfold evOf cE cS
      by_cases h2 : x.2.2 = s
      · by_cases h1 : x.2.1 = 4294967295
        · by_cases h4 : x.1 ≤ p
          · have : p ≤ x.2.1 := by omega
            simp [h1, h2, h4, hpm]
          · simp [h1, h2, h4]
        · by_cases h4 : x.1 ≤ p
          · by_cases h3 : p ≤ x.2.1
            · have : ¬ x.2.1 + 1 ≤ p := by omega
              simp [h1, h2, h3, h4, this]
            · have : x.2.1 + 1 ≤ p := by omega
              simp [h1, h2, h3, h4, this]
          · have : ¬ x.2.1 + 1 ≤ p := by omega
            simp [h1, h2, h4, this]
      · by_cases h1 : x.2.1 = 4294967295 <;> simp [h1, h2]
    omega

theorem cnt_group {l E A B : List T3} (hp : E.Perm (evAll l)) (hl : ∀ x ∈ l, x.1 ≤ x.2.1) (hE : E = A ++ B) (p : Int) (hpm : p ≤ 4294967295) (hA : ∀ e ∈ A, e.1 ≤ p) (hB : ∀ e ∈ B, p < e.1) (s : Int) :
    cntOf A s = l.countP (fun x => decide (x.2.2 = s ∧ x.1 ≤ p ∧ p ≤ x.2.1)) := by
  rw [← cover_count l hl s p hpm, ← hp.countP_eq, ← hp.countP_eq]
  subst hE
  rw [List.countP_append, List.countP_append]
  have z1 : B.countP (fun e => cS s e && decide (e.1 ≤ p)) = 0 := by
    rw [List.countP_eq_zero]; intro e he; have := hB e he; simp; intro _; omega
  have z2 : B.countP (fun e => cE s e && decide (e.1 ≤ p)) = 0 := by
    rw [List.countP_eq_zero]; intro e he; have := hB e he; simp; intro _; omega
  have e1 : A.countP (cS s) = A.countP (fun e => cS s e && decide (e.1 ≤ p)) := List.countP_congr fun e he => by simp [hA e he]
  have e2 : A.countP (cE s) = A.countP (fun e => cE s e && decide (e.1 ≤ p)) := List.countP_congr fun e he => by simp [hA e he]
  unfold cntOf
  omega

/-! ### Open ids -/

def idsTo (nn : Nat) : List Int := (List.range nn).map Int.ofNat
/-- The ids whose count is above 0, ascending. -/
def openOf (nn : Nat) (f : Int → Int) : List Int := (idsTo nn).filter fun s => decide (0 < f s)
/-- The sources of the spans that hold p, ascending. -/
def cover (nn : Nat) (l : List T3) (p : Int) : List Int := (idsTo nn).filter fun s => l.any fun x => decide (x.2.2 = s ∧ x.1 ≤ p ∧ p ≤ x.2.1)

theorem idsTo_sorted (nn : Nat) : (idsTo nn).Pairwise (· < ·) := by
  unfold idsTo
  rw [List.pairwise_map]
  exact List.pairwise_lt_range.imp fun h => Int.ofNat_lt.2 h
theorem mem_idsTo {nn : Nat} {s : Int} : s ∈ idsTo nn ↔ 0 ≤ s ∧ s < nn := by
  unfold idsTo
  rw [List.mem_map]
  constructor
  · rintro ⟨k, hk, rfl⟩
    have := List.mem_range.1 hk
    constructor
    · exact Int.natCast_nonneg k
    · exact Int.ofNat_lt.2 this
  · rintro ⟨h1, h2⟩
    exact ⟨s.toNat, List.mem_range.2 (by omega), by show (s.toNat : Int) = s; omega⟩

theorem openOf_sorted (nn : Nat) (f : Int → Int) : (openOf nn f).Pairwise (· < ·) := (idsTo_sorted nn).filter _
theorem cover_sorted (nn : Nat) (l : List T3) (p : Int) : (cover nn l p).Pairwise (· < ·) := (idsTo_sorted nn).filter _
theorem mem_openOf {nn : Nat} {f : Int → Int} {s : Int} : s ∈ openOf nn f ↔ 0 ≤ s ∧ s < nn ∧ 0 < f s := by
  unfold openOf; rw [List.mem_filter, mem_idsTo]; simp [and_assoc]
theorem mem_cover {nn : Nat} {l : List T3} {p s : Int} : s ∈ cover nn l p ↔ 0 ≤ s ∧ s < nn ∧ ∃ x ∈ l, x.2.2 = s ∧ x.1 ≤ p ∧ p ≤ x.2.1 := by
  unfold cover; rw [List.mem_filter, mem_idsTo]; simp [and_assoc]
theorem idsTo_len (nn : Nat) : (idsTo nn).length = nn := by simp [idsTo]
theorem openOf_len (nn : Nat) (f : Int → Int) : (openOf nn f).length ≤ nn := by
  have := List.length_filter_le (fun s => decide (0 < f s)) (idsTo nn)
  rw [idsTo_len] at this; exact this
theorem cover_len (nn : Nat) (l : List T3) (p : Int) : (cover nn l p).length ≤ nn := by
  have := List.length_filter_le (fun s => l.any fun x => decide (x.2.2 = s ∧ x.1 ≤ p ∧ p ≤ x.2.1)) (idsTo nn)
  rw [idsTo_len] at this; exact this

theorem sorted_ext : ∀ {a b : List Int}, a.Pairwise (· < ·) → b.Pairwise (· < ·) → (∀ x, x ∈ a ↔ x ∈ b) → a = b
  | [], [], _, _, _ => rfl
  | [], y :: b, _, _, h => by have := (h y).2 (by simp); cases this
  | x :: a, [], _, _, h => by have := (h x).1 (by simp); cases this
  | x :: a, y :: b, ha, hb, h => by
    rw [List.pairwise_cons] at ha hb
    have e : x = y := by
      rcases List.mem_cons.1 ((h x).1 (by simp)) with h1 | h1
      · exact h1
      · rcases List.mem_cons.1 ((h y).2 (by simp)) with h2 | h2
        · exact h2.symm
        · have := hb.1 x h1; have := ha.1 y h2; omega
    subst e
    rw [sorted_ext ha.2 hb.2 fun z => ?_]
    have := h z
    simp only [List.mem_cons] at this
    constructor
    · intro hz
      rcases this.1 (.inr hz) with e | e
      · have := ha.1 z hz; omega
      · exact e
    · intro hz
      rcases this.2 (.inr hz) with e | e
      · have := hb.1 z hz; omega
      · exact e

theorem open_group {nn : Nat} {l : List T3} {f : Int → Int} {p : Int} (h : ∀ s, f s = l.countP (fun x => decide (x.2.2 = s ∧ x.1 ≤ p ∧ p ≤ x.2.1))) : openOf nn f = cover nn l p := by
  refine sorted_ext (openOf_sorted _ _) (cover_sorted _ _ _) fun s => ?_
  rw [mem_openOf, mem_cover, h]
  constructor
  · rintro ⟨h1, h2, h3⟩
    refine ⟨h1, h2, ?_⟩
    have : 0 < l.countP (fun x => decide (x.2.2 = s ∧ x.1 ≤ p ∧ p ≤ x.2.1)) := by omega
    obtain ⟨x, hx, hy⟩ := List.countP_pos_iff.1 this
    exact ⟨x, hx, by simpa using hy⟩
  · rintro ⟨h1, h2, x, hx, hy⟩
    refine ⟨h1, h2, ?_⟩
    have : 0 < l.countP (fun x => decide (x.2.2 = s ∧ x.1 ≤ p ∧ p ≤ x.2.1)) := List.countP_pos_iff.2 ⟨x, hx, by simpa using hy⟩
    omega

theorem pos_split : ∀ (xs : List Int) (x : Int), xs.Pairwise (· < ·) → xs.take (pos xs x) = xs.filter (fun y => decide (y < x)) ∧ xs.drop (pos xs x) = xs.filter (fun y => decide (x ≤ y))
  | [], x, _ => by simp
  | z :: r, x, h => by
    rw [List.pairwise_cons] at h
    obtain ⟨i1, i2⟩ := pos_split r x h.2
    by_cases c : z < x
    · have e : pos (z :: r) x = pos r x + 1 := by simp [pos, c]
      rw [e, List.take_succ_cons, List.drop_succ_cons, i1, i2]
      simp [c]
    · have hz : ∀ y ∈ r, ¬ y < x := fun y hy => by have := h.1 y hy; omega
      have e : pos (z :: r) x = 0 := by
        unfold pos
        rw [List.length_eq_zero_iff, List.filter_eq_nil_iff]
        intro y hy
        rcases List.mem_cons.1 hy with rfl | hy
        · simpa using c
        · simpa using hz y hy
      rw [e, List.take_zero, List.drop_zero]
      constructor
      · symm
        rw [List.filter_eq_nil_iff]
        intro y hy
        rcases List.mem_cons.1 hy with rfl | hy
        · simpa using c
        · simpa using hz y hy
      · symm
        rw [List.filter_eq_self]
        intro y hy
        rcases List.mem_cons.1 hy with rfl | hy
        · simp; omega
        · have := hz y hy; simp; omega

theorem open_ins {nn : Nat} {f f' : Int → Int} {s0 : Int} (h0 : 0 ≤ s0) (h1 : s0 < nn) (hf : f s0 = 0) (hf' : ∀ s, f' s = f s + if s0 = s then 1 else 0) :
    openOf nn f' = (openOf nn f).take (pos (openOf nn f) s0) ++ s0 :: (openOf nn f).drop (pos (openOf nn f) s0) := by
  have hs := openOf_sorted nn f
  obtain ⟨e1, e2⟩ := pos_split (openOf nn f) s0 hs
  have hno : s0 ∉ openOf nn f := fun h => by have := (mem_openOf.1 h).2.2; omega
  rw [e1, e2]
  refine sorted_ext (openOf_sorted _ _) ?_ fun s => ?_
  · rw [List.pairwise_append, List.pairwise_cons]
    refine ⟨hs.filter _, ⟨fun y hy => ?_, hs.filter _⟩, fun a ha b hb => ?_⟩
    · obtain ⟨y1, y2⟩ := List.mem_filter.1 hy
      have : y ≠ s0 := fun e => hno (e ▸ y1)
      simp at y2; omega
    · have a2 := (List.mem_filter.1 ha).2
      simp at a2
      rcases List.mem_cons.1 hb with rfl | hb
      · exact a2
      · have b2 := (List.mem_filter.1 hb).2
        simp at b2; omega
  · rw [mem_openOf, List.mem_append, List.mem_cons, List.mem_filter, List.mem_filter, mem_openOf, hf']
    by_cases e : s0 = s
    · subst e
      simp [hf, h0, h1]
    · rw [if_neg e]
      simp
      have e' : ¬ s = s0 := fun h => e h.symm
      constructor
      · rintro ⟨a, b, c⟩
        by_cases hlt : s < s0
        · exact .inl ⟨⟨a, b, c⟩, hlt⟩
        · exact .inr (.inr ⟨⟨a, b, c⟩, by omega⟩)
      · rintro (⟨h, _⟩ | h | ⟨h, _⟩)
        · exact h
        · exact absurd h e'
        · exact h

theorem open_del {nn : Nat} {f f' : Int → Int} {s0 : Int} (h0 : 0 ≤ s0) (h1 : s0 < nn) (hf : 0 < f s0) (hz : f' s0 = 0) (hf' : ∀ s, s0 ≠ s → f' s = f s) :
    openOf nn f' = (openOf nn f).take (pos (openOf nn f) s0) ++ (openOf nn f).drop (pos (openOf nn f) s0 + 1) ∧ pos (openOf nn f) s0 < (openOf nn f).length := by
  have hs := openOf_sorted nn f
  obtain ⟨e1, e2⟩ := pos_split (openOf nn f) s0 hs
  have hin : s0 ∈ openOf nn f := mem_openOf.2 ⟨h0, h1, hf⟩
  have e3 : (openOf nn f).filter (fun y => decide (s0 ≤ y)) = s0 :: (openOf nn f).filter (fun y => decide (s0 < y)) := by
    refine sorted_ext (hs.filter _) ?_ fun s => ?_
    · rw [List.pairwise_cons]
      exact ⟨fun y hy => by simpa using (List.mem_filter.1 hy).2, hs.filter _⟩
    · rw [List.mem_cons, List.mem_filter, List.mem_filter]
      simp
      constructor
      · rintro ⟨a, b⟩
        by_cases e : s = s0
        · exact .inl e
        · exact .inr ⟨a, by omega⟩
      · rintro (rfl | ⟨a, b⟩)
        · exact ⟨hin, Int.le_refl _⟩
        · exact ⟨a, by omega⟩
  have e4 : (openOf nn f).drop (pos (openOf nn f) s0 + 1) = (openOf nn f).filter (fun y => decide (s0 < y)) := by
    rw [← List.drop_drop, e2, e3]; rfl
  refine ⟨?_, ?_⟩
  · rw [e1, e4]
    refine sorted_ext (openOf_sorted _ _) ?_ fun s => ?_
    · rw [List.pairwise_append]
      refine ⟨hs.filter _, hs.filter _, fun a ha b hb => ?_⟩
      have a2 := (List.mem_filter.1 ha).2
      have b2 := (List.mem_filter.1 hb).2
      simp at a2 b2; omega
    · rw [mem_openOf, List.mem_append, List.mem_filter, List.mem_filter, mem_openOf]
      by_cases e : s0 = s
      · subst e
        simp [hz]
      · rw [hf' s e]
        simp
        constructor
        · rintro h
          by_cases hlt : s < s0
          · exact .inl ⟨h, hlt⟩
          · exact .inr ⟨h, by omega⟩
        · rintro (⟨h, _⟩ | ⟨h, _⟩) <;> exact h
  · rcases Nat.lt_or_ge (pos (openOf nn f) s0) (openOf nn f).length with h | h
    · exact h
    · rw [List.drop_of_length_le h] at e2
      rw [e3] at e2; cases e2

theorem open_same {nn : Nat} {f f' : Int → Int} (h : ∀ s, 0 < f' s ↔ 0 < f s) : openOf nn f' = openOf nn f := by
  refine sorted_ext (openOf_sorted _ _) (openOf_sorted _ _) fun s => ?_
  rw [mem_openOf, mem_openOf, h]

end Go.Proofs.Qxb6618911aGreat
