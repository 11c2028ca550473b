/-
  The table looked up, the spans' list, the points: plain laws. No walk here.
-/
import Derived.Test.Qxb6618911aGreatTabPre
import Derived.Test.Qxb6618911aGreatCount
namespace Go.Proofs.Qxb6618911aGreat
open Go.RowKit Go.Lib Go.Shelf Go.Sort

theorem getL {α : Type} [Inhabited α] (l : List α) {i : Nat} (h : i < l.length) : l[i]! = l[i] := getElem!_pos l i h

/-- The cover at the last point up to a. -/
def cv (nn : Nat) (l : List T3) (ps : List Int) (a : Int) : List Int := match (ps.filter fun p => decide (p ≤ a)).getLast? with
  | some p => cover nn l p
  | none => []

theorem cv_snoc (nn : Nat) (l : List T3) (ps : List Int) (p a : Int) : cv nn l (ps ++ [p]) a = if p ≤ a then cover nn l p else cv nn l ps a := by
  unfold cv
  rw [List.filter_append]
  by_cases h : p ≤ a
  · simp [h]
  · simp [h]

/-- The table's number of a set leads to the set; old numbers lead where they led. -/
theorem tabN_at (tab : List (List Int)) (zs : List Int) : (tabN tab zs).idxOf zs < (tabN tab zs).length ∧ (tabN tab zs)[(tabN tab zs).idxOf zs]! = zs ∧ tab.length ≤ (tabN tab zs).length ∧ ∀ k, k < tab.length → (tabN tab zs)[k]! = tab[k]! := by
  have hm : zs ∈ tabN tab zs := by unfold tabN; split <;> simp_all
  have hi := List.idxOf_lt_length_iff.2 hm
  refine ⟨hi, ?_, ?_, ?_⟩
  · rw [getL _ hi]; exact List.getElem_idxOf hi
  · unfold tabN; split <;> simp
  · intro k hk
    unfold tabN
    split
    · rfl
    · rw [getL _ (by simp; omega), getL _ hk, List.getElem_append_left hk]

/-- Amid the sweep: every address is looked up as the cover at the last point up to it. -/
structure Look (nn : Nat) (l : List T3) (ps : List Int) (st : List Int × List Int × List (List Int)) : Prop where
  asc : st.1.Pairwise (· < ·)
  from_ : ∀ x ∈ st.1, x = 0 ∨ x ∈ ps
  len : st.1.length = st.2.1.length
  pos : 0 < st.1.length
  zero : st.2.2[0]? = some []
  look : ∀ a, 0 ≤ a → ∃ r k : Nat, r < st.1.length ∧ st.1[r]! ≤ a ∧ (∀ i, r < i → i < st.1.length → a < st.1[i]!) ∧ st.2.1[r]! = (k : Int) ∧ k < st.2.2.length ∧ st.2.2[k]! = cv nn l ps a

theorem last_is {xs : List Int} {x : Int} (h : xs.getLast? = some x) : 0 < xs.length ∧ xs[xs.length - 1]! = x := by
  have hne : xs ≠ [] := by rintro rfl; simp at h
  have hp : 0 < xs.length := List.length_pos_iff.2 hne
  rw [List.getLast?_eq_some_getLast hne] at h
  refine ⟨hp, ?_⟩
  rw [getL _ (by omega), ← Option.some.inj h, List.getLast_eq_getElem]

theorem Look.start (nn : Nat) (l : List T3) : Look nn l [] ([0], [0], [[]]) :=
  ⟨by simp, by simp, rfl, by simp, rfl, fun a ha => ⟨0, 0, by simp, by simpa using ha, fun i h1 h2 => by simp at h2; omega, rfl, by simp, rfl⟩⟩

theorem Look.step {nn : Nat} {l : List T3} {ps : List Int} {st : List Int × List Int × List (List Int)} (h : Look nn l ps st) (p : Int) (h0 : 0 ≤ p) (hp : ∀ q ∈ ps, q < p) : Look nn l (ps ++ [p]) (tstep (cover nn l p) p st) := by
  obtain ⟨h1, h2, h3, h4, h5, h6⟩ := h
  obtain ⟨t1, t2, t3, t4⟩ := tabN_at st.2.2 (cover nn l p)
  have hz : (tabN st.2.2 (cover nn l p))[0]? = some [] := by
    have hl : 0 < st.2.2.length := by
      rcases Nat.eq_zero_or_pos st.2.2.length with e | e
      · rw [List.length_eq_zero_iff.1 e] at h5; simp at h5
      · exact e
    have := t4 0 hl
    rw [List.getElem?_eq_getElem (by omega), ← getL _ (by omega), this, getL _ hl]
    rw [List.getElem?_eq_getElem hl] at h5
    exact h5
  have hle : ∀ i, i < st.1.length → st.1[i]! ≤ p := fun i hi => by
    have hm : st.1[i]! ∈ st.1 := by rw [getL _ hi]; exact List.getElem_mem _
    rcases h2 _ hm with e | e
    · omega
    · have := hp _ e; omega
  generalize hzs : cover nn l p = zs at *
  generalize htb : tabN st.2.2 zs = tab' at *
  generalize hix : tab'.idxOf zs = ix at *
  have hcv : ∀ a, cv nn l (ps ++ [p]) a = if p ≤ a then zs else cv nn l ps a := fun a => by rw [cv_snoc, hzs]
  unfold tstep
  rw [htb, hix]
  split
  · rename_i hl
    obtain ⟨_, hl⟩ := last_is hl
    refine ⟨h1, fun x hx => (h2 x hx).imp id (fun y => List.mem_append_left _ y), h3, h4, hz, fun a ha => ?_⟩
    obtain ⟨r, k, g1, g2, g3, g4, g5, g6⟩ := h6 a ha
    show ∃ r k : Nat, r < st.1.length ∧ st.1[r]! ≤ a ∧ (∀ i, r < i → i < st.1.length → a < st.1[i]!) ∧ st.2.1[r]! = (k : Int) ∧ k < tab'.length ∧ tab'[k]! = _
    rw [hcv]
    by_cases hpa : p ≤ a
    · rw [if_pos hpa]
      obtain rfl : r = st.1.length - 1 := by
        rcases Nat.lt_or_ge r (st.1.length - 1) with c | c
        · have := g3 (st.1.length - 1) c (by omega); have := hle (st.1.length - 1) (by omega); omega
        · omega
      refine ⟨st.1.length - 1, ix, g1, g2, g3, ?_, t1, t2⟩
      rw [h3]; exact hl
    · rw [if_neg hpa]
      exact ⟨r, k, g1, g2, g3, g4, by omega, by rw [t4 k g5]; exact g6⟩
  · split
    · rename_i _ hl
      obtain ⟨_, hl⟩ := last_is hl
      have hdl : (st.2.1.dropLast ++ [(ix : Int)]).length = st.2.1.length := by simp; omega
      refine ⟨h1, fun x hx => (h2 x hx).imp id (fun y => List.mem_append_left _ y), by rw [hdl]; exact h3, h4, hz, fun a ha => ?_⟩
      obtain ⟨r, k, g1, g2, g3, g4, g5, g6⟩ := h6 a ha
      show ∃ r k : Nat, r < st.1.length ∧ st.1[r]! ≤ a ∧ (∀ i, r < i → i < st.1.length → a < st.1[i]!) ∧ (st.2.1.dropLast ++ [(ix : Int)])[r]! = (k : Int) ∧ k < tab'.length ∧ tab'[k]! = _
      rw [hcv]
      by_cases hpa : p ≤ a
      · rw [if_pos hpa]
        refine ⟨st.1.length - 1, ix, by omega, by rw [hl]; exact hpa, fun i c1 c2 => by omega, ?_, t1, t2⟩
        rw [getL _ (by rw [hdl]; omega), List.getElem_append_right (by simp; omega)]
        simp
      · rw [if_neg hpa]
        have hr : r < st.1.length - 1 := by
          rcases Nat.lt_or_ge r (st.1.length - 1) with c | c
          · exact c
          · obtain rfl : r = st.1.length - 1 := by omega
            rw [hl] at g2; omega
        refine ⟨r, k, g1, g2, g3, ?_, by omega, by rw [t4 k g5]; exact g6⟩
        rw [← g4, getL _ (by rw [hdl]; omega), getL _ (by omega), List.getElem_append_left (by simp; omega), List.getElem_dropLast]
    · rename_i _ hl
      have hlt : ∀ i, i < st.1.length → st.1[i]! < p := fun i hi => by
        have hle' := hle i hi
        rcases Nat.lt_or_ge i (st.1.length - 1) with c | c
        · have h7 := List.pairwise_iff_getElem.1 h1 i (st.1.length - 1) hi (by omega) c
          have h8 := hle (st.1.length - 1) (by omega)
          rw [getL _ hi]
          rw [getL _ (by omega)] at h8
          omega
        · obtain rfl : i = st.1.length - 1 := by omega
          have hne : st.1 ≠ [] := by intro e; rw [e] at h4; simp at h4
          rw [List.getLast?_eq_some_getLast hne, List.getLast_eq_getElem] at hl
          rw [getL _ hi] at hle' ⊢
          have hx : ¬ st.1[st.1.length - 1] = p := fun e => hl (by rw [e])
          omega
      have gl : ∀ i, i < st.1.length → (st.1 ++ [p])[i]! = st.1[i]! := fun i hi => by
        rw [getL _ (by simp; omega), getL _ hi, List.getElem_append_left hi]
      have gr : (st.1 ++ [p])[st.1.length]! = p := by
        rw [getL _ (by simp), List.getElem_append_right (by omega)]; simp
      refine ⟨?_, ?_, by simp [h3], by simp, hz, fun a ha => ?_⟩
      · rw [List.pairwise_append]
        refine ⟨h1, by simp, fun x hx y hy => ?_⟩
        rw [List.mem_singleton.1 hy]
        obtain ⟨i, hi, rfl⟩ := List.getElem_of_mem hx
        rw [← getL _ hi]; exact hlt i hi
      · intro x hx
        rcases List.mem_append.1 hx with hx | hx
        · exact (h2 x hx).imp id (fun y => List.mem_append_left _ y)
        · exact .inr (List.mem_append_right _ hx)
      · obtain ⟨r, k, g1, g2, g3, g4, g5, g6⟩ := h6 a ha
        show ∃ r k : Nat, r < (st.1 ++ [p]).length ∧ (st.1 ++ [p])[r]! ≤ a ∧ (∀ i, r < i → i < (st.1 ++ [p]).length → a < (st.1 ++ [p])[i]!) ∧ (st.2.1 ++ [(ix : Int)])[r]! = (k : Int) ∧ k < tab'.length ∧ tab'[k]! = _
        rw [hcv]
        have hll : (st.1 ++ [p]).length = st.1.length + 1 := by simp
        rw [hll]
        by_cases hpa : p ≤ a
        · rw [if_pos hpa]
          refine ⟨st.1.length, ix, by omega, by rw [gr]; exact hpa, fun i c1 c2 => by omega, ?_, t1, t2⟩
          rw [h3, getL _ (by simp), List.getElem_append_right (by omega)]; simp
        · rw [if_neg hpa]
          refine ⟨r, k, by omega, by rw [gl r g1]; exact g2, fun i c1 c2 => ?_, ?_, by omega, by rw [t4 k g5]; exact g6⟩
          · by_cases e : i = st.1.length
            · rw [e, gr]; omega
            · rw [gl i (by omega)]; exact g3 i c1 (by omega)
          · rw [← g4, getL _ (by simp; omega), getL _ (by omega), List.getElem_append_left (by omega)]

theorem tfold_look (nn : Nat) (l : List T3) : ∀ (n : Nat) (ps : List Int), ps.length = n → ps.Pairwise (· < ·) → (∀ p ∈ ps, 0 ≤ p) → Look nn l ps (tfold nn l [[]] ps)
  | 0, ps, hn, _, _ => by
    rw [List.length_eq_zero_iff.1 hn]
    exact Look.start nn l
  | n + 1, ps, hn, hp, h0 => by
    have hne : ps ≠ [] := by rintro rfl; simp at hn
    obtain ⟨qs, p, rfl⟩ : ∃ qs p, ps = qs ++ [p] := ⟨_, _, (List.dropLast_concat_getLast hne).symm⟩
    rw [tfold_snoc]
    rw [List.pairwise_append] at hp
    exact (tfold_look nn l n qs (by simpa using hn) hp.1 (fun q hq => h0 q (by simp [hq]))).step p (h0 p (by simp)) (fun q hq => hp.2.2 q hq p (by simp))

/-- ps: the events' points, ascending. -/
def PsOf (l : List T3) (ps : List Int) : Prop := ps.Pairwise (· < ·) ∧ ∀ q, q ∈ ps ↔ ∃ e ∈ evAll l, e.1 = q

theorem sortedS_perm (l : List T3) : (sortedS l).Perm l := List.mergeSort_perm _ _

theorem sortedS_le (l : List T3) : (sortedS l).Pairwise (fun x y => ¬ ltS y x) := by
  have h := List.pairwise_mergeSort (le := fun x y : T3 => !ltOf cmpS y x) (fun a b c h1 h2 => by
    simp only [Bool.not_eq_true', ltOf_cmpS_false] at *
    unfold ltS at *; omega) (fun a b => by
    rcases h1 : ltOf cmpS b a with _ | _
    · simp
    · rcases h2 : ltOf cmpS a b with _ | _
      · simp
      · rw [ltOf_cmpS] at h1 h2
        unfold ltS at h1 h2; omega) l
  exact h.imp fun {x y} hxy => by
    simp only [Bool.not_eq_true', ltOf_cmpS_false] at hxy
    exact hxy

theorem ps_lo {l : List T3} {ps : List Int} (h : PsOf l ps) {x : T3} (hx : x ∈ l) : x.1 ∈ ps :=
  (h.2 _).2 ⟨(x.1, x.2.2, 1), List.mem_flatMap.2 ⟨x, hx, by unfold evOf; split <;> simp⟩, rfl⟩

theorem ps_hi {l : List T3} {ps : List Int} (h : PsOf l ps) {x : T3} (hx : x ∈ l) (hm : x.2.1 ≠ 4294967295) : x.2.1 + 1 ∈ ps :=
  (h.2 _).2 ⟨(x.2.1 + 1, x.2.2, -1), List.mem_flatMap.2 ⟨x, hx, by unfold evOf; rw [if_neg hm]; simp⟩, rfl⟩

theorem getLast_filter {ps : List Int} (h : ps.Pairwise (· < ·)) (a : Int) : match (ps.filter fun p => decide (p ≤ a)).getLast? with
    | some p => p ∈ ps ∧ p ≤ a ∧ ∀ q ∈ ps, q ≤ a → q ≤ p
    | none => ∀ q ∈ ps, a < q := by
  have hs : (ps.filter fun p => decide (p ≤ a)).Pairwise (· < ·) := h.filter _
  have hm : ∀ q, q ∈ (ps.filter fun p => decide (p ≤ a)) ↔ q ∈ ps ∧ q ≤ a := fun q => by simp
  generalize (ps.filter fun p => decide (p ≤ a)) = f at hs hm
  rcases hl : f.getLast? with _ | p
  · intro q hq
    rw [List.getLast?_eq_none_iff] at hl
    subst hl
    have : ¬ q ≤ a := fun c => by
      have := (hm q).2 ⟨hq, c⟩
      simp at this
    omega
  · have hp := (hm p).1 (List.mem_of_getLast? hl)
    refine ⟨hp.1, hp.2, fun q hq hqa => ?_⟩
    have hqf := (hm q).2 ⟨hq, hqa⟩
    have hne : f ≠ [] := by rintro rfl; simp at hl
    have he := List.dropLast_concat_getLast hne
    rw [List.getLast?_eq_some_getLast hne] at hl
    rw [Option.some.inj hl] at he
    rw [← he] at hs hqf
    rw [List.pairwise_append] at hs
    rcases List.mem_append.1 hqf with c | c
    · have := hs.2.2 q c p (by simp); omega
    · rw [List.mem_singleton.1 c]; omega

/-- Between two points the cover does not turn. -/
theorem cv_cover {nn : Nat} {l : List T3} {ps : List Int} (h : PsOf l ps) {a : Int} (ha : a ≤ 4294967295) : cv nn l ps a = cover nn l a := by
  have hg := getLast_filter h.1 a
  unfold cv
  rcases hl : (ps.filter fun p => decide (p ≤ a)).getLast? with _ | p
  · rw [hl] at hg
    show [] = _
    rcases hc : cover nn l a with _ | ⟨s, t⟩
    · rfl
    · obtain ⟨_, _, x, hx, _, h2, _⟩ := mem_cover.1 (show s ∈ cover nn l a by rw [hc]; simp)
      have := hg _ (ps_lo h hx)
      omega
  · rw [hl] at hg
    obtain ⟨g1, g2, g3⟩ := hg
    show cover nn l p = _
    refine sorted_ext (cover_sorted _ _ _) (cover_sorted _ _ _) fun s => ?_
    rw [mem_cover, mem_cover]
    constructor
    · rintro ⟨h0, h1, x, hx, e, q1, q2⟩
      refine ⟨h0, h1, x, hx, e, by omega, ?_⟩
      by_cases hm : x.2.1 = 4294967295
      · omega
      · by_cases c : x.2.1 < a
        · have := g3 _ (ps_hi h hx hm) (by omega); omega
        · omega
    · rintro ⟨h0, h1, x, hx, e, q1, q2⟩
      exact ⟨h0, h1, x, hx, e, g3 _ (ps_lo h hx) q1, by omega⟩

theorem psOf_uniq {l : List T3} {ps qs : List Int} (h : PsOf l ps) (k : PsOf l qs) : ps = qs := sorted_ext h.1 k.1 fun q => (h.2 q).trans (k.2 q).symm

/-- The list behind the sort, of equal neighbours one kept: strictly ascending, with the same members. -/
theorem ddn_spec (d : Nat → Int × Int × Int) : ∀ n, (∀ i j, i < j → j < n → ¬ ltS (d j) (d i)) → (ddn d n).Pairwise ltS ∧ (∀ x, x ∈ ddn d n ↔ ∃ j, j < n ∧ d j = x)
  | 0, _ => ⟨.nil, fun x => by simp [ddn]⟩
  | n + 1, h => by
    obtain ⟨h1, h2⟩ := ddn_spec d n (fun i j a b => h i j a (by omega))
    show (if 0 < n ∧ d n = d (n - 1) then ddn d n else ddn d n ++ [d n]).Pairwise ltS ∧ ∀ x, x ∈ (if 0 < n ∧ d n = d (n - 1) then ddn d n else ddn d n ++ [d n]) ↔ _
    split
    · rename_i c
      refine ⟨h1, fun x => ?_⟩
      rw [h2]
      constructor
      · rintro ⟨j, a, b⟩; exact ⟨j, by omega, b⟩
      · rintro ⟨j, a, b⟩
        by_cases e : j = n
        · exact ⟨n - 1, by omega, by rw [← c.2, ← e]; exact b⟩
        · exact ⟨j, by omega, b⟩
    · rename_i c
      refine ⟨?_, fun x => ?_⟩
      · rw [List.pairwise_append]
        refine ⟨h1, by simp, fun x hx y hy => ?_⟩
        rw [List.mem_singleton.1 hy]
        obtain ⟨j, hj, rfl⟩ := (h2 x).1 hx
        have n1 := h j n hj (by omega)
        have n2 : j = n - 1 ∨ (j < n - 1 ∧ ¬ ltS (d (n - 1)) (d j) ∧ ¬ ltS (d n) (d (n - 1))) := by
          by_cases e : j = n - 1
          · exact .inl e
          · exact .inr ⟨by omega, h j (n - 1) (by omega) (by omega), h (n - 1) n (by omega) (by omega)⟩
        have n3 : d n ≠ d (n - 1) := fun e => c ⟨by omega, e⟩
        have n4 : d n ≠ d j := fun e => by
          rcases n2 with q | ⟨q1, q2, q3⟩
          · exact n3 (by rw [e, q])
          · rw [e] at q3
            apply n3
            rw [e]
            unfold ltS at q2 q3
            rcases hd1 : d j with ⟨a1, b1, c1⟩
            rcases hd2 : d (n - 1) with ⟨a2, b2, c2⟩
            rw [hd1, hd2] at q2 q3
            simp only [Prod.mk.injEq] at *
            omega
        unfold ltS at n1 ⊢
        rcases hd1 : d j with ⟨a1, b1, c1⟩
        rcases hd2 : d n with ⟨a2, b2, c2⟩
        rw [hd1, hd2] at n1 n4
        simp only [Prod.mk.injEq, ne_eq] at *
        omega
      · rw [List.mem_append, h2, List.mem_singleton]
        constructor
        · rintro (⟨j, a, b⟩ | rfl)
          · exact ⟨j, by omega, b⟩
          · exact ⟨n, by omega, rfl⟩
        · rintro ⟨j, a, b⟩
          by_cases e : j = n
          · subst e; exact .inr b.symm
          · exact .inl ⟨j, by omega, b⟩

theorem spanL_spec (n : Nat) (d : Nat → Int × Int × Int) : (spanL n d).Pairwise ltS ∧ ∀ x, x ∈ spanL n d ↔ ∃ j, j < n ∧ d j = x := by
  have hl : (sortedS ((List.range n).map d)).length = n := by rw [sortedS_len]; simp
  obtain ⟨h1, h2⟩ := ddn_spec (fun i => (sortedS ((List.range n).map d))[i]!) n (fun i j hij hj => by
    have := List.pairwise_iff_getElem.1 (sortedS_le ((List.range n).map d)) i j (by omega) (by omega) hij
    show ¬ ltS (sortedS _)[j]! (sortedS _)[i]!
    rw [getElem!_pos (sortedS ((List.range n).map d)) j (by omega), getElem!_pos (sortedS ((List.range n).map d)) i (by omega)]
    exact this)
  refine ⟨h1, fun x => ?_⟩
  unfold spanL
  rw [h2]
  have hm : x ∈ sortedS ((List.range n).map d) ↔ ∃ j, j < n ∧ d j = x := by
    rw [(sortedS_perm _).mem_iff]; simp
  rw [← hm]
  constructor
  · rintro ⟨j, hj, rfl⟩
    show (sortedS _)[j]! ∈ _
    rw [getElem!_pos (sortedS ((List.range n).map d)) j (by omega)]; exact List.getElem_mem _
  · intro hx
    obtain ⟨j, hj, e⟩ := List.getElem_of_mem hx
    exact ⟨j, by omega, by show (sortedS _)[j]! = x; rw [getElem!_pos (sortedS ((List.range n).map d)) j hj]; exact e⟩

theorem ltS_nodup {l : List T3} (h : l.Pairwise ltS) : l.Nodup := h.imp fun {a b} hab e => by subst e; unfold ltS at hab; omega

theorem span_ext {a b : List T3} (ha : a.Pairwise ltS) (hb : b.Pairwise ltS) (h : ∀ x, x ∈ a ↔ x ∈ b) : a = b :=
  List.Perm.eq_of_pairwise (fun x y _ _ h1 h2 => by unfold ltS at h1 h2; omega) ha hb ((List.perm_ext_iff_of_nodup (ltS_nodup ha) (ltS_nodup hb)).2 h)

/-- The spans rotated. -/
theorem spanL_rot (n cut : Nat) (hc : cut ≤ n) (d : Nat → Int × Int × Int) : spanL n (fun i => d (if n ≤ cut + i then cut + i - n else cut + i)) = spanL n d := by
  refine span_ext (spanL_spec _ _).1 (spanL_spec _ _).1 fun x => ?_
  rw [(spanL_spec _ _).2, (spanL_spec _ _).2]
  constructor
  · rintro ⟨j, hj, rfl⟩
    refine ⟨if n ≤ cut + j then cut + j - n else cut + j, ?_, rfl⟩
    split <;> omega
  · rintro ⟨j, hj, rfl⟩
    by_cases e : j < cut
    · refine ⟨n - cut + j, by omega, ?_⟩
      show d (if _ then _ else _) = _
      rw [if_pos (by omega)]; congr 1; omega
    · refine ⟨j - cut, by omega, ?_⟩
      show d (if _ then _ else _) = _
      rw [if_neg (by omega)]; congr 1; omega

theorem spanL_dist {n : Nat} {d : Nat → Int × Int × Int} {L : List T3} (h : Dist d n L) : L.length = (spanL n d).length :=
  ((List.perm_ext_iff_of_nodup h.1 (ltS_nodup (spanL_spec n d).1)).2 fun x => (h.2 x).trans ((spanL_spec n d).2 x).symm).length_eq

/-- A set's row holds the name of each of its ids. -/
theorem srtN_mem {nm : Nat → ByteArray} {zs : List Int} {s : Int} (h : s ∈ zs) : ∃ j, j < (srtN nm zs).length ∧ (srtN nm zs)[j]! = (nm s.toNat).data.toList := by
  have hm : (nm s.toNat).data.toList ∈ srtN nm zs := by
    unfold srtN
    rw [(List.mergeSort_perm _ _).mem_iff]
    exact List.mem_map.2 ⟨s, h, rfl⟩
  obtain ⟨j, hj, e⟩ := List.getElem_of_mem hm
  exact ⟨j, hj, by rw [getL _ hj]; exact e⟩

end Go.Proofs.Qxb6618911aGreat
