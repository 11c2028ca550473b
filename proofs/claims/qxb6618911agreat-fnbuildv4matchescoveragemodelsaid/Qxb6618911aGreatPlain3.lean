/-
  The model's runs are the table's: plain laws of the coverage model. No walk here.
-/
import Derived.Test.Qxb6618911aGreatNums
import Derived.Test.Qxb6618911aGreatEnt2
namespace Go.Proofs.Qxb6618911aGreat
open Go.RowKit Go.Lib

/-- The model's state and the table's, side by side. -/
structure Joint (M : List Int × List (List Int)) (st : List Int × List Int × List (List Int)) : Prop where
  starts : M.1 = st.1
  nums : nfold M.2 = (st.2.1, st.2.2)
  last : ∃ z, M.2.getLast? = some z ∧ z ∈ st.2.2 ∧ st.2.1.getLast? = some (st.2.2.idxOf z : Int)

theorem Joint.step {cov : Int → List Int} {M : List Int × List (List Int)} {st : List Int × List Int × List (List Int)} (h : Joint M st) (p : Int) (hp : ∀ x ∈ st.1, x < p) : Joint (mstep cov M p) (tstep (cov p) p st) := by
  obtain ⟨h1, h2, z, h3, h4, h5⟩ := h
  obtain ⟨t1, t2, t3, t4⟩ := tabN_at st.2.2 (cov p)
  have hz := List.idxOf_lt_length_iff.2 h4
  have hzg : st.2.2[st.2.2.idxOf z]! = z := by rw [getL _ hz]; exact List.getElem_idxOf hz
  by_cases e : z = cov p
  · have htab : tabN st.2.2 (cov p) = st.2.2 := by unfold tabN; rw [if_pos (e ▸ h4)]
    have hm : mstep cov M p = M := by unfold mstep; rw [if_pos (by rw [h3, e])]
    have ht : tstep (cov p) p st = st := by
      unfold tstep
      rw [htab, if_pos (by rw [h5, e])]
    rw [hm, ht]
    exact ⟨h1, h2, z, h3, h4, h5⟩
  · have hm : mstep cov M p = (M.1 ++ [p], M.2 ++ [cov p]) := by unfold mstep; rw [if_neg (by rw [h3]; intro c; exact e (Option.some.inj c))]
    have ht : tstep (cov p) p st = (st.1 ++ [p], st.2.1 ++ [((tabN st.2.2 (cov p)).idxOf (cov p) : Int)], tabN st.2.2 (cov p)) := by
      unfold tstep
      rw [if_neg, if_neg]
      · intro c
        have := hp p (List.mem_of_getLast? c)
        omega
      · intro c
        rw [h5] at c
        have c' : st.2.2.idxOf z = (tabN st.2.2 (cov p)).idxOf (cov p) := by
          have := Option.some.inj c
          omega
        have := t4 _ hz
        rw [hzg, c', t2] at this
        exact e this.symm
    rw [hm, ht]
    refine ⟨by rw [h1], ?_, cov p, by simp, ?_, by simp⟩
    · show nfold (M.2 ++ [cov p]) = _
      rw [nfold_snoc, h2]
      rfl
    · exact List.idxOf_lt_length_iff.1 t1

theorem joint_fold (cov : Int → List Int) : ∀ (qs : List Int) (M : List Int × List (List Int)) (st : List Int × List Int × List (List Int)), Joint M st → (∀ x ∈ st.1, ∀ q ∈ qs, x < q) → qs.Pairwise (· < ·) → Joint (qs.foldl (mstep cov) M) (qs.foldl (fun st p => tstep (cov p) p st) st)
  | [], M, st, h, _, _ => h
  | p :: qs, M, st, h, hx, hp => by
    rw [List.foldl_cons, List.foldl_cons]
    rw [List.pairwise_cons] at hp
    refine joint_fold cov qs _ _ (h.step p fun x hx' => hx x hx' p (by simp)) (fun x hx' q hq => ?_) hp.2
    have hs : x ∈ st.1 ∨ x = p := by
      unfold tstep at hx'
      split at hx'
      · exact .inl hx'
      · split at hx'
        · exact .inl hx'
        · simpa using hx'
    rcases hs with h1 | rfl
    · exact hx x h1 q (by simp [hq])
    · exact hp.1 q hq

/-- At the first address. -/
theorem joint_zero (cov : Int → List Int) : Joint (mstep cov ([], []) 0) (tstep (cov 0) 0 ([0], [0], [[]])) := by
  have hm : mstep cov ([], []) 0 = ([0], [cov 0]) := by simp [mstep]
  rw [hm]
  by_cases e : cov 0 = []
  · have ht : tstep (cov 0) 0 ([0], [0], [[]]) = ([0], [0], [[]]) := by rw [e]; simp [tstep, tabN]
    rw [ht, e]
    exact ⟨rfl, by simp [nfold, nstep, tabN], [], by simp, by simp, by simp⟩
  · have htab : tabN [[]] (cov 0) = [[], cov 0] := by unfold tabN; rw [if_neg (by simpa using e)]; rfl
    have hix : ([[], cov 0] : List (List Int)).idxOf (cov 0) = 1 := by
      rw [List.idxOf_cons]
      have hb : (([] : List Int) == cov 0) = false := by
        rw [beq_eq_false_iff_ne]; exact fun c => e c.symm
      simp [hb]
    have ht : tstep (cov 0) 0 ([0], [0], [[]]) = ([0], [1], [[], cov 0]) := by
      unfold tstep
      simp only [htab, hix]
      simp
    rw [ht]
    refine ⟨rfl, ?_, cov 0, by simp, by simp, by simp [hix]⟩
    simp [nfold, nstep, htab, hix]

theorem joint_none (cov : Int → List Int) (e : cov 0 = []) : Joint (mstep cov ([], []) 0) ([0], [0], [[]]) := by
  have hm : mstep cov ([], []) 0 = ([0], [cov 0]) := by simp [mstep]
  rw [hm, e]
  exact ⟨rfl, by simp [nfold, nstep, tabN], [], by simp, by simp, by simp⟩

/-- The model's runs, numbered, are the table. -/
theorem model_table {nn n : Nat} {fl fh fs : Nat → Int} {ps P : List Int} (hb : Bnd nn (spanL n (fun i => (fl i, fh i, fs i))) ps) (hP : PtAt fl fh n P) :
    Joint (mfold (cover nn (spanL n (fun i => (fl i, fh i, fs i)))) P) (tfold nn (spanL n (fun i => (fl i, fh i, fs i))) [[]] ps) := by
  generalize hl : spanL n (fun i => (fl i, fh i, fs i)) = l at *
  have hmem : ∀ x, x ∈ l ↔ ∃ j, j < n ∧ (fl j, fh j, fs j) = x := by rw [← hl]; exact (spanL_spec n _).2
  have hps0 := ps_ok hb.pts fun x hx => ⟨(hb.ok x hx).1, (hb.ok x hx).2.1⟩
  have hpm : ∀ q, q ∈ P ↔ q = 0 ∨ q ∈ ps := fun q => by
    rw [hP.2.2]
    constructor
    · rintro (h | ⟨i, hi, h⟩)
      · exact .inl h
      · right
        have hx : (fl i, fh i, fs i) ∈ l := (hmem _).2 ⟨i, hi, rfl⟩
        rcases h with h | ⟨h1, h2⟩
        · rw [h]; exact ps_lo hb.pts hx
        · rw [h2]; exact ps_hi hb.pts hx h1
    · rintro (h | h)
      · exact .inl h
      · right
        obtain ⟨e, he, rfl⟩ := (hb.pts.2 q).1 h
        obtain ⟨x, hx, _, h2⟩ := evAll_mem he
        obtain ⟨i, hi, rfl⟩ := (hmem x).1 hx
        rcases h2 with ⟨h2, _⟩ | ⟨h3, h2, _⟩
        · exact ⟨i, hi, .inl h2⟩
        · exact ⟨i, hi, .inr ⟨h3, h2⟩⟩
  by_cases h0 : (0 : Int) ∈ ps
  · have hPp : P = ps := sorted_ext hP.1 hb.pts.1 fun q => by
      rw [hpm]
      exact ⟨fun h => h.elim (fun e => e ▸ h0) id, .inr⟩
    subst hPp
    obtain ⟨qs, rfl⟩ : ∃ qs, P = 0 :: qs := by
      rcases P with _ | ⟨p, qs⟩
      · simp at h0
      · have hp := List.pairwise_cons.1 hP.1
        rcases List.mem_cons.1 h0 with e | e
        · exact ⟨qs, by rw [← e]⟩
        · have := hp.1 0 e
          have := hps0 p (by simp)
          omega
    have hp := List.pairwise_cons.1 hP.1
    unfold mfold tfold
    rw [List.foldl_cons, List.foldl_cons]
    refine joint_fold _ qs _ _ (joint_zero _) (fun x hx q hq => ?_) hp.2
    have hx0 : x = 0 := by
      unfold tstep at hx
      split at hx
      · simpa using hx
      · split at hx
        · simpa using hx
        · simpa using hx
    rw [hx0]; exact hp.1 q hq
  · have hpos : ∀ q ∈ ps, 0 < q := fun q hq => by
      have := hps0 q hq
      have : q ≠ 0 := fun e => h0 (e ▸ hq)
      omega
    have hPp : P = 0 :: ps := sorted_ext hP.1 (List.pairwise_cons.2 ⟨hpos, hb.pts.1⟩) fun q => by
      rw [hpm, List.mem_cons]
    subst hPp
    have hc0 : cover nn l 0 = [] := by
      rcases hc : cover nn l 0 with _ | ⟨s, t⟩
      · rfl
      · exfalso
        obtain ⟨_, _, x, hx, _, h2, _⟩ := mem_cover.1 (show s ∈ cover nn l 0 by rw [hc]; simp)
        have h3 := (hb.ok x hx).1
        have : x.1 = 0 := by omega
        exact h0 (this ▸ ps_lo hb.pts hx)
    unfold mfold tfold
    rw [List.foldl_cons]
    exact joint_fold _ ps _ _ (joint_none _ hc0) (fun x hx q hq => by simp at hx; rw [hx]; exact hpos q hq) hb.pts.1

theorem cov_is {nn n : Nat} {fl fh fs : Nat → Int} (hok : ∀ i, i < n → 0 ≤ fs i ∧ fs i < nn) {p : Int} {ys : List Int} (h : CovIs fl fh fs n p ys) : ys = cover nn (spanL n (fun i => (fl i, fh i, fs i))) p :=
  sorted_ext h.1 (cover_sorted _ _ _) fun q => by
    rw [h.2.2, mem_cover]
    constructor
    · rintro ⟨i, hi, a, b, rfl⟩
      exact ⟨(hok i hi).1, (hok i hi).2, (fl i, fh i, fs i), ((spanL_spec n _).2 _).2 ⟨i, hi, rfl⟩, rfl, a, b⟩
    · rintro ⟨_, _, x, hx, rfl, a, b⟩
      obtain ⟨i, hi, rfl⟩ := ((spanL_spec n _).2 x).1 hx
      exact ⟨i, hi, a, b, rfl⟩

theorem ent_is {n : Nat} {fl fh fs : Nat → Int} {l : List T3} (h : EntIs fl fh fs n l) : l = spanL n (fun i => (fl i, fh i, fs i)) :=
  span_ext h.1 (spanL_spec n _).1 fun x => by rw [h.2.2, (spanL_spec n _).2]
end Go.Proofs.Qxb6618911aGreat
