/-
  'Rows.FnBuildV4MatchesCoverageModelSaid', proved: the row out of the walk.
-/
import Derived.Test.Qxb6618911aGreatOpen
import Derived.Test.Qxb6618911aGreatLaw3
import Derived.ChangeOld
import Derived.Below
namespace Go.Proofs.Qxb6618911aGreat.fnBuildV4MatchesCoverageModel
open Go.ChangeShapes Go.WideShapes Go.ChangeAt Go.RowKit

set_option maxRecDepth 100000 in
theorem lifted (os : Os) (started : os.Started) (H : Type) (enc : TypeId × Value → H) :
    ReturnsInHanded {} Tryz.checked os 3 .any (Rows.fnBuildV4MatchesCoverageModelSpec.pre6 enc Tryz.prog Tryz.f3 Rows.fnBuildV4MatchesCoverageModelRow.domain false) (Rows.fnBuildV4MatchesCoverageModelSpec.post enc Tryz.prog Tryz.f3 false true false false) := by
  refine returnsInHanded_of_change (C := Tryz.checked) own started (by kernel_rfl) Tryz.func3
    (ChangeSpec.witness6 (enc := enc) (C := Tryz.checked) false ⟨#[], #[.slice none 0 0, .slice none 0 0, .slice none 0 0, .slice none 0 0], []⟩ 8 (by kernel_rfl) (by kernel_rfl) (by kernel_rfl) (by kernel_rfl)) ?_
  intro W base args ds gs before hval0 hW hcnd _
  have hval : ∀ (j : Nat) t v, Tryz.f3.params[j]? = some t → args[j]? = some v → Value.okWide Tryz.prog W .any base t v := hval0
  have hW' := hW
  obtain ⟨p, q, hA0, hV, rfl, hfz, hnd⟩ := hW
  have hA : DataW.TrodAll enc Tryz.prog W 0 (fun _ => true) true Tryz.f3.params.toList args.toList ds p := hA0
  rw [Tryz.params3] at hA hval
  obtain ⟨v0, vs0, d0, ds0, p0, q0, hargs, rfl, rfl, h0, r0⟩ := trodAll_cons hA
  obtain ⟨v1, vs1, d1, ds1, p1, q1, rfl, rfl, rfl, h1, r1⟩ := trodAll_cons r0
  obtain ⟨v2, vs2, d2, ds2, p2, q2, rfl, rfl, rfl, h2, r2⟩ := trodAll_cons r1
  obtain ⟨v3, vs3, d3, ds3, p3, q3, rfl, rfl, rfl, h3, r3⟩ := trodAll_cons r2
  obtain ⟨rfl, rfl, rfl⟩ := trodAll_nil r3
  obtain rfl : args = #[v0, v1, v2, v3] := by cases args; simp_all
  obtain ⟨rfl, rfl⟩ := trodVars_none hV
  obtain ⟨an, nn, cn, rfl⟩ := okWide_slice Tryz.underlying22 (hval 0 22 v0 rfl rfl)
  obtain ⟨al, nl, cl, rfl⟩ := okWide_slice Tryz.underlying23 (hval 1 23 v1 rfl rfl)
  obtain ⟨ah, nh, ch, rfl⟩ := okWide_slice Tryz.underlying23 (hval 2 23 v2 rfl rfl)
  obtain ⟨ar, ns, cs, rfl⟩ := okWide_slice Tryz.underlying24 (hval 3 24 v3 rfl rfl)
  have k0 := h0
  have k1 := h1
  have k2 := h2
  have k3 := h3
  have lt0 : ∀ x ∈ p0, x.block < W.heap.size := by obtain ⟨m, hm⟩ := k0; exact DataW.trod_lt m _ _ _ hm
  have lt1 : ∀ x ∈ p1, x.block < W.heap.size := by obtain ⟨m, hm⟩ := k1; exact DataW.trod_lt m _ _ _ hm
  have lt2 : ∀ x ∈ p2, x.block < W.heap.size := by obtain ⟨m, hm⟩ := k2; exact DataW.trod_lt m _ _ _ hm
  have lt3 : ∀ x ∈ p3, x.block < W.heap.size := by obtain ⟨m, hm⟩ := k3; exact DataW.trod_lt m _ _ _ hm
  obtain ⟨N, a0, b0⟩ : ∃ N : Nat → ByteArray, ArgS W an nn (fun i => .string (N i)) ∧ ∀ i, i < nn → (N i).size ≤ maxLen := by
    obtain ⟨fuel, hf⟩ := h0
    exact open_argStr (hval 0 22 _ rfl rfl) hf
  obtain ⟨fl, a1, b1⟩ : ∃ f : Nat → Int, ArgS W al nl (fun i => .int .u32 (f i)) ∧ ∀ i, i < nl → (Lit.int .u32 (f i)).wf = true := by
    obtain ⟨fuel, hf⟩ := h1
    exact open_argInt Tryz.underlying23 Tryz.underlying41 (by kernel_rfl) (hval 1 23 _ rfl rfl) hf
  obtain ⟨fh, a2, b2⟩ : ∃ f : Nat → Int, ArgS W ah nh (fun i => .int .u32 (f i)) ∧ ∀ i, i < nh → (Lit.int .u32 (f i)).wf = true := by
    obtain ⟨fuel, hf⟩ := h2
    exact open_argInt Tryz.underlying23 Tryz.underlying41 (by kernel_rfl) (hval 2 23 _ rfl rfl) hf
  obtain ⟨fs, a3, b3⟩ : ∃ f : Nat → Int, ArgS W ar ns (fun i => .int .i32 (f i)) ∧ ∀ i, i < ns → (Lit.int .i32 (f i)).wf = true := by
    obtain ⟨fuel, hf⟩ := h3
    exact open_argInt Tryz.underlying24 Tryz.underlying21 (by kernel_rfl) (hval 3 24 _ rfl rfl) hf
  clear hA0 hval0
  refine (law3_any an al ah ar nn cn nl cl nh ch ns cs N fl fh fs W a0 b0 a1 b1 a2 b2 a3 b3).mono fun e W' ⟨he, bel⟩ => ?_
  subst he
  exact ⟨_, rfl, _, _, _, [], _, [], hW', trodAll_mk1 (shut_bool Tryz.underlying4 _), (trodAll_cons_mk (Below.trod laidOut (by kernel_rfl) (of_decide_eq_true (by kernel_rfl)) k0 bel lt0) (trodAll_cons_mk (Below.trod laidOut (by kernel_rfl) (of_decide_eq_true (by kernel_rfl)) k1 bel lt1) (trodAll_cons_mk (Below.trod laidOut (by kernel_rfl) (of_decide_eq_true (by kernel_rfl)) k2 bel lt2) (trodAll_cons_mk (Below.trod laidOut (by kernel_rfl) (of_decide_eq_true (by kernel_rfl)) k3 bel lt3) trodAll_mk0)))), rfl, bel.frame _, fun h => by cases h⟩

theorem over : Rows.fnBuildV4MatchesCoverageModelRow.holds Tryz.pinned (OpenSpec.ofChange Rows.fnBuildV4MatchesCoverageModelSpec) :=
  OpenClaim.holds_of_wide 3 Tryz.f3 rfl rfl rfl rfl rfl rfl rfl ⟨rfl, rfl, rfl, rfl, rfl⟩ rfl rfl rfl rfl rfl (by kernel_rfl) Tryz.func3 (by kernel_rfl)
    (of_decide_eq_true (by kernel_rfl)) (by unfold Func.isWrapper; first | (rw [if_pos (by decide +kernel)]; kernel_rfl) | (rw [if_neg (by decide +kernel)]; exact ⟨rfl, rfl⟩))
    (fun os started H enc _ => lifted os started H enc)

end Go.Proofs.Qxb6618911aGreat.fnBuildV4MatchesCoverageModel
namespace Go.Proofs.Qxb6618911aGreat

/-- THE STATEMENT. -/
theorem fnBuildV4MatchesCoverageModel_proved : Rows.FnBuildV4MatchesCoverageModelSaid := fnBuildV4MatchesCoverageModel.over

end Go.Proofs.Qxb6618911aGreat
