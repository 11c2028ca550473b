/-
  'Rows.FnHeldSizeAddsOverAnyCutSaid', proved. The frame is the guide's own for this function (written by its tool); the walk is ours.
-/
import Derived.Test.Qxb6616489aRows
import Derived.Test.Qxb6616489aHeld
import Derived.Deep.RegionWith
import Derived.BigQuiet
import Derived.Deep.CutRange
import Derived.Deep.DeepCutAuto
import Derived.WalkKit
import Derived.ProofKit
import Derived.OpenShut
import Derived.ShutString
import Derived.ChangeOld
import Derived.Below
namespace Go.Proofs.Qxb6616489a.fnHeldSizeAddsOverAnyCut
open Go.ChangeShapes Go.WideShapes Go.ChangeAt Go.RowKit
open Go.ChangeMaps (open_string shut_string)
set_option linter.unusedVariables false

theorem own : ownKnob Try.prog.godebug = none := by kernel_rfl
theorem laidOut : laidOutB Try.prog = true := by kernel_rfl

/-- WHAT THE WALK IS TOLD OF A SLICE OF INTEGERS THAT CAME IN: it is nil; or it leads to a row of 'cap' cells, the numbers 'zs' (the first 'len' are its elements, the rest its spare room), each fitting its kind. -/
def IsRow (k : IntKind) (w : World) (a : Option Addr) (len cap : Nat) (zs : List Int) : Prop :=
  (a = none ∧ len = 0 ∧ cap = 0 ∧ zs = []) ∨
  ∃ x, a = some x ∧ len ≤ cap ∧ cap ≤ maxLen ∧ zs.length = cap ∧ (∀ i, i < zs.length → w.cell? (x.add i) = some (.int k (zs.getD i 0))) ∧ ∀ n ∈ zs, (Lit.int k n).wf = true

theorem isRow_len {k : IntKind} {w : World} {a : Option Addr} {len cap : Nat} {zs : List Int} (h : IsRow k w a len cap zs) : len ≤ maxLen := by
  rcases h with ⟨_, rfl, _, _⟩ | ⟨_, _, h1, h2, _⟩
  · exact Nat.zero_le _
  · exact Nat.le_trans h1 h2

theorem isRow_cap {k : IntKind} {w : World} {a : Option Addr} {len cap : Nat} {zs : List Int} (h : IsRow k w a len cap zs) : len ≤ cap := by
  rcases h with ⟨_, rfl, rfl, _⟩ | ⟨_, _, h1, h2, _⟩
  · exact Nat.le_refl _
  · exact h1

/-! ### STEP 1: THE WALK: the Go text returns true, AND WRITES NOTHING THAT WAS THERE: 'Below w.heap.size w w'' (Derived/Below.lean: '.refl', '.alloc', '.drew', '.setCell' at a new block, '.trans'). Open each 'IsRow' by 'rcases' AHEAD of 'go_enter'; part every test ahead of the walk. -/
theorem val_int {a b : Int} (h : a = b) : Value.int .i64 a = .int .i64 b := by rw [h]

set_option maxRecDepth 100000 in
set_option maxHeartbeats 1000000 in
theorem walk (a0 : ByteArray) (a1 : Int) (a2 : Int) (a3 : Int) (a4 : Option Addr) (len4 cap4 : Nat) (z4 : List Int) (a5 : Int) (a6 : Int) (w : World) (w0 : a0.size ≤ maxLen) (w1 : (Lit.int .u16 a1).wf = true) (w2 : (Lit.int .u16 a2).wf = true) (w3 : (Lit.int .u32 a3).wf = true) (w4 : IsRow .u8 w a4 len4 cap4 z4) (w5 : (Lit.int .i64 a5).wf = true) (w6 : (Lit.int .i64 a6).wf = true) :
    Calls Try.prog 7 #[.string a0, .int .u16 a1, .int .u16 a2, .int .u32 a3, .slice a4 len4 cap4, .int .i64 a5, .int .i64 a6] w fun e w' => e = .returned (.bool true) ∧ Below w.heap.size w w' := by
  have l4 := isRow_len w4
  have L0 := w0
  have L4 := l4
  unfold maxLen at L0 L4
  have hcap := isRow_cap w4
  clear w1 w2 w3 w4 w5 w6
  go_enter Try.func7, Try.ntmps7
  go_wp2_with fail
  refine (bytes20_any _ _ _ _ _ _ _ _ _ _ w0 l4).mono ?_
  rintro e w' ⟨⟨b, rfl⟩, hw⟩
  subst w'
  rcases b with _ | _
  · go_wp2
    go_ret
    exact ⟨rfl, Below.refl _ _⟩
  by_cases c1 : 65536 < a0.size
  · go_wp2_with fail
    go_ret
    exact ⟨rfl, Below.refl _ _⟩
  by_cases c2 : 65536 < len4
  · go_wp2_with fail
    go_ret
    exact ⟨rfl, Below.refl _ _⟩
  by_cases c3 : a5 < 0
  · go_wp2_with fail
    go_ret
    exact ⟨rfl, Below.refl _ _⟩
  by_cases c4 : (a0.size : Int) < a5
  · go_wp2_with fail
    go_ret
    exact ⟨rfl, Below.refl _ _⟩
  by_cases c5 : a6 < 0
  · go_wp2_with fail
    go_ret
    exact ⟨rfl, Below.refl _ _⟩
  by_cases c6 : (len4 : Int) < a6
  · go_wp2_with fail
    go_ret
    exact ⟨rfl, Below.refl _ _⟩
  obtain ⟨j, rfl⟩ : ∃ j : Nat, a5 = j := ⟨a5.toNat, by omega⟩
  obtain ⟨k, rfl⟩ : ∃ k : Nat, a6 = k := ⟨a6.toNat, by omega⟩
  have d0 : j ≤ a0.size := by omega
  have d1 : k ≤ len4 := by omega
  have d2 : (0 : Int) ≤ (j : Int) := by omega
  have d3 : (0 : Int) ≤ (k : Int) := by omega
  have d4 : (j : Int) ≤ (a0.size : Int) := by omega
  have d5 : (k : Int) ≤ (len4 : Int) := by omega
  have d6 : (k : Int) ≤ (cap4 : Int) := by omega
  clear c3 c4 c5 c6
  go_wp2_with fail
  refine (held_any _ _ _ _ _ _ _ _ (by omega) (by omega)).mono ?_
  rintro e w' ⟨rfl, rfl⟩
  go_wp2_with fail
  go_cut [16] from 19 (fun v wc => v = .int .i64 ((j : Int) + (k : Int) + 64) ∧ Below w.heap.size w wc)
  case first =>
    go_region_with ((go_at_call 21; refine (held_any _ _ _ _ _ _ _ _ (by first | omega | (simp; omega)) (by omega)).mono ?_; rintro e w' ⟨rfl, rfl⟩))
    all_goals
      go_wp2_with fail
      go_meet
      case rel =>
        refine ⟨val_int ?_, ?_⟩
        · simp <;> omega
        · exact (((((Below.refl _ _).alloc (Nat.le_refl _) _).alloc (by simp) _).drew).alloc (by simp <;> omega) _).alloc (by simp <;> omega) _
  case rest =>
    obtain ⟨rfl, hb1⟩ := hcut
    have HB1 : Hid (Below w.heap.size w wc) := hb1
    have hsz1 := hb1.size
    clear hb1
    go_wp2_with fail
    go_cut [17] from 19 (fun v wd => v = .int .i64 ((a0.size : Int) - (j : Int) + ((len4 : Int) - (k : Int)) + 64) ∧ Below w.heap.size w wd)
    case first =>
      by_cases hck : cap4 = k
      · subst hck
        go_region_with ((go_at_call 21; refine (held_any _ _ _ _ _ _ _ _ (by first | omega | (simp; omega)) (by omega)).mono ?_; rintro e w' ⟨rfl, rfl⟩))
        all_goals
          go_wp2_with fail
          go_meet
          case rel =>
            refine ⟨val_int ?_, ?_⟩
            · simp <;> omega
            · exact ((HB1.out.drew).alloc (by simp <;> omega) _).alloc (by simp <;> omega) _
      · go_region_with ((go_at_call 21; refine (held_any _ _ _ _ _ _ _ _ (by first | omega | (simp; omega)) (by omega)).mono ?_; rintro e w' ⟨rfl, rfl⟩))
        all_goals
          go_wp2_with fail
          go_meet
          case rel =>
            refine ⟨val_int ?_, ?_⟩
            · simp <;> omega
            · exact ((HB1.out.drew).alloc (by simp <;> omega) _).alloc (by simp <;> omega) _
    case rest =>
      obtain ⟨rfl, hb2⟩ := hcut
      have HB2 : Hid (Below w.heap.size w wc) := hb2
      have hsz2 := hb2.size
      clear hb2 HB1 hsz1
      go_wp2_with fail
      refine (held_none _ _ _ _).mono ?_
      rintro e w' ⟨rfl, rfl⟩
      have hx : ((j : Int) + (k : Int) + 64 + ((a0.size : Int) - (j : Int) + ((len4 : Int) - (k : Int)) + 64) == (a0.size : Int) + (len4 : Int) + 64 + 64) = true := by
        have : (j : Int) + (k : Int) + 64 + ((a0.size : Int) - (j : Int) + ((len4 : Int) - (k : Int)) + 64) = (a0.size : Int) + (len4 : Int) + 64 + 64 := by omega
        simpa using this
      have hy : ((a0.size : Int) + (len4 : Int) + 64 - 64 == (a0.size : Int) + (len4 : Int)) = true := by
        rw [beq_iff_eq]; omega
      go_wp2
      go_ret
      refine ⟨?_, ?_⟩
      · simp
      · exact (HB2.out.alloc (by omega) _).alloc (by simp <;> omega) _

/-! ### THE ROW's STEP: WRITTEN OUT: LEAVE IT -/
set_option maxRecDepth 100000 in
theorem lifted (os : Os) (started : os.Started) (H : Type) (enc : TypeId × Value → H) :
    ReturnsInHanded {} Try.checked os 7 .any (Rows.fnHeldSizeAddsOverAnyCutSpec.pre6 enc Try.prog Try.f7 Rows.fnHeldSizeAddsOverAnyCutRow.domain false) (Rows.fnHeldSizeAddsOverAnyCutSpec.post enc Try.prog Try.f7 false true false false) := by
  refine returnsInHanded_of_change (C := Try.checked) own started (by kernel_rfl) Try.func7
    (ChangeSpec.witness6 (enc := enc) (C := Try.checked) false ⟨#[], #[.string ByteArray.empty, .int .u16 0, .int .u16 0, .int .u32 0, .slice none 0 0, .int .i64 0, .int .i64 0], []⟩ 8 (by kernel_rfl) (by kernel_rfl) (by kernel_rfl) (by kernel_rfl)) ?_
  intro W base args ds gs before hval0 hW hcnd _
  have hval : ∀ (j : Nat) t v, Try.f7.params[j]? = some t → args[j]? = some v → Value.okWide Try.prog W .any base t v := hval0
  have hW' := hW
  obtain ⟨p, q, hA0, hV, rfl, hfz, hnd⟩ := hW
  have hA : DataW.TrodAll enc Try.prog W 0 (fun _ => true) true Try.f7.params.toList args.toList ds p := hA0
  rw [Try.params7] at hA hval
  obtain ⟨v0, vs0, d0, ds0, p0, q0, hargs, rfl, rfl, h0, r0⟩ := trodAll_cons hA
  obtain ⟨v1, vs1, d1, ds1, p1, q1, rfl, rfl, rfl, h1, r1⟩ := trodAll_cons r0
  obtain ⟨v2, vs2, d2, ds2, p2, q2, rfl, rfl, rfl, h2, r2⟩ := trodAll_cons r1
  obtain ⟨v3, vs3, d3, ds3, p3, q3, rfl, rfl, rfl, h3, r3⟩ := trodAll_cons r2
  obtain ⟨v4, vs4, d4, ds4, p4, q4, rfl, rfl, rfl, h4, r4⟩ := trodAll_cons r3
  obtain ⟨v5, vs5, d5, ds5, p5, q5, rfl, rfl, rfl, h5, r5⟩ := trodAll_cons r4
  obtain ⟨v6, vs6, d6, ds6, p6, q6, rfl, rfl, rfl, h6, r6⟩ := trodAll_cons r5
  obtain ⟨rfl, rfl, rfl⟩ := trodAll_nil r6
  obtain rfl : args = #[v0, v1, v2, v3, v4, v5, v6] := by cases args; simp_all
  obtain ⟨rfl, rfl⟩ := trodVars_none hV
  obtain ⟨a0, rfl, rfl, rfl, w0⟩ := open_string Try.underlying9 (hval 0 9 v0 rfl rfl) h0
  obtain ⟨a1, rfl, rfl, rfl, w1⟩ := open_int Try.underlying32 (hval 1 32 v1 rfl rfl) h1
  obtain ⟨a2, rfl, rfl, rfl, w2⟩ := open_int Try.underlying32 (hval 2 32 v2 rfl rfl) h2
  obtain ⟨a3, rfl, rfl, rfl, w3⟩ := open_int Try.underlying33 (hval 3 33 v3 rfl rfl) h3
  obtain ⟨a4, len4, cap4, rfl⟩ := okWide_slice Try.underlying34 (hval 4 34 v4 rfl rfl)
  have k4 := h4
  have lt4 : ∀ x ∈ p4, x.block < W.heap.size := by obtain ⟨m, hm⟩ := k4; exact DataW.trod_lt m _ _ _ hm
  obtain ⟨z4, w4⟩ : ∃ zs, IsRow .u8 W a4 len4 cap4 zs := by
    obtain ⟨fuel, hf⟩ := h4
    rcases open_ints Try.underlying34 Try.underlying5 (by kernel_rfl) hf with ⟨hcs, _⟩ | ⟨x, l, c, zs, hcs, _, hl, hm, hz, _, hcell, hwz⟩
    · simp [Value.cells] at hcs
      obtain ⟨rfl, rfl, rfl⟩ := hcs
      exact ⟨[], .inl ⟨rfl, rfl, rfl, rfl⟩⟩
    · simp [Value.cells] at hcs
      obtain ⟨rfl, rfl, rfl⟩ := hcs
      exact ⟨zs, .inr ⟨_, rfl, hl, hm, by simpa using hz, hcell, hwz⟩⟩
  obtain ⟨a5, rfl, rfl, rfl, w5⟩ := open_int Try.underlying3 (hval 5 3 v5 rfl rfl) h5
  obtain ⟨a6, rfl, rfl, rfl, w6⟩ := open_int Try.underlying3 (hval 6 3 v6 rfl rfl) h6
  clear hA0 hval0
  refine (walk a0 a1 a2 a3 a4 len4 cap4 z4 a5 a6 W w0 w1 w2 w3 w4 w5 w6).mono fun e W' ⟨he, bel⟩ => ?_
  subst he
  exact ⟨_, rfl, _, _, _, [], _, [], hW', trodAll_mk1 (shut_bool Try.underlying4 _), (trodAll_cons_mk (shut_string Try.underlying9 w0) (trodAll_cons_mk (shut_int Try.underlying32 w1) (trodAll_cons_mk (shut_int Try.underlying32 w2) (trodAll_cons_mk (shut_int Try.underlying33 w3) (trodAll_cons_mk (Below.trod laidOut (by kernel_rfl) (of_decide_eq_true (by kernel_rfl)) k4 bel lt4) (trodAll_cons_mk (shut_int Try.underlying3 w5) (trodAll_cons_mk (shut_int Try.underlying3 w6) trodAll_mk0))))))), rfl, bel.frame _, fun h => by cases h⟩

theorem over : Rows.fnHeldSizeAddsOverAnyCutRow.holds Try.pinned (OpenSpec.ofChange Rows.fnHeldSizeAddsOverAnyCutSpec) :=
  OpenClaim.holds_of_wide 7 Try.f7 rfl rfl rfl rfl rfl rfl rfl ⟨rfl, rfl, rfl, rfl, rfl⟩ rfl rfl rfl rfl rfl (by kernel_rfl) Try.func7 (by kernel_rfl)
    (of_decide_eq_true (by kernel_rfl)) (by unfold Func.isWrapper; first | (rw [if_pos (by decide +kernel)]; kernel_rfl) | (rw [if_neg (by decide +kernel)]; exact ⟨rfl, rfl⟩))
    (fun os started H enc _ => lifted os started H enc)

/-- THE STATEMENT. -/
theorem proved : Rows.FnHeldSizeAddsOverAnyCutSaid := over
end Go.Proofs.Qxb6616489a.fnHeldSizeAddsOverAnyCut
namespace Go.Proofs.Qxb6616489a

theorem fnHeldSizeAddsOverAnyCut_proved : Rows.FnHeldSizeAddsOverAnyCutSaid := fnHeldSizeAddsOverAnyCut.proved

end Go.Proofs.Qxb6616489a
