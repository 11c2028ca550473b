/-
  'Rows.FnIsDigitTenConsecutiveFromZeroSaid', proved. The frame is the guide's own for this function (written by its tool); the walk is ours.
-/
import Derived.Test.Qxb6616489aRows
import Derived.Test.Qxb6616489aDigits
import Derived.WalkKit
import Derived.ProofKit
import Derived.OpenShut
import Derived.ShutString
namespace Go.Proofs.Qxb6616489a.fnIsDigitTenConsecutiveFromZero
open Go.ChangeShapes Go.WideShapes Go.ChangeAt Go.RowKit
open Go.ChangeMaps (open_string shut_string)
set_option linter.unusedVariables false      -- a walk need not use every 'w<i>' (that an integer argument fits its kind)

theorem own : ownKnob Try.prog.godebug = none := by kernel_rfl

/-- How many of 0, .., k - 1 are digits. -/
def cnt (k : Nat) : Int := if k ≤ 48 then 0 else if k ≤ 58 then (k : Int) - 48 else 10

theorem cnt_bd (k : Nat) : 0 ≤ cnt k ∧ cnt k ≤ 10 := by unfold cnt; split <;> (try split) <;> omega

theorem cnt_yes {k : Nat} {m : Int} (h : m = cnt k) (h0 : 48 ≤ (k : Int)) (h1 : (k : Int) ≤ 57) : m + 1 = cnt (k + 1) := by
  rw [h]
  unfold cnt
  by_cases e : k ≤ 48
  · rw [if_pos e, if_neg (by omega), if_pos (by omega)]; omega
  · rw [if_neg e, if_pos (by omega), if_neg (by omega), if_pos (by omega)]; omega

theorem cnt_no {k : Nat} {m : Int} (h : m = cnt k) (h0 : (k : Int) < 48 ∨ 57 < (k : Int)) : m = cnt (k + 1) := by
  rw [h]
  unfold cnt
  split <;> split <;> (try split) <;> (try split) <;> omega

/-! ### STEP 1: THE WALK: the Go text returns true. 'Grown w w'': the world has at most new blocks (Derived/RowKit3.lean). Part the cases AHEAD of 'go_enter' where a test parts the walk; take each callee by a contract of your own. -/
theorem walk (a0 : Int) (w0 : (Lit.int .u8 a0).wf = true) (w : World) :
    Calls Try.prog 4 #[.int .u8 a0] w fun e w' => e = .returned (.bool true) ∧ Grown w w' := by
  have hb := bounds_u8 w0
  clear w0
  obtain ⟨b0, b1⟩ := hb
  go_enter Try.func4, Try.ntmps4
  go_wp2
  go_loop [3, 4] (fun n i => ∃ k : Nat, (k : Int) ≤ a0 + 1 ∧ i = .int .i64 k ∧ ∃ m : Int, n = .int .i64 m ∧ Hid (m = cnt k) ∧ 0 ≤ m ∧ m ≤ 10) (fun _ i => 300 - (intOf i).toNat)
  case atStart => exact ⟨0, by omega, rfl, 0, rfl, rfl, by omega, by omega⟩
  case round =>
    obtain ⟨k, hk, rfl, m, rfl, hm, m0, m1⟩ := hrel
    by_cases hlt : (k : Int) ≤ a0
    · by_cases d : 48 ≤ (k : Int) ∧ (k : Int) ≤ 57
      · obtain ⟨d2, d3⟩ := d
        go_wp2_with (first | (go_at_call 9; refine (zzIsDigit_yes _ _ d2 d3).mono ?_; rintro e w' ⟨rfl, rfl⟩))
        go_round
        case rel => exact ⟨k + 1, by omega, by go_num, m + 1, rfl, cnt_yes hm.out d2 d3, by omega, (cnt_yes hm.out d2 d3) ▸ (cnt_bd (k + 1)).2⟩
        case measure => simp [intOf]; omega
      · have d2 : (k : Int) < 48 ∨ 57 < (k : Int) := by omega
        have D2 : Hid ((k : Int) < 48 ∨ 57 < (k : Int)) := d2
        clear d d2
        go_wp2_with (first | (go_at_call 9; refine (zzIsDigit_no _ _ D2.out).mono ?_; rintro e w' ⟨rfl, rfl⟩))
        go_round
        case rel => exact ⟨k + 1, by omega, by go_num, m, rfl, cnt_no hm.out D2.out, by omega, by omega⟩
        case measure => simp [intOf]; omega
    · have hka : a0 = (k : Int) - 1 := by omega
      have HK : Hid (a0 = (k : Int) - 1) := hka
      clear hka
      by_cases e1 : a0 - 47 < 0
      · have hmm : m = 0 := by rw [hm.out]; have := HK.out; unfold cnt; omega
        subst hmm
        go_wp2
        go_ret
        exact ⟨rfl, Grown.refl _⟩
      · by_cases e2 : 10 < a0 - 47
        · have hmm : m = 10 := by rw [hm.out]; have := HK.out; unfold cnt; omega
          subst hmm
          go_wp2
          go_ret
          exact ⟨rfl, Grown.refl _⟩
        · have hmm : (m == a0 - 47) = true := by
            have : m = a0 - 47 := by rw [hm.out]; have := HK.out; unfold cnt; omega
            simpa using this
          go_wp2
          go_ret
          exact ⟨rfl, Grown.refl _⟩

/-! ### THE ROW's STEP: WRITTEN OUT: LEAVE IT -/
set_option maxRecDepth 100000 in
theorem lifted (os : Os) (started : os.Started) (H : Type) (enc : TypeId × Value → H) :
    ReturnsInHanded {} Try.checked os 4 .any (Rows.fnIsDigitTenConsecutiveFromZeroSpec.pre6 enc Try.prog Try.f4 Rows.fnIsDigitTenConsecutiveFromZeroRow.domain false) (Rows.fnIsDigitTenConsecutiveFromZeroSpec.post enc Try.prog Try.f4 false true false false) := by
  refine returnsInHanded_of_change (C := Try.checked) own started (by kernel_rfl) Try.func4
    (ChangeSpec.witness6 (enc := enc) (C := Try.checked) false ⟨#[], #[.int .u8 0], []⟩ 8 (by kernel_rfl) (by kernel_rfl) (by kernel_rfl) (by kernel_rfl)) ?_
  intro W base args ds gs before hval0 hW hcnd _
  have hval : ∀ (j : Nat) t v, Try.f4.params[j]? = some t → args[j]? = some v → Value.okWide Try.prog W .any base t v := hval0
  have hW' := hW
  obtain ⟨p, q, hA0, hV, rfl, hfz, hnd⟩ := hW
  have hA : DataW.TrodAll enc Try.prog W 0 (fun _ => true) true Try.f4.params.toList args.toList ds p := hA0
  rw [Try.params4] at hA hval
  obtain ⟨v0, vs0, d0, ds0, p0, q0, hargs, rfl, rfl, h0, r0⟩ := trodAll_cons hA
  obtain ⟨rfl, rfl, rfl⟩ := trodAll_nil r0
  obtain rfl : args = #[v0] := by cases args; simp_all
  obtain ⟨rfl, rfl⟩ := trodVars_none hV
  obtain ⟨a0, rfl, rfl, rfl, w0⟩ := open_int Try.underlying5 (hval 0 5 v0 rfl rfl) h0
  clear hA0 hval0
  simp only [List.append_nil] at hW'
  refine (walk a0 w0 W).mono fun e W' ⟨he, hg⟩ => ?_
  subst he
  exact ⟨_, rfl, post_of_same (pa := []) (pv := []) hW' (fun _ _ _ => (trodAll_cons_mk (shut_bool Try.underlying4 _) trodAll_mk0)) (fun sp _ => (trodAll_cons_mk (shut_int Try.underlying5 w0) trodAll_mk0)) (fun _ _ => rfl) rfl
    (hg.frame _) hg.2.1 (ok_one (by kernel_rfl) rfl (okWide_bool_mk Try.underlying4 _))⟩

theorem over : Rows.fnIsDigitTenConsecutiveFromZeroRow.holds Try.pinned (OpenSpec.ofChange Rows.fnIsDigitTenConsecutiveFromZeroSpec) :=
  OpenClaim.holds_of_wide 4 Try.f4 rfl rfl rfl rfl rfl rfl rfl ⟨rfl, rfl, rfl, rfl, rfl⟩ rfl rfl rfl rfl rfl (by kernel_rfl) Try.func4 (by kernel_rfl)
    (of_decide_eq_true (by kernel_rfl)) (by unfold Func.isWrapper; first | (rw [if_pos (by decide +kernel)]; kernel_rfl) | (rw [if_neg (by decide +kernel)]; exact ⟨rfl, rfl⟩))
    (fun os started H enc _ => lifted os started H enc)

/-- THE STATEMENT. -/
theorem proved : Rows.FnIsDigitTenConsecutiveFromZeroSaid :=
  over
end Go.Proofs.Qxb6616489a.fnIsDigitTenConsecutiveFromZero
namespace Go.Proofs.Qxb6616489a

theorem fnIsDigitTenConsecutiveFromZero_proved : Rows.FnIsDigitTenConsecutiveFromZeroSaid := fnIsDigitTenConsecutiveFromZero.proved

end Go.Proofs.Qxb6616489a
