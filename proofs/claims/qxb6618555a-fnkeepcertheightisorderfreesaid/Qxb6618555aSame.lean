import Derived.Test.Qxb6618555aCalls
import Derived.Test.Qxb6618555aAlk
import Derived.Deep.QuietTactic
import Derived.BigQuiet
import Derived.Deep.OwnRows
namespace Go.Proofs.Qxb6618555a
open Go.RowKit

/-- The two slices of slices at blocks C and S, of N cells each, hold the same lists of pointers. -/
def SameC (w : World) (C S N : Nat) : Prop :=
  ∀ i, i < N → ∃ ca sa la ka ks, w.cell? ⟨C, i, none⟩ = some (.slice ca la ka) ∧ w.cell? ⟨S, i, none⟩ = some (.slice sa la ks) ∧ la ≤ 1 ∧
    ∀ j, j < la → ∃ c s x, ca = some ⟨c, 0, none⟩ ∧ sa = some ⟨s, 0, none⟩ ∧ w.cell? ⟨c, j, none⟩ = some (.pointer (some x)) ∧ w.cell? ⟨s, j, none⟩ = some (.pointer (some x))

set_option maxHeartbeats 1000000 in
theorem same_any (C S N M M' : Nat) (w : World) (hN : N ≤ 70000) (hs : SameC w C S N) :
    Calls Try.prog 12 #[.slice (some ⟨C, 0, none⟩) N M, .slice (some ⟨S, 0, none⟩) N M'] w fun e w' => e = .returned (.bool true) ∧ Alk w' w := by
  have HS : Hid (SameC w C S N) := hs
  clear hs
  go_enter Try.func12, Try.ntmps12
  go_wp2
  go_loopw [5] (fun i wr => ∃ k : Nat, k ≤ N ∧ i = .int .i64 k ∧ Alk wr w) (fun i _ => N - (intOf i).toNat)
  case atStart => exact ⟨0, Nat.zero_le _, rfl, Alk.refl _⟩
  case round =>
    obtain ⟨k, hk, rfl, hw⟩ := hrel
    by_cases hlt : k < N
    · obtain ⟨ca, sa, la, ka, ks, h1, h2, hla, hj⟩ := HS.out k hlt
      have H12 : Hid (w.cell? ⟨C, k, none⟩ = some (.slice ca la ka) ∧ w.cell? ⟨S, k, none⟩ = some (.slice sa la ks)) := ⟨h1, h2⟩
      rw [← hw.cell] at h1 h2
      have HJ : Hid (∀ j, j < la → ∃ c s x, ca = some ⟨c, 0, none⟩ ∧ sa = some ⟨s, 0, none⟩ ∧ w.cell? ⟨c, j, none⟩ = some (.pointer (some x)) ∧ w.cell? ⟨s, j, none⟩ = some (.pointer (some x))) := hj
      clear hj
      have HW : Hid (Alk wr w) := hw
      clear hw
      have hlt' : (k : Int) < (N : Int) := by omega
      go_wp2
      go_quiet (fail)
      go_wp2
      clear h1 h2
      go_loopw [6] (fun i wi => ∃ m : Nat, m ≤ la ∧ i = .int .i64 m ∧ Alk wi w) (fun i _ => la - (intOf i).toNat)
      case atStart => exact ⟨0, Nat.zero_le _, rfl, (Alk.drewN _ _).trans HW.out⟩
      case round =>
        obtain ⟨m, hm, rfl, hw⟩ := hrel
        have h1 : wr.cell? ⟨C, k, none⟩ = some (.slice ca la ka) := (hw.cell _).trans H12.out.1
        have h2 : wr.cell? ⟨S, k, none⟩ = some (.slice sa la ks) := (hw.cell _).trans H12.out.2
        by_cases hltm : m < la
        · obtain ⟨c, s, x, rfl, rfl, g1, g2⟩ := HJ.out m hltm
          rw [← hw.cell] at g1 g2
          have HW : Hid (Alk wr w) := hw
          clear hw
          have he := neq_same x
          have hltm' : (m : Int) < (la : Int) := by omega
          go_wp2
          go_quiet (fail)
          go_wp2
          go_roundw
          case rel => exact ⟨m + 1, by omega, by go_num, (Alk.drewN _ _).trans HW.out⟩
          case measure => simp [intOf]; omega
        · go_wp2
          go_roundw
          case rel => exact ⟨k + 1, by omega, by go_num, hw⟩
          case measure => simp [intOf]; omega
    · go_wp2
      go_ret
      exact ⟨rfl, hw⟩
end Go.Proofs.Qxb6618555a
