/-
  isDigit, lowerByte, inDecimalDigits, walked.
-/
import Derived.Test.Qxb6616489aProg
import Derived.WalkKit
import Derived.WalkSpells
import Derived.WalkLawsBesides
namespace Go.Proofs.Qxb6616489a
open Go.RowKit

set_option maxHeartbeats 400000 in
theorem zzIsDigit_yes (c : Int) (w : World) (h0 : 48 ≤ c) (h1 : c ≤ 57) :
    Calls Try.prog 9 #[.int .u8 c] w fun e w' => e = .returned (.bool true) ∧ w' = w := by
  go_enter Try.func9, Try.ntmps9
  go_wp2
  go_ret
  exact ⟨rfl, rfl⟩

set_option maxHeartbeats 400000 in
theorem zzIsDigit_no (c : Int) (w : World) (h : c < 48 ∨ 57 < c) :
    Calls Try.prog 9 #[.int .u8 c] w fun e w' => e = .returned (.bool false) ∧ w' = w := by
  rcases h with h | h
  · have h' : decide (48 ≤ c) = false := by simpa using h
    go_enter Try.func9, Try.ntmps9
    go_wp2
    go_ret
    exact ⟨rfl, rfl⟩
  · have h' : 48 ≤ c := by omega
    have h'' : decide (c ≤ 57) = false := by simpa using h
    go_enter Try.func9, Try.ntmps9
    go_wp2
    go_ret
    exact ⟨rfl, rfl⟩

set_option maxHeartbeats 400000 in
theorem zzLower_up (c : Int) (w : World) (h0 : 65 ≤ c) (h1 : c ≤ 90) :
    Calls Try.prog 10 #[.int .u8 c] w fun e w' => e = .returned (.int .u8 (c + 97 - 65)) ∧ w' = w := by
  go_enter Try.func10, Try.ntmps10
  go_wp2
  go_ret
  exact ⟨rfl, rfl⟩

set_option maxHeartbeats 400000 in
theorem zzLower_same (c : Int) (w : World) (h : c < 65 ∨ 90 < c) :
    Calls Try.prog 10 #[.int .u8 c] w fun e w' => e = .returned (.int .u8 c) ∧ w' = w := by
  rcases h with h | h
  · have h' : decide (65 ≤ c) = false := by simpa using h
    go_enter Try.func10, Try.ntmps10
    go_wp2
    go_ret
    exact ⟨rfl, rfl⟩
  · have h' : 65 ≤ c := by omega
    have h'' : decide (c ≤ 90) = false := by simpa using h
    go_enter Try.func10, Try.ntmps10
    go_wp2
    go_ret
    exact ⟨rfl, rfl⟩

theorem dig_at : ∀ (k : Nat) (h : k < ByteArray.size ⟨#[48, 49, 50, 51, 52, 53, 54, 55, 56, 57]⟩), (((⟨#[48, 49, 50, 51, 52, 53, 54, 55, 56, 57]⟩ : ByteArray)[k]'h).toNat : Int) = 48 + (k : Int)
  | 0, _ => rfl
  | 1, _ => rfl
  | 2, _ => rfl
  | 3, _ => rfl
  | 4, _ => rfl
  | 5, _ => rfl
  | 6, _ => rfl
  | 7, _ => rfl
  | 8, _ => rfl
  | 9, _ => rfl
  | k + 10, h => by
    have : k + 10 < 10 := h
    omega

theorem not_digit {x c : Int} (h : (x == c) = false) : x ≠ c := by simpa using h
theorem is_digit {x c : Int} (h : (x == c) = true) : x = c := by simpa using h

set_option maxHeartbeats 400000 in
theorem inDec_yes (c : Int) (w : World) (h0 : 48 ≤ c) (h1 : c ≤ 57) :
    Calls Try.prog 11 #[.int .u8 c] w fun e w' => e = .returned (.bool true) ∧ w' = w := by
  go_enter Try.func11, Try.ntmps11
  go_wp2
  go_loop [3] (fun i => ∃ k : Nat, (k : Int) ≤ c - 48 ∧ i = .int .i64 k) (fun i => 10 - (intOf i).toNat)
  case atStart => exact ⟨0, by omega, rfl⟩
  case round =>
    obtain ⟨k, hk, rfl⟩ := hrel
    have hlt : (k : Int) < 10 := by omega
    go_wp2
    · go_ret
      exact ⟨rfl, rfl⟩
    · have hne := not_digit ‹_›
      rw [dig_at] at hne
      go_round
      case rel => exact ⟨k + 1, by omega, by go_num⟩
      case measure => simp [intOf]; omega

set_option maxHeartbeats 400000 in
theorem inDec_no (c : Int) (w : World) (h : c < 48 ∨ 57 < c) :
    Calls Try.prog 11 #[.int .u8 c] w fun e w' => e = .returned (.bool false) ∧ w' = w := by
  have H : Hid (c < 48 ∨ 57 < c) := h
  clear h
  go_enter Try.func11, Try.ntmps11
  go_wp2
  go_loop [3] (fun i => ∃ k : Nat, (k : Int) ≤ 10 ∧ i = .int .i64 k) (fun i => 10 - (intOf i).toNat)
  case atStart => exact ⟨0, by omega, rfl⟩
  case round =>
    obtain ⟨k, hk, rfl⟩ := hrel
    by_cases hlt : (k : Int) < 10
    · go_wp2
      · exfalso
        have he := is_digit ‹_›
        rw [dig_at] at he
        have := H.out
        omega
      · go_round
        case rel => exact ⟨k + 1, by omega, by go_num⟩
        case measure => simp [intOf]; omega
    · go_wp2
      go_ret
      exact ⟨rfl, rfl⟩
end Go.Proofs.Qxb6616489a
