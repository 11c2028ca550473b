import Derived.Test.Qxb6618555aProg
import Derived.WalkKit
import Derived.WalkSpells
import Derived.WalkLawsBesides
namespace Go.Proofs.Qxb6618555a
open Go.RowKit

/-- The steps as the walk reads them. -/
def Steps (w : World) (ao : Option Addr) (n : Nat) (R Q : Nat → Int) : Prop :=
  n ≤ maxLen ∧ ∀ i, i < n → ∃ b off, ao = some ⟨b, off, none⟩ ∧ w.cell? ⟨b, off + i * 2, none⟩ = some (.int .i64 (R i)) ∧ w.cell? ⟨b, off + i * 2 + 1, none⟩ = some (.int .i64 (Q i))

/-- It answers a bool; where the answer is true, p holds. -/
def Ans (e : Ending) (p : Prop) : Prop := ∃ b, e = .returned (.bool b) ∧ (b = true → p)

theorem Ans.no (p : Prop) : Ans (.returned (.bool false)) p := ⟨false, rfl, fun h => by cases h⟩

def Dom (h : Int) (R Q : Nat → Int) (n : Nat) : Prop :=
  0 ≤ h ∧ h ≤ 65536 ∧ ∀ i, i < n → 0 ≤ R i ∧ R i ≤ 65536 ∧ (0 < R i → 0 ≤ Q i ∧ Q i < R i)

def mx (h : Int) (R : Nat → Int) : Nat → Int
  | 0 => h
  | k + 1 => if mx h R k < R k then R k else mx h R k

set_option maxHeartbeats 400000 in
theorem maxStep_any (h : Int) (ao : Option Addr) (n cap : Nat) (R Q : Nat → Int) (w : World) (hs : Steps w ao n R Q) :
    Calls Try.prog 9 #[.int .i64 h, .slice ao n cap] w fun e w' => e = .returned (.int .i64 (mx h R n)) ∧ w' = w := by
  obtain ⟨hn, hs⟩ := hs
  unfold maxLen at hn
  go_enter Try.func9, Try.ntmps9
  go_wp2
  go_loop [5, 6] (fun m i => ∃ k : Nat, k ≤ n ∧ i = .int .i64 k ∧ m = .int .i64 (mx h R k)) (fun _ i => n - (intOf i).toNat)
  case atStart => exact ⟨0, Nat.zero_le _, rfl, rfl⟩
  case round =>
    obtain ⟨k, hk, rfl, rfl⟩ := hrel
    by_cases hlt : k < n
    · obtain ⟨b, off, rfl, h0, h1⟩ := hs k hlt
      have HS : Hid (mx h R (k + 1) = if mx h R k < R k then R k else mx h R k) := rfl
      clear hs
      go_wp2
      all_goals
        go_round
        case rel => exact ⟨k + 1, by omega, by go_num, by rw [HS.out]; first | rw [if_pos ‹_›] | rw [if_neg (by omega)]⟩
        case measure => simp [intOf]; omega
    · go_wp2
      go_ret
      have : k = n := by omega
      subst this
      exact ⟨rfl, rfl⟩

set_option maxHeartbeats 400000 in
theorem bytes5_any (h : Int) (ao : Option Addr) (n cap : Nat) (w : World) (hn : n ≤ maxLen) :
    Calls Try.prog 5 #[.int .i64 h, .slice ao n cap] w fun e w' => Ans e True ∧ w' = w := by
  unfold maxLen at hn
  go_enter Try.func5, Try.ntmps5
  go_wp2
  all_goals
    go_ret
    exact ⟨⟨_, rfl, fun _ => trivial⟩, rfl⟩

set_option maxHeartbeats 400000 in
theorem bytes14_any (h : Int) (ao : Option Addr) (n cap : Nat) (w : World) (hn : n ≤ maxLen) :
    Calls Try.prog 14 #[.int .i64 h, .slice ao n cap] w fun e w' => Ans e True ∧ w' = w := by
  unfold maxLen at hn
  go_enter Try.func14, Try.ntmps14
  go_wp2
  all_goals
    go_ret
    exact ⟨⟨_, rfl, fun _ => trivial⟩, rfl⟩

set_option maxHeartbeats 1000000 in
theorem domain_any (h : Int) (ao : Option Addr) (n cap : Nat) (R Q : Nat → Int) (w : World) (hs : Steps w ao n R Q) :
    Calls Try.prog 6 #[.int .i64 h, .slice ao n cap] w fun e w' => Ans e (Dom h R Q n) ∧ w' = w := by
  obtain ⟨hn, hs⟩ := hs
  unfold maxLen at hn
  by_cases c1 : h < 0
  · go_enter Try.func6, Try.ntmps6
    go_wp2
    go_ret
    exact ⟨Ans.no _, rfl⟩
  by_cases c2 : 65536 < h
  · go_enter Try.func6, Try.ntmps6
    go_wp2
    go_ret
    exact ⟨Ans.no _, rfl⟩
  go_enter Try.func6, Try.ntmps6
  go_wp2
  go_loop [5] (fun i => ∃ k : Nat, k ≤ n ∧ i = .int .i64 k ∧ Hid (∀ i, i < k → 0 ≤ R i ∧ R i ≤ 65536 ∧ (0 < R i → 0 ≤ Q i ∧ Q i < R i))) (fun i => n - (intOf i).toNat)
  case atStart => exact ⟨0, Nat.zero_le _, rfl, fun i hi => by omega⟩
  case round =>
    obtain ⟨k, hk, rfl, hd⟩ := hrel
    by_cases hlt : k < n
    · obtain ⟨b, off, rfl, h0, h1⟩ := hs k hlt
      clear hs
      go_wp2
      all_goals first
        | (go_ret; exact ⟨Ans.no _, rfl⟩)
        | (go_round
           case rel => exact ⟨k + 1, by omega, by go_num, fun i hi => by
            by_cases e : i = k
            · subst e; exact ⟨by omega, by omega, fun _ => ⟨by omega, by omega⟩⟩
            · exact hd.out i (by omega)⟩
           case measure => simp [intOf]; omega)
    · go_wp2
      go_ret
      have : k = n := by omega
      subst this
      exact ⟨⟨_, rfl, fun _ => ⟨by omega, by omega, hd.out⟩⟩, rfl⟩
end Go.Proofs.Qxb6618555a
