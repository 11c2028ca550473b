/-
  The bounds on total length, walked.
-/
import Derived.Test.Qxb6618911aGreatProg
import Derived.Test.Qxb6618911aGreatVoc
import Derived.WalkKit
import Derived.WalkSpells
import Derived.WalkLawsBesides
namespace Go.Proofs.Qxb6618911aGreat
open Go.RowKit

set_option maxRecDepth 20000 in
set_option maxHeartbeats 1000000 in
theorem bytes5_any (an : Option Addr) (lo hi nn cn : Nat) (N : Nat → ByteArray) (al ah ar : Option Addr) (nl cl nh ch ns cs : Nat) (w : World) (h0 : nn ≤ maxLen) (h1 : nl ≤ maxLen) (h2 : nh ≤ maxLen) (h3 : ns ≤ maxLen) (hz : ∀ i, i < nn → (N i).size ≤ maxLen) (hr : Row w lo hi an nn (fun i => .string (N i))) :
    Calls Tryz.prog 5 #[.slice an nn cn, .slice al nl cl, .slice ah nh ch, .slice ar ns cs] w fun e w' => Ans e (∀ i, i < nn → (N i).size ≤ 1048576) ∧ w' = w := by
  unfold maxLen at h0 h1 h2 h3
  have HR : Hid (Row w lo hi an nn (fun i => .string (N i))) := hr
  have HZ : Hid (∀ i, i < nn → (N i).size ≤ maxLen) := hz
  clear hr hz
  by_cases c1 : 1048576 < nn
  · go_enter Tryz.func5, Tryz.ntmps5
    go_wp2
    go_ret
    exact ⟨Ans.no _, rfl⟩
  go_enter Tryz.func5, Tryz.ntmps5
  go_wp2
  go_loop [9, 10] (fun z i => ∃ k : Nat, k ≤ nn ∧ i = .int .i64 k ∧ ∃ m : Int, z = .int .i64 m ∧ 0 ≤ m ∧ m ≤ 1048576 ∧ Hid (∀ i, i < k → (N i).size ≤ 1048576)) (fun _ i => nn - (intOf i).toNat)
  case atStart => exact ⟨0, Nat.zero_le _, rfl, _, rfl, by omega, by omega, fun i hi => by omega⟩
  case round =>
    obtain ⟨k, hk, rfl, m, rfl, m0, m1, hs⟩ := hrel
    by_cases hlt : k < nn
    · obtain ⟨b, off, rfl, hc⟩ := HR.out.cell hlt
      have hlt' : (k : Int) < (nn : Int) := by omega
      have hsz := HZ.out k hlt
      unfold maxLen at hsz
      go_wp2
      all_goals first
        | (go_ret; exact ⟨Ans.no _, rfl⟩)
        | (go_round
           case rel => exact ⟨k + 1, by omega, by go_num, _, rfl, by omega, by omega, fun i hi => by
            by_cases e : i = k
            · subst e; omega
            · exact hs.out i (by omega)⟩
           case measure => simp [intOf]; omega)
    · obtain rfl : nn = k := by omega
      go_wp2
      all_goals first
        | (go_ret; exact ⟨Ans.no _, rfl⟩)
        | (go_ret; exact ⟨Ans.yes hs.out, rfl⟩)

set_option maxRecDepth 20000 in
set_option maxHeartbeats 1000000 in
theorem bytes25_any (an : Option Addr) (lo hi nn cn : Nat) (N : Nat → ByteArray) (al ah ar : Option Addr) (nl cl nh ch ns cs : Nat) (cut : Int) (w : World) (h0 : nn ≤ maxLen) (h1 : nl ≤ maxLen) (h2 : nh ≤ maxLen) (h3 : ns ≤ maxLen) (hz : ∀ i, i < nn → (N i).size ≤ maxLen) (hr : Row w lo hi an nn (fun i => .string (N i))) :
    Calls Tryz.prog 25 #[.slice an nn cn, .slice al nl cl, .slice ah nh ch, .slice ar ns cs, .int .i64 cut] w fun e w' => Ans e (∀ i, i < nn → (N i).size ≤ 1048576) ∧ w' = w := by
  unfold maxLen at h0 h1 h2 h3
  have HR : Hid (Row w lo hi an nn (fun i => .string (N i))) := hr
  have HZ : Hid (∀ i, i < nn → (N i).size ≤ maxLen) := hz
  clear hr hz
  by_cases c1 : 1048576 < nn
  · go_enter Tryz.func25, Tryz.ntmps25
    go_wp2
    go_ret
    exact ⟨Ans.no _, rfl⟩
  go_enter Tryz.func25, Tryz.ntmps25
  go_wp2
  go_loop [11, 12] (fun z i => ∃ k : Nat, k ≤ nn ∧ i = .int .i64 k ∧ ∃ m : Int, z = .int .i64 m ∧ 0 ≤ m ∧ m ≤ 1048576 ∧ Hid (∀ i, i < k → (N i).size ≤ 1048576)) (fun _ i => nn - (intOf i).toNat)
  case atStart => exact ⟨0, Nat.zero_le _, rfl, _, rfl, by omega, by omega, fun i hi => by omega⟩
  case round =>
    obtain ⟨k, hk, rfl, m, rfl, m0, m1, hs⟩ := hrel
    by_cases hlt : k < nn
    · obtain ⟨b, off, rfl, hc⟩ := HR.out.cell hlt
      have hlt' : (k : Int) < (nn : Int) := by omega
      have hsz := HZ.out k hlt
      unfold maxLen at hsz
      go_wp2
      all_goals first
        | (go_ret; exact ⟨Ans.no _, rfl⟩)
        | (go_round
           case rel => exact ⟨k + 1, by omega, by go_num, _, rfl, by omega, by omega, fun i hi => by
            by_cases e : i = k
            · subst e; omega
            · exact hs.out i (by omega)⟩
           case measure => simp [intOf]; omega)
    · obtain rfl : nn = k := by omega
      go_wp2
      all_goals first
        | (go_ret; exact ⟨Ans.no _, rfl⟩)
        | (go_ret; exact ⟨Ans.yes hs.out, rfl⟩)

set_option maxRecDepth 20000 in
set_option maxHeartbeats 1000000 in
theorem fit_any (an : Option Addr) (lo hi nn cn : Nat) (N : Nat → ByteArray) (al ah ar : Option Addr) (nl cl nh ch ns cs : Nat) (w : World) (h0 : nn ≤ 4096) (h1 : nl ≤ 1024) (h2 : nh ≤ 1024) (h3 : ns ≤ 1024) (hz : ∀ i, i < nn → (N i).size ≤ 1048576) (hr : Row w lo hi an nn (fun i => .string (N i))) :
    Calls Tryz.prog 6 #[.slice an nn cn, .slice al nl cl, .slice ah nh ch, .slice ar ns cs] w fun e w' => Ans e True ∧ w' = w := by
  have HR : Hid (Row w lo hi an nn (fun i => .string (N i))) := hr
  have HZ : Hid (∀ i, i < nn → (N i).size ≤ 1048576) := hz
  clear hr hz
  go_enter Tryz.func6, Tryz.ntmps6
  go_wp2
  go_loop [9, 10] (fun z i => ∃ k : Nat, k ≤ nn ∧ i = .int .i64 k ∧ ∃ m : Int, z = .int .i64 m ∧ 0 ≤ m ∧ m ≤ 1048576) (fun _ i => nn - (intOf i).toNat)
  case atStart => exact ⟨0, Nat.zero_le _, rfl, _, rfl, by omega, by omega⟩
  case round =>
    obtain ⟨k, hk, rfl, m, rfl, m0, m1⟩ := hrel
    by_cases hlt : k < nn
    · obtain ⟨b, off, rfl, hc⟩ := HR.out.cell hlt
      have hlt' : (k : Int) < (nn : Int) := by omega
      have hsz := HZ.out k hlt
      go_wp2
      all_goals first
        | (go_ret; exact ⟨Ans.no _, rfl⟩)
        | (go_round
           case rel => exact ⟨k + 1, by omega, by go_num, _, rfl, by omega, by omega⟩
           case measure => simp [intOf]; omega)
    · go_wp2
      go_ret
      exact ⟨Ans.yes trivial, rfl⟩

end Go.Proofs.Qxb6618911aGreat
