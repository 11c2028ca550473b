/-
  The laws' comparisons: zzSameU32, zzSameI32, zzSameStrings.
-/
import Derived.Test.Qxb6618911aGreatProg
import Derived.Test.Qxb6618911aGreatVoc
import Derived.WalkKit
import Derived.WalkSpells
import Derived.WalkLawsBesides
import Derived.Deep.QuietTactic
import Derived.BigQuiet
namespace Go.Proofs.Qxb6618911aGreat
open Go.RowKit

set_option maxRecDepth 20000 in
set_option maxHeartbeats 1000000 in
theorem sameU32_true (a b : Option Addr) (B B' n c1 c2 : Nat) (f : Nat → Int) (w : World) (hn : n ≤ 1000000) (h1 : Row w 0 B a n (fun i => .int .u32 (f i))) (h2 : Row w 0 B' b n (fun i => .int .u32 (f i))) :
    Calls Tryz.prog 26 #[.slice a n c1, .slice b n c2] w fun e w' => e = .returned (.bool true) ∧ Alk w' w := by
  have H1 : Hid (Row w 0 B a n (fun i => .int .u32 (f i))) := h1
  have H2 : Hid (Row w 0 B' b n (fun i => .int .u32 (f i))) := h2
  clear h1 h2
  go_enter Tryz.func26, Tryz.ntmps26
  go_wp2
  go_loopw [5] (fun i wr => ∃ k : Nat, k ≤ n ∧ i = .int .i64 k ∧ Alk wr w) (fun i _ => n - (intOf i).toNat)
  case atStart => exact ⟨0, Nat.zero_le _, rfl, Alk.refl _⟩
  case round =>
    obtain ⟨k, hk, rfl, ha⟩ := hrel
    by_cases hlt : k < n
    · obtain ⟨bl, ol, rfl, hl⟩ := H1.out.cell hlt
      obtain ⟨bh, oh, rfl, hh⟩ := H2.out.cell hlt
      rw [← ha.cell] at hl hh
      have HA : Hid (Alk wr w) := ha
      clear ha
      have hlt' : (k : Int) < (n : Int) := by omega
      go_wp2
      go_quiet (fail)
      go_wp2
      go_roundw
      case rel => exact ⟨k + 1, by omega, by go_num, (Alk.drewN _ _).trans HA.out⟩
      case measure => simp [intOf]; omega
    · obtain rfl : n = k := by omega
      go_wp2
      go_ret
      exact ⟨rfl, ha⟩

set_option maxRecDepth 20000 in
set_option maxHeartbeats 1000000 in
theorem sameStr_drew (a b : Option Addr) (B B' n c1 c2 : Nat) (f : Nat → ByteArray) (w : World) (hn : n ≤ 1000000) (h1 : Row w 0 B a n (fun i => .string (f i))) (h2 : Row w 0 B' b n (fun i => .string (f i))) :
    Calls Tryz.prog 21 #[.slice a n c1, .slice b n c2] w fun e w' => e = .returned (.bool true) ∧ ∃ m, w' = w.drewN m := by
  have H1 : Hid (Row w 0 B a n (fun i => .string (f i))) := h1
  have H2 : Hid (Row w 0 B' b n (fun i => .string (f i))) := h2
  clear h1 h2
  go_enter Tryz.func21, Tryz.ntmps21
  go_wp2
  go_loopw [5] (fun i wr => ∃ k : Nat, k ≤ n ∧ i = .int .i64 k ∧ Hid (∃ m, wr = w.drewN m)) (fun i _ => n - (intOf i).toNat)
  case atStart => exact ⟨0, Nat.zero_le _, rfl, 0, rfl⟩
  case round =>
    obtain ⟨k, hk, rfl, ha⟩ := hrel
    by_cases hlt : k < n
    · obtain ⟨bl, ol, rfl, hl⟩ := H1.out.cell hlt
      obtain ⟨bh, oh, rfl, hh⟩ := H2.out.cell hlt
      obtain ⟨m, hm⟩ := ha.out
      rw [← World.cell?_drewN (w := w) (n := m), ← hm] at hl hh
      clear ha
      have HM : Hid (wr = w.drewN m) := hm
      clear hm
      have hlt' : (k : Int) < (n : Int) := by omega
      go_wp2
      go_quiet (fail)
      go_wp2
      go_roundw
      case rel => exact ⟨k + 1, by omega, by go_num, _, by rw [HM.out, World.drewN_drewN]⟩
      case measure => simp [intOf]; omega
    · obtain rfl : n = k := by omega
      go_wp2
      go_ret
      exact ⟨rfl, ha.out⟩

theorem sameStr_true (a b : Option Addr) (B B' n c1 c2 : Nat) (f : Nat → ByteArray) (w : World) (hn : n ≤ 1000000) (h1 : Row w 0 B a n (fun i => .string (f i))) (h2 : Row w 0 B' b n (fun i => .string (f i))) :
    Calls Tryz.prog 21 #[.slice a n c1, .slice b n c2] w fun e w' => e = .returned (.bool true) ∧ Alk w' w :=
  (sameStr_drew a b B B' n c1 c2 f w hn h1 h2).mono (by rintro e w' ⟨h, m, rfl⟩; exact ⟨h, Alk.drewN _ _⟩)

set_option maxRecDepth 20000 in
set_option maxHeartbeats 1000000 in
theorem sameI32_any (a b : Option Addr) (B B' n m c1 c2 : Nat) (f g : Nat → Int) (w : World) (hn : n ≤ 1000000) (hm : m ≤ 1000000) (h1 : Row w 0 B a n (fun i => .int .i32 (f i))) (h2 : Row w 0 B' b m (fun i => .int .i32 (g i))) :
    Calls Tryz.prog 28 #[.slice a n c1, .slice b m c2] w fun e w' => (∃ r, e = .returned (.bool r) ∧ (r = true ↔ n = m ∧ ∀ i, i < n → f i = g i)) ∧ Alk w' w := by
  have H1 : Hid (Row w 0 B a n (fun i => .int .i32 (f i))) := h1
  have H2 : Hid (Row w 0 B' b m (fun i => .int .i32 (g i))) := h2
  clear h1 h2
  by_cases hnm : n = m
  case neg =>
    have c1' : ((n : Int) != (m : Int)) = true := by simpa using (show ¬ (n : Int) = m by omega)
    go_enter Tryz.func28, Tryz.ntmps28
    go_wp2
    go_ret
    exact ⟨⟨false, rfl, by simp [hnm]⟩, Alk.refl _⟩
  subst hnm
  go_enter Tryz.func28, Tryz.ntmps28
  go_wp2
  go_loopw [5] (fun i wr => ∃ k : Nat, k ≤ n ∧ i = .int .i64 k ∧ Alk wr w ∧ Hid (∀ i, i < k → f i = g i)) (fun i _ => n - (intOf i).toNat)
  case atStart => exact ⟨0, Nat.zero_le _, rfl, Alk.refl _, fun i hi => by omega⟩
  case round =>
    obtain ⟨k, hk, rfl, ha, hs⟩ := hrel
    by_cases hlt : k < n
    · obtain ⟨bl, ol, rfl, hl⟩ := H1.out.cell hlt
      obtain ⟨bh, oh, rfl, hh⟩ := H2.out.cell hlt
      rw [← ha.cell] at hl hh
      have HA : Hid (Alk wr w) := ha
      clear ha
      have hlt' : (k : Int) < (n : Int) := by omega
      by_cases e : f k = g k
      · have e' : (f k != g k) = false := by simpa using e
        have E : Hid (f k = g k) := e
        clear e
        go_wp2
        go_quiet (fail)
        go_wp2
        go_roundw
        case rel => exact ⟨k + 1, by omega, by go_num, (Alk.drewN _ _).trans HA.out, fun i hi => by
          by_cases e : i = k
          · subst e; exact E.out
          · exact hs.out i (by omega)⟩
        case measure => simp [intOf]; omega
      · have e' : (f k != g k) = true := by simpa using e
        have E : Hid (¬ f k = g k) := e
        clear e
        go_wp2
        go_quiet (fail)
        go_wp2
        go_ret
        exact ⟨⟨false, rfl, by simp; exact ⟨k, hlt, E.out⟩⟩, (Alk.drewN _ _).trans HA.out⟩
    · obtain rfl : n = k := by omega
      go_wp2
      go_ret
      exact ⟨⟨true, rfl, by simp; exact hs.out⟩, ha⟩
end Go.Proofs.Qxb6618911aGreat
