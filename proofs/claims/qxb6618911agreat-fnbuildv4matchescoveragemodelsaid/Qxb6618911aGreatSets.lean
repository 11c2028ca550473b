/-
  zzSameSets.
-/
import Derived.Test.Qxb6618911aGreatSame
import Derived.Deep.RegionWith
import Derived.Deep.DeepMust
import Derived.Deep.CutBlock
import Derived.Deep.DeepCutAuto
namespace Go.Proofs.Qxb6618911aGreat
open Go.RowKit

/-- Two slices of strings that read alike: both nil or neither. -/
def TwinS (w : World) (B B' : Nat) (x y : Value) : Prop :=
  ∃ (aa bb : Option Addr) (m ca cb : Nat) (f : Nat → ByteArray), x = .slice aa m ca ∧ y = .slice bb m cb ∧ (aa = none ↔ bb = none) ∧ (aa = none → m = 0 ∧ ca = 0 ∧ cb = 0) ∧ m ≤ 1000000 ∧ Row w 0 B aa m (fun i => .string (f i)) ∧ Row w 0 B' bb m (fun i => .string (f i))

set_option maxRecDepth 20000 in
set_option maxHeartbeats 1000000 in
theorem sameSets_true (a b : Option Addr) (B B' n c1 c2 : Nat) (f g : Nat → Value) (w : World) (hn : n ≤ 1000000) (h1 : Row w 0 B a n f) (h2 : Row w 0 B' b n g) (h3 : ∀ i, i < n → TwinS w B B' (f i) (g i)) :
    Calls Tryz.prog 27 #[.slice a n c1, .slice b n c2] w fun e w' => e = .returned (.bool true) ∧ Alk w' w := by
  have H1 : Hid (Row w 0 B a n f) := h1
  have H2 : Hid (Row w 0 B' b n g) := h2
  have H3 : Hid (∀ i, i < n → TwinS w B B' (f i) (g i)) := h3
  clear h1 h2 h3
  have q0 : ∀ w : World, Sem.run Tryz.prog (binOp .eql 22 (.slice none 0 0) (.slice none 0 0)) w = .ok (.bool true) w := fun w => rfl
  have q1 : ∀ (a : Addr) (m c : Nat) (w : World), Sem.run Tryz.prog (binOp .eql 22 (.slice (some a) m c) (.slice none 0 0)) w = .ok (.bool false) w := fun a m c w => rfl
  go_enter Tryz.func27, Tryz.ntmps27
  go_wp2
  go_loopw [5] (fun i wr => ∃ k : Nat, k ≤ n ∧ i = .int .i64 k ∧ Alk wr w) (fun i _ => n - (intOf i).toNat)
  case atStart => exact ⟨0, Nat.zero_le _, rfl, Alk.refl _⟩
  case round =>
    obtain ⟨k, hk, rfl, ha⟩ := hrel
    by_cases hlt : k < n
    · obtain ⟨bl, ol, rfl, hl⟩ := H1.out.cell hlt
      obtain ⟨bh, oh, rfl, hh⟩ := H2.out.cell hlt
      obtain ⟨aa, bb, m, ca, cb, s, e1, e2, e3, e4, hm, r1, r2⟩ := H3.out k hlt
      rw [← ha.cell] at hl hh
      rw [e1] at hl
      rw [e2] at hh
      clear e1 e2
      have HA : Hid (Alk wr w) := ha
      have hlt' : (k : Int) < (n : Int) := by omega
      have hcall : ∀ q, Calls Tryz.prog 21 #[.slice aa m ca, .slice bb m cb] (wr.drewN q) fun e w' => e = .returned (.bool true) ∧ ∃ m, w' = (wr.drewN q).drewN m := fun q =>
        sameStr_drew aa bb B B' m ca cb s (wr.drewN q) hm (r1.of_blocks fun b _ _ => by rw [World.heap_drewN, ha.heap]) (r2.of_blocks fun b _ _ => by rw [World.heap_drewN, ha.heap])
      clear ha r1 r2
      rcases aa with _ | aa
      · obtain rfl : bb = none := e3.1 rfl
        obtain ⟨rfl, rfl, rfl⟩ := e4 rfl
        clear e3 e4
        go_wp2
        go_quiet ((go_at_call 21; exact Calls.quiet_of (hcall _)))
        go_wp2
        go_roundw
        case rel => exact ⟨k + 1, by omega, by go_num, (Alk.drewN _ _).trans HA.out⟩
        case measure => simp [intOf]; omega
      · obtain ⟨bb, rfl⟩ : ∃ q, bb = some q := by
          rcases bb with _ | q
          · exact absurd (e3.2 rfl) (by simp)
          · exact ⟨q, rfl⟩
        clear e3 e4
        go_wp2
        go_quiet ((go_at_call 21; exact Calls.quiet_of (hcall _)))
        go_wp2
        go_roundw
        case rel => exact ⟨k + 1, by omega, by go_num, (Alk.drewN _ _).trans HA.out⟩
        case measure => simp [intOf]; omega
    · obtain rfl : n = k := by omega
      go_wp2
      go_ret
      exact ⟨rfl, ha⟩
end Go.Proofs.Qxb6618911aGreat
