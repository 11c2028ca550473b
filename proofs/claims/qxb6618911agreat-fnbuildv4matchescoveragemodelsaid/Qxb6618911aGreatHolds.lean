/-
  zzRunHolds, where the run holds the name.
-/
import Derived.Test.Qxb6618911aGreatSame
import Derived.Deep.LoopGhost
namespace Go.Proofs.Qxb6618911aGreat
open Go.RowKit

set_option maxRecDepth 20000 in
set_option maxHeartbeats 1000000 in
theorem runHolds_true (sa ua ta g : Option Addr) (B n m q c1 c2 c3 cq : Nat) (st nu : Nat → Int) (ts : Nat → Value) (f : Nat → ByteArray) (a : Int) (want : ByteArray) (w : World) (hn : n ≤ 1000000) (hm : m ≤ 1000000) (hq : q ≤ 1000000)
    (h1 : Row w 0 B sa n (fun i => .int .u32 (st i))) (h2 : Row w 0 B ua n (fun i => .int .u32 (nu i))) (h3 : Row w 0 B ta m ts) (r : Nat) (hr : r < n) (hle : st r ≤ a) (hgt : ∀ i, r < i → i < n → a < st i)
    (k : Nat) (hk : nu r = k) (hkm : k < m) (hs : ts k = .slice g q cq) (h4 : Row w 0 B g q (fun i => .string (f i))) (hw : ∃ j, j < q ∧ f j = want) :
    Calls Tryz.prog 30 #[.slice sa n c1, .slice ua n c2, .slice ta m c3, .int .u32 a, .string want] w fun e w' => e = .returned (.bool true) ∧ Alk w' w := by
  have H1 : Hid (Row w 0 B sa n (fun i => .int .u32 (st i))) := h1
  have H4 : Hid (Row w 0 B g q (fun i => .string (f i))) := h4
  have HG : Hid (st r ≤ a ∧ ∀ i, r < i → i < n → a < st i) := ⟨hle, hgt⟩
  have HW : Hid (∃ j, j < q ∧ f j = want) := hw
  obtain ⟨ub, uo, rfl, hu⟩ := h2.cell hr
  obtain ⟨tb, to, rfl, ht⟩ := h3.cell hkm
  rw [hk] at hu
  rw [hs] at ht
  have hkm' : (k : Int) < (m : Int) := by omega
  have hrn' : (r : Int) < (n : Int) := by omega
  clear h1 h2 h3 h4 hgt hw hle hk hs
  go_enter Tryz.func30, Tryz.ntmps30
  go_wp2
  go_loopg [11, 12] n (fun gk x11 x12 wr => ∃ (i : Nat) (v : Int), i ≤ n ∧ gk = n - i ∧ x11 = .int .i64 v ∧ x12 = .int .i64 i ∧ wr = w ∧ Hid (r < i → v = r))
  case atStart => exact ⟨0, -1, by omega, rfl, rfl, rfl, rfl, fun h => by omega⟩
  case round =>
    obtain ⟨i, v, hi, hgk, rfl, rfl, rfl, HV⟩ := hrel
    by_cases hlt : i < n
    · have hlt' : (i : Int) < (n : Int) := by omega
      obtain ⟨bl, ol, rfl, hl⟩ := H1.out.cell hlt
      by_cases hc : st i ≤ a
      · have HC : Hid (st i ≤ a) := hc
        go_wp2
        go_roundg (n - (i + 1))
        case measure => omega
        case rel => exact ⟨i + 1, i, by omega, rfl, rfl, by go_num, rfl, fun h => by
          rcases Nat.lt_or_ge r i with h2 | h2
          · have := HG.out.2 i h2 hlt; have := HC.out; omega
          · omega⟩
      · have hc' : decide (st i ≤ a) = false := by simpa using hc
        have HC : Hid (¬ st i ≤ a) := hc
        clear hc
        go_wp2
        go_roundg (n - (i + 1))
        case measure => omega
        case rel => exact ⟨i + 1, v, by omega, rfl, rfl, by go_num, rfl, fun h => by
          by_cases e : r = i
          · subst e; have h1 := HG.out.1; have h2 := HC.out; omega
          · exact HV.out (by omega)⟩
    · obtain rfl : n = i := by omega
      obtain rfl : v = r := HV.out hr
      clear HV
      have h0 : ¬ ((r : Int) < 0) := by omega
      have hnn : ¬ ((n : Int) ≤ (r : Int)) := by omega
      have hmm : ¬ ((m : Int) ≤ (k : Int)) := by omega
      go_wp2
      go_loopg [15, 52] q (fun gk x15 x52 wr2 => ∃ (i : Nat), i ≤ q ∧ gk = q - i ∧ x52 = .int .i64 i ∧ wr2 = wr ∧ Hid (∀ j, j < i → f j ≠ want))
      case atStart => exact ⟨0, by omega, rfl, rfl, rfl, fun j h => by omega⟩
      case round =>
        obtain ⟨i, hi, hgk, rfl, rfl, HN⟩ := hrel
        by_cases hlt2 : i < q
        · have hlt2' : (i : Int) < (q : Int) := by omega
          obtain ⟨bl, ol, rfl, hl⟩ := H4.out.cell hlt2
          rcases e : ((f i).toList == want.toList) with _ | _
          case true =>
            go_wp2
            go_ret
            exact ⟨rfl, Alk.refl _⟩
          case false =>
            have E : Hid (f i ≠ want) := by
              rintro rfl
              simp at e
            go_wp2
            go_roundg (q - (i + 1))
            case measure => omega
            case rel => exact ⟨i + 1, by omega, rfl, by go_num, rfl, fun j h => by
              by_cases e : j = i
              · subst e; exact E.out
              · exact HN.out j (by omega)⟩
        · exfalso
          obtain ⟨j, h1, h2⟩ := HW.out
          exact HN.out j (by omega) h2
end Go.Proofs.Qxb6618911aGreat
