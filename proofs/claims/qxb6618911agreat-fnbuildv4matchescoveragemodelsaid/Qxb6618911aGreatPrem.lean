/-
  zzBuildPremise, walked.
-/
import Derived.Test.Qxb6618911aGreatProg
import Derived.Test.Qxb6618911aGreatVoc
import Derived.WalkKit
import Derived.WalkSpells
import Derived.WalkLawsBesides
import Derived.Deep.QuietTactic
import Derived.BigQuiet
namespace Go.Proofs.Qxb6618911aGreat
open Go.RowKit

/-- What the laws ask of their arguments. -/
structure Prem (nn n : Nat) (N : Nat → ByteArray) (lo hi sr : Nat → Int) : Prop where
  span : ∀ i, i < n → lo i ≤ hi i ∧ 0 ≤ sr i ∧ sr i < nn
  names : ∀ i, i < nn → ∀ j, j < i → N i ≠ N j

theorem str_ne {a b : ByteArray} (h : (a.toList == b.toList) = false) : a ≠ b := by
  rintro rfl
  simp at h

set_option maxRecDepth 20000 in
set_option maxHeartbeats 1000000 in
theorem prem_any (an al ah ar : Option Addr) (B nn cn nl cl nh ch ns cs : Nat) (N : Nat → ByteArray) (lo hi sr : Nat → Int) (w : World) (h0 : nn ≤ 4096) (h1 : nl ≤ 1024) (h2 : nh ≤ 1024) (h3 : ns ≤ 1024)
    (rn : Row w 0 B an nn (fun i => .string (N i))) (rl : Row w 0 B al nl (fun i => .int .u32 (lo i))) (rh : Row w 0 B ah nh (fun i => .int .u32 (hi i))) (rs : Row w 0 B ar ns (fun i => .int .i32 (sr i))) (hsr : ∀ i, i < ns → sr i ≤ 2147483647) :
    Calls Tryz.prog 7 #[.slice an nn cn, .slice al nl cl, .slice ah nh ch, .slice ar ns cs] w fun e w' => Ans e (nh = nl ∧ ns = nl ∧ Prem nn nl N lo hi sr) ∧ Alk w' w := by
  by_cases c1 : nh = nl
  case neg =>
    have c1' : ((nh : Int) != (nl : Int)) = true := by simpa using (show ¬ (nh : Int) = nl by omega)
    clear c1
    go_enter Tryz.func7, Tryz.ntmps7
    go_wp2
    go_ret
    exact ⟨Ans.no _, Alk.refl _⟩
  by_cases c2 : ns = nl
  case neg =>
    subst c1
    have c2' : ((ns : Int) != (nh : Int)) = true := by simpa using (show ¬ (ns : Int) = nh by omega)
    clear c2
    go_enter Tryz.func7, Tryz.ntmps7
    go_wp2
    go_ret
    exact ⟨Ans.no _, Alk.refl _⟩
  subst c1
  subst c2
  have RN : Hid (Row w 0 B an nn (fun i => .string (N i))) := rn
  have RL : Hid (Row w 0 B al ns (fun i => .int .u32 (lo i))) := rl
  have RH : Hid (Row w 0 B ah ns (fun i => .int .u32 (hi i))) := rh
  have RS : Hid (Row w 0 B ar ns (fun i => .int .i32 (sr i))) := rs
  have HU : Hid (∀ i, i < ns → sr i ≤ 2147483647) := hsr
  clear rn rl rh rs hsr
  go_enter Tryz.func7, Tryz.ntmps7
  go_wp2
  go_loopw [9] (fun i wr => ∃ k : Nat, k ≤ ns ∧ i = .int .i64 k ∧ Alk wr w ∧ Hid (∀ i, i < k → lo i ≤ hi i ∧ 0 ≤ sr i ∧ sr i < nn)) (fun i _ => ns - (intOf i).toNat)
  case atStart => exact ⟨0, Nat.zero_le _, rfl, Alk.refl _, fun i hi => by omega⟩
  case round =>
    obtain ⟨k, hk, rfl, ha, hs⟩ := hrel
    by_cases hlt : k < ns
    · obtain ⟨bl, ol, rfl, hl⟩ := RL.out.cell hlt
      obtain ⟨bh, oh, rfl, hh⟩ := RH.out.cell hlt
      obtain ⟨br, orr, rfl, hr⟩ := RS.out.cell hlt
      rw [← ha.cell] at hl hh hr
      have HA : Hid (Alk wr w) := ha
      clear ha
      have hlt' : (k : Int) < (ns : Int) := by omega
      have hu := HU.out k hlt
      by_cases d1 : hi k < lo k
      · go_wp2
        go_quiet (fail)
        go_wp2
        go_ret
        exact ⟨Ans.no _, (Alk.drewN _ _).trans HA.out⟩
      · have d1' : decide (hi k < lo k) = false := by simpa using d1
        by_cases d2 : sr k < 0
        · go_wp2
          go_quiet (fail)
          go_wp2
          go_ret
          exact ⟨Ans.no _, (Alk.drewN _ _).trans HA.out⟩
        · have d2' : decide (sr k < 0) = false := by simpa using d2
          by_cases d3 : (nn : Int) ≤ sr k
          · go_wp2
            go_quiet (fail)
            go_wp2
            go_ret
            exact ⟨Ans.no _, (Alk.drewN _ _).trans HA.out⟩
          · go_wp2
            go_quiet (fail)
            go_wp2
            go_roundw
            case rel => exact ⟨k + 1, by omega, by go_num, (Alk.drewN _ _).trans HA.out, fun i hi => by
              by_cases e : i = k
              · subst e; exact ⟨by omega, by omega, by omega⟩
              · exact hs.out i (by omega)⟩
            case measure => simp [intOf]; omega
    · obtain rfl : ns = k := by omega
      have HA : Hid (Alk wr w) := ha
      clear ha
      go_wp2
      obtain ⟨w1, rfl⟩ : ∃ w1, w1 = wr := ⟨_, rfl⟩
      go_loopw [10] (fun i wr => ∃ k : Nat, k ≤ nn ∧ i = .int .i64 k ∧ Alk wr w ∧ Hid (∀ i, i < k → ∀ j, j < i → N i ≠ N j)) (fun i _ => nn - (intOf i).toNat)
      case atStart => exact ⟨0, Nat.zero_le _, rfl, HA.out, fun i hi => by omega⟩
      case round =>
        clear HA
        obtain ⟨k, hk, rfl, ha, hd⟩ := hrel
        by_cases hlt : k < nn
        · obtain ⟨b, off, rfl, hc⟩ := RN.out.cell hlt
          have HC : Hid (w.cell? ⟨b, off + k, none⟩ = some (.string (N k))) := hc
          have HA : Hid (Alk wr w) := ha
          have hlt' : (k : Int) < (nn : Int) := by omega
          clear ha hc
          go_wp2
          obtain ⟨w2, rfl⟩ : ∃ w2, w2 = wr := ⟨_, rfl⟩
          go_loopw [11] (fun i wr => ∃ m : Nat, m ≤ k ∧ i = .int .i64 m ∧ Alk wr w ∧ Hid (∀ j, j < m → N k ≠ N j)) (fun i _ => k - (intOf i).toNat)
          case atStart => exact ⟨0, Nat.zero_le _, rfl, HA.out, fun i hi => by omega⟩
          case round =>
            clear HA
            obtain ⟨m, hm, rfl, ha, he⟩ := hrel
            by_cases hltm : m < k
            · have hc : wr.cell? ⟨b, off + k, none⟩ = some (.string (N k)) := (ha.cell _).trans HC.out
              have hcm : wr.cell? ⟨b, off + m, none⟩ = some (.string (N m)) := by
                obtain ⟨b', off', e, hx⟩ := RN.out.cell (show m < nn by omega)
                cases e
                exact (ha.cell _).trans hx
              have HA : Hid (Alk wr w) := ha
              clear ha
              have hltm' : (m : Int) < (nn : Int) := by omega
              rcases q : ((N k).toList == (N m).toList) with _ | _
              · have Q1 : Hid (((N k).toList == (N m).toList) = false) := q
                go_wp2
                go_quiet (fail)
                go_wp2
                go_roundw
                case rel => exact ⟨m + 1, by omega, by go_num, (Alk.drewN _ _).trans HA.out, fun j hj => by
                  by_cases e : j = m
                  · subst e; exact str_ne Q1.out
                  · exact he.out j (by omega)⟩
                case measure => simp [intOf]; omega
              · go_wp2
                go_quiet (fail)
                go_wp2
                go_ret
                exact ⟨Ans.no _, (Alk.drewN _ _).trans HA.out⟩
            · obtain rfl : m = k := by omega
              go_wp2
              go_roundw
              case rel => exact ⟨m + 1, by omega, by go_num, ha, fun i hi j hj => by
                by_cases e : i = m
                · subst e; exact he.out j hj
                · exact hd.out i (by omega) j hj⟩
              case measure => simp [intOf]; omega
        · obtain rfl : nn = k := by omega
          go_wp2
          go_ret
          exact ⟨Ans.yes ⟨trivial, trivial, hs.out, hd.out⟩, ha⟩
end Go.Proofs.Qxb6618911aGreat
