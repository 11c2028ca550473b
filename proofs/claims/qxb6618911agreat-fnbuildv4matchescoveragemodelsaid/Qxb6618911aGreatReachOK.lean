/-
  zzReachOK.
-/
import Derived.Test.Qxb6618911aGreatPre4
namespace Go.Proofs.Qxb6618911aGreat
open Go.RowKit Go.Lib

theorem IsMax.start (h : Nat → Int) (i : Nat) : IsMax h i (i + 1) (h i) := by
  refine ⟨⟨i, by omega, by omega, rfl⟩, fun k a b => ?_⟩
  rw [show k = i from by omega]
  exact Int.le_refl _
theorem IsMax.up {h : Nat → Int} {i k : Nat} {v : Int} (m : IsMax h i k v) (hik : i ≤ k) (hv : v < h k) : IsMax h i (k + 1) (h k) :=
  ⟨⟨k, hik, by omega, rfl⟩, fun q a b => by
    by_cases e : q = k
    · subst e; omega
    · have := m.2 q a (by omega); omega⟩
theorem IsMax.stay {h : Nat → Int} {i k : Nat} {v : Int} (m : IsMax h i k v) (hv : h k ≤ v) : IsMax h i (k + 1) v := by
  obtain ⟨⟨q, q1, q2, q3⟩, m2⟩ := m
  exact ⟨⟨q, q1, by omega, q3⟩, fun p a b => by
    by_cases e : p = k
    · subst e; exact hv
    · exact m2 p a (by omega)⟩

set_option maxRecDepth 100000 in
set_option maxHeartbeats 2000000 in
theorem reachOK_any (ha ra : Option Addr) (n c c' : Nat) (h r : Nat → Int) (w : World) (hn : n ≤ 1024) (h1 : Row w 0 w.heap.size ha n (fun i => .int .u32 (h i))) (h2 : Row w 0 w.heap.size ra n (fun i => .int .u32 (r i))) {i j : Nat} (a : RO h r i j) : j ≤ n → i ≤ n →
    Calls Tryz.prog 24 #[.slice ha n c, .slice ra n c', .int .i64 i, .int .i64 j] w fun e w' => e = .returned (.bool true) ∧ w' = w := by
  have H : Hid (Row w 0 w.heap.size ha n (fun i => .int .u32 (h i)) ∧ Row w 0 w.heap.size ra n (fun i => .int .u32 (r i))) := ⟨h1, h2⟩
  clear h1 h2
  induction a with
  | @nil i j hle =>
    intro hj hi
    have hle' : (j : Int) ≤ (i : Int) := by omega
    go_enter Tryz.func24, Tryz.ntmps24
    go_wp2
    go_ret
    exact ⟨rfl, rfl⟩
  | @node i j hlt hm r1 r2 ih1 ih2 =>
    intro hj hi
    have hnle : ¬ (j : Int) ≤ (i : Int) := by omega
    obtain ⟨m1, m2⟩ : (i + j) / 2 < j ∧ i ≤ (i + j) / 2 := by omega
    have I1 := Hid.intro (ih1 (by omega) hi)
    have I2 := Hid.intro (ih2 hj (by omega))
    have HM := Hid.intro hm
    clear ih1 ih2 r1 r2 hm
    have e2 : ((i : Int) + (j : Int)) / 2 = (((i + j) / 2 : Nat) : Int) := by omega
    generalize hMM : (i + j) / 2 = m at *
    have hmn : (m : Int) < (n : Int) := by omega
    have hin : (i : Int) < (n : Int) := by omega
    obtain ⟨b1, o1, rfl, d1⟩ := H.out.1.cell (i := i) (by omega)
    obtain ⟨b2, o2, rfl, d2⟩ := H.out.2.cell (i := m) (by omega)
    clear hMM
    go_enter Tryz.func24, Tryz.ntmps24
    go_wp2
    clear d1
    go_loopg [10, 11] (j - (i + 1)) (fun gk x10 x11 wr => ∃ (k : Nat) (v : Int), i + 1 ≤ k ∧ k ≤ j ∧ gk = j - k ∧ x10 = .int .u32 v ∧ x11 = .int .i64 k ∧ wr = w ∧ Hid (IsMax h i k v))
    case atStart => exact ⟨i + 1, h i, by omega, by omega, rfl, rfl, by go_num, rfl, IsMax.start h i⟩
    case round =>
      obtain ⟨k, v, hk1, hk2, hgk, rfl, rfl, rfl, HV⟩ := hrel
      by_cases hlk : k < j
      · have hlk' : (k : Int) < (j : Int) := by omega
        have hkn : (k : Int) < (n : Int) := by omega
        obtain ⟨b3, o3, e3, d3⟩ := H.out.1.cell (i := k) (by omega)
        obtain ⟨rfl, rfl⟩ : b1 = b3 ∧ o1 = o3 := by simpa using e3
        clear e3
        by_cases hv : v < h k
        · have NX := Hid.intro (HV.out.up (by omega) hv)
          go_wp2
          go_roundg (j - (k + 1))
          case measure => omega
          case rel => exact ⟨k + 1, h k, by omega, by omega, rfl, rfl, by go_num, rfl, NX⟩
        · have NX := Hid.intro (HV.out.stay (by omega))
          have hv' : decide (v < h k) = false := by simpa using hv
          clear hv
          go_wp2
          go_roundg (j - (k + 1))
          case measure => omega
          case rel => exact ⟨k + 1, v, by omega, by omega, rfl, rfl, by go_num, rfl, NX⟩
      · obtain rfl : j = k := by omega
        obtain rfl : v = r m := IsMax.uniq HV.out HM.out
        clear HV HM
        go_wp2_with fail
        refine I1.out.mono ?_
        rintro e w' ⟨rfl, hw⟩
        subst w'
        go_wp2_with fail
        refine I2.out.mono ?_
        rintro e w' ⟨rfl, hw⟩
        subst w'
        go_wp2
        go_ret
        exact ⟨rfl, rfl⟩
end Go.Proofs.Qxb6618911aGreat
