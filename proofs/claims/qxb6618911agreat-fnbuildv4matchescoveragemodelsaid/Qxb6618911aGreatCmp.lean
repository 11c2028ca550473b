/-
  compare, cmp.Compare, cmp.Or, the two comparers handed to slices.SortFunc.
-/
import Derived.Test.Qxb6618911aGreatProg
import Derived.WalkKit
import Derived.WalkSpells
import Derived.WalkLawsBesides
import Derived.Deep.RegionHeld3
import Derived.Deep.DrawnRows
namespace Go.Proofs.Qxb6618911aGreat
open Go.RowKit

/-- The names of the methods that a code calls through interface values, in the text's order. -/
def opNames (l : List Oper) : List String := l.filterMap fun o => match o.op with
  | .call c => (match c.callee with | .invoke _ n => some n | _ => none)
  | _ => none

def invIn : Code → List String
  | .region _ ops _ => opNames ops.toList
  | .seq a b => invIn a ++ invIn b
  | .cond _ a b => invIn a ++ invIn b
  | .block _ a => invIn a
  | .loop a => invIn a
  | .scope a => invIn a
  | _ => []

theorem less_all46 : ((Tryz.f46.body.map invIn).getD []).all (fun n => n == ((Tryz.f46.body.map invIn).getD []).headD "") = true := by kernel_rfl
theorem less_head (x : Value) (w : World) : (method 342 71 x (((Tryz.f46.body.map invIn).getD []).headD "")).run Tryz.prog w = .ok (166, x) w := by kernel_rfl
theorem less46 : ∀ n ∈ (Tryz.f46.body.map invIn).getD [], ∀ (x : Value) (w : World), (method 342 71 x n).run Tryz.prog w = .ok (166, x) w := by
  intro n hn x w
  have := List.all_eq_true.1 less_all46 n hn
  rw [eq_of_beq this]
  exact less_head x w

set_option maxHeartbeats 400000 in
theorem less_any (x y : Int) (w : World) : Calls Tryz.prog 166 #[.int .u32 x, .int .u32 y] w fun e w' => e = .returned (.bool (decide (x < y))) ∧ w' = w := by
  go_enter Tryz.func166, Tryz.ntmps166
  go_wp2
  go_ret
  exact ⟨rfl, rfl⟩

def cmpI (x y : Int) : Int := if x < y then -1 else if y < x then 1 else 0

set_option maxRecDepth 20000 in
set_option maxHeartbeats 400000 in
theorem compare_any (x y : Int) (w : World) : Calls Tryz.prog 46 #[.int .u32 x, .int .u32 y] w fun e w' => e = .returned (.int .i64 (cmpI x y)) ∧ w' = w := by
  have hm := less46
  simp [Tryz.f46, invIn, opNames] at hm
  by_cases h1 : x < y
  · have e1 : cmpI x y = -1 := by unfold cmpI; rw [if_pos h1]
    rw [e1]
    go_enter Tryz.func46, Tryz.ntmps46
    go_wp2
    go_ret
    exact ⟨rfl, rfl⟩
  · by_cases h2 : y < x
    · have e1 : cmpI x y = 1 := by unfold cmpI; rw [if_neg h1, if_pos h2]
      rw [e1]
      go_enter Tryz.func46, Tryz.ntmps46
      go_wp2
      go_ret
      exact ⟨rfl, rfl⟩
    · have e1 : cmpI x y = 0 := by unfold cmpI; rw [if_neg h1, if_neg h2]
      rw [e1]
      go_enter Tryz.func46, Tryz.ntmps46
      go_wp2
      go_ret
      exact ⟨rfl, rfl⟩

set_option maxHeartbeats 400000 in
theorem cmpCompare_any (x y : Int) (w : World) : Calls Tryz.prog 47 #[.int .i32 x, .int .i32 y] w fun e w' => e = .returned (.int .i64 (cmpI x y)) ∧ w' = w := by
  by_cases h1 : x < y
  · have e1 : cmpI x y = -1 := by unfold cmpI; rw [if_pos h1]
    rw [e1]
    go_enter Tryz.func47, Tryz.ntmps47
    go_wp2
    go_ret
    exact ⟨rfl, rfl⟩
  · by_cases h2 : y < x
    · have e1 : cmpI x y = 1 := by unfold cmpI; rw [if_neg h1, if_pos h2]
      rw [e1]
      go_enter Tryz.func47, Tryz.ntmps47
      go_wp2
      go_ret
      exact ⟨rfl, rfl⟩
    · have e1 : cmpI x y = 0 := by unfold cmpI; rw [if_neg h1, if_neg h2]
      rw [e1]
      go_enter Tryz.func47, Tryz.ntmps47
      go_wp2
      go_ret
      exact ⟨rfl, rfl⟩

theorem ret_int {k : IntKind} {a b : Int} (h : a = b) : Ending.returned (.int k a) = .returned (.int k b) := by rw [h]

/-- The first of three that is not 0. -/
def or3 (a b c : Int) : Int := if a = 0 then (if b = 0 then c else b) else a

set_option maxHeartbeats 400000 in
theorem or_any (g : Nat) (a b c : Int) (w : World) (h0 : w.cell? ⟨g, 0, none⟩ = some (.int .i64 a)) (h1 : w.cell? ⟨g, 1, none⟩ = some (.int .i64 b)) (h2 : w.cell? ⟨g, 2, none⟩ = some (.int .i64 c)) :
    Calls Tryz.prog 45 #[.slice (some ⟨g, 0, none⟩) 3 3] w fun e w' => e = .returned (.int .i64 (or3 a b c)) ∧ w' = w := by
  obtain ⟨n, hn⟩ : ∃ n : Nat, n = 3 := ⟨_, rfl⟩
  rw [← hn]
  have HN : Hid (n = 3) := hn
  have hn1 : (0 : Int) < (n : Int) := by omega
  have hn2 : (1 : Int) < (n : Int) := by omega
  have hn3 : (2 : Int) < (n : Int) := by omega
  have hn4 : n < 100 := by omega
  clear hn
  go_enter Tryz.func45, Tryz.ntmps45
  go_wp2
  go_loop [8] (fun i => ∃ k : Nat, k ≤ 3 ∧ i = .int .i64 k ∧ Hid ((1 ≤ k → a = 0) ∧ (2 ≤ k → b = 0) ∧ (3 ≤ k → c = 0))) (fun i => 3 - (intOf i).toNat)
  case atStart => exact ⟨0, by omega, rfl, fun h => by omega, fun h => by omega, fun h => by omega⟩
  case round =>
    obtain ⟨k, hk, rfl, H⟩ := hrel
    obtain rfl | rfl | rfl | rfl : k = 0 ∨ k = 1 ∨ k = 2 ∨ k = 3 := by omega
    · go_wp2
      · have hne : a ≠ 0 := by simpa using (‹(a != 0) = true› : (a != 0) = true)
        go_ret
        exact ⟨ret_int (by unfold or3; rw [if_neg hne]), rfl⟩
      · have he : a = 0 := by simpa using (‹(a != 0) = false› : (a != 0) = false)
        go_round
        case rel => exact ⟨1, by omega, by go_num, fun _ => he, fun h => by omega, fun h => by omega⟩
        case measure => simp [intOf]
    · have h0 := H.out.1 (by omega)
      have H0 : Hid (a = 0) := h0
      clear h0
      go_wp2
      · have hne : b ≠ 0 := by simpa using (‹(b != 0) = true› : (b != 0) = true)
        go_ret
        exact ⟨ret_int (by unfold or3; rw [if_pos H0.out, if_neg hne]), rfl⟩
      · have he : b = 0 := by simpa using (‹(b != 0) = false› : (b != 0) = false)
        go_round
        case rel => exact ⟨2, by omega, by go_num, fun _ => H0.out, fun _ => he, fun h => by omega⟩
        case measure => simp [intOf]
    · have H0 : Hid (a = 0) := H.out.1 (by omega)
      have H1 : Hid (b = 0) := H.out.2.1 (by omega)
      go_wp2
      · go_ret
        exact ⟨ret_int (by unfold or3; rw [if_pos H0.out, if_pos H1.out]), rfl⟩
      · have he : c = 0 := by simpa using (‹(c != 0) = false› : (c != 0) = false)
        go_round
        case rel => exact ⟨3, by omega, by go_num, fun _ => H0.out, fun _ => H1.out, fun _ => he⟩
        case measure => simp [intOf]
    · have H0 : Hid (a = 0) := H.out.1 (by omega)
      have H1 : Hid (b = 0) := H.out.2.1 (by omega)
      have H2 : Hid (c = 0) := H.out.2.2 (by omega)
      have hx : ¬ (3 : Int) < (n : Int) := by have := HN.out; omega
      go_wp2
      go_ret
      exact ⟨ret_int (by unfold or3; rw [if_pos H0.out, if_pos H1.out, H2.out]), rfl⟩

/-- A span's three cells, as '.agg' has them. -/
def spV (x : Int × Int × Int) : List Value := [.int .u32 x.1, .int .u32 x.2.1, .int .i32 x.2.2]
/-- An event's three cells. -/
def evV (x : Int × Int × Int) : List Value := [.int .u32 x.1, .int .i32 x.2.1, .int .i32 x.2.2]

def cmpS (x y : Int × Int × Int) : Int := or3 (cmpI x.1 y.1) (cmpI x.2.1 y.2.1) (cmpI x.2.2 y.2.2)
def cmpE (x y : Int × Int × Int) : Int := cmpI x.1 y.1

set_option maxHeartbeats 400000 in
theorem closureE (x y : Int × Int × Int) (w : World) :
    Calls Tryz.prog 59 #[.agg #[.int .u32 x.1, .int .i32 x.2.1, .int .i32 x.2.2], .agg #[.int .u32 y.1, .int .i32 y.2.1, .int .i32 y.2.2]] w fun e w' => e = .returned (.int .i64 (cmpE x y)) ∧ ∃ q a b, w' = ((w.alloc a).alloc b).drewN q := by
  have hc := fun W => compare_any x.1 y.1 W
  change ∀ W, Calls Tryz.prog 46 _ W fun e w' => e = .returned (.int .i64 (cmpE x y)) ∧ w' = W at hc
  generalize cmpE x y = r at hc ⊢
  go_enter Tryz.func59, Tryz.ntmps59
  go_wp2_with (go_at_call 46; refine (hc _).mono ?_; rintro e w' ⟨rfl, rfl⟩)
  go_ret
  exact ⟨rfl, 0, _, _, rfl⟩

end Go.Proofs.Qxb6618911aGreat
