/-
  The three clones, walked.
-/
import Derived.Test.Qxb6618911aGreatProg
import Derived.Test.Qxb6618911aGreatVoc
import Derived.WalkKit
import Derived.WalkSpells
import Derived.WalkLawsBesides
import Derived.Laws.Cover3
namespace Go.Proofs.Qxb6618911aGreat
open Go.RowKit

/-- '==' of a slice against nil. -/
theorem eql_nil {t e : TypeId} (h : Tryz.prog.underlying t = some (.slice e)) (a : Option Addr) (l c : Nat) : ∀ w, (binOp .eql t (.slice a l c) (.slice none 0 0)).run Tryz.prog w = .ok (.bool a.isNone) w := fun w => by
  simp only [binOp]
  simp [run_equal_slice_nil w t e a l c h]

theorem info9 : (Tryz.prog.info? 9).map (fun i => (i.zero, i.size, i.bytes)) = some (some (.string ⟨#[]⟩), 1, 16) := by kernel_rfl

set_option maxRecDepth 20000 in
set_option maxHeartbeats 400000 in
theorem cloneStr_some (b off n cap : Nat) (f : Nat → ByteArray) (w : World) (hn : n ≤ 1048576) (hr : ∀ i, i < n → w.cell? ⟨b, off + i, none⟩ = some (Value.string (f i))) :
    Calls Tryz.prog 8 #[.slice (some ⟨b, off, none⟩) n cap] w fun e w' => e = .returned (.slice (some ⟨w.heap.size, 0, none⟩) n n) ∧ w'.rowIs w.heap.size 9 n (fun i => Value.string (f i)) ∧ Below w.heap.size w w' := by
  have mk := fun w => run_make_row' (P := Tryz.prog) 22 9 (.string ⟨#[]⟩) 16 Tryz.underlying22 info9 rfl .i64 .i64 n (by omega) (by omega) w
  have HR : Hid (∀ i, i < n → w.cell? ⟨b, off + i, none⟩ = some (Value.string (f i))) := hr
  clear hr
  have hq := eql_nil Tryz.underlying22 (some ⟨b, off, none⟩) n cap
  go_enter Tryz.func8, Tryz.ntmps8
  go_wp2
  go_loopw [4] (fun i wr => ∃ k : Nat, k ≤ n ∧ i = .int .i64 k ∧ wr.rowIs w.heap.size 9 n (fun j => if j < k then Value.string (f j) else .string ⟨#[]⟩) ∧ Below w.heap.size w wr) (fun i _ => n - (intOf i).toNat)
  case atStart => exact ⟨0, Nat.zero_le _, rfl, (World.rowIs_made w (.string ⟨#[]⟩) n 9).congr fun i _ => by simp, (Below.refl _ _).alloc (Nat.le_refl _) _⟩
  case round =>
    clear mk
    obtain ⟨k, hk, rfl, hrow, hb⟩ := hrel
    by_cases hlt : k < n
    · have h0 := HR.out k hlt
      rw [← hb.cell (p := ⟨b, off + k, none⟩) (lt_of_cell h0)] at h0
      have hc : wr.cell? ⟨w.heap.size, k, none⟩ = some (.string ⟨#[]⟩) := by
        have := hrow.cell hlt
        simpa using this
      have hf := hrow.frozen k
      have HX : Hid (wr.rowIs w.heap.size 9 n (fun j => if j < k then Value.string (f j) else .string ⟨#[]⟩) ∧ Below w.heap.size w wr) := ⟨hrow, hb⟩
      have hlt' : (k : Int) < (n : Int) := by omega
      clear hrow hb
      go_wp2
      go_roundw
      case rel =>
        refine ⟨k + 1, by omega, by go_num, (HX.out.1.set k _).congr fun j hj => ?_, HX.out.2.setCell (Nat.le_refl _) _⟩
        by_cases e : j = k
        · subst e; simp
        · by_cases e2 : j < k
          · simp [e, e2, show j < k + 1 from by omega]
          · simp [e, e2, show ¬ j < k + 1 from by omega]
      case measure => simp [intOf]; omega
    · obtain rfl : n = k := by omega
      go_wp2
      go_ret
      exact ⟨rfl, hrow.congr fun j hj => by simp [hj], hb⟩

set_option maxHeartbeats 400000 in
theorem cloneStr_nil (n cap : Nat) (w : World) :
    Calls Tryz.prog 8 #[.slice none n cap] w fun e w' => e = .returned (.slice none 0 0) ∧ w' = w := by
  have hq := eql_nil Tryz.underlying22 none n cap
  go_enter Tryz.func8, Tryz.ntmps8
  go_wp2
  go_ret
  exact ⟨rfl, rfl⟩

/-- The clone, nil or not. -/
theorem cloneStr_any (ao : Option Addr) (lo hi n cap : Nat) (f : Nat → ByteArray) (w : World) (hn : n ≤ 1048576) (h0 : ao = none → n = 0) (hsp : ∀ a, ao = some a → a.spot = none) (hr : Row w lo hi ao n (fun i => Value.string (f i))) :
    Calls Tryz.prog 8 #[.slice ao n cap] w fun e w' => ∃ ao', e = .returned (.slice ao' n n) ∧ (ao' = none → n = 0) ∧ Row w' w.heap.size w'.heap.size ao' n (fun i => Value.string (f i)) ∧ Below w.heap.size w w' := by
  rcases ao with _ | ⟨b, off, spot⟩
  · have e := h0 rfl
    subst e
    refine (cloneStr_nil 0 cap w).mono ?_
    rintro e w' ⟨rfl, rfl⟩
    exact ⟨none, rfl, fun _ => rfl, fun i hi => by omega, Below.refl _ _⟩
  · have := hsp _ rfl
    simp only at this
    subst this
    refine (cloneStr_some b off n cap f w hn ?_).mono ?_
    · intro i hi
      obtain ⟨b', off', e, h1⟩ := hr.cell hi
      cases e
      exact h1
    · rintro e w' ⟨rfl, h1, h2⟩
      exact ⟨_, rfl, fun h => (by cases h), Row.of_rowIs h1 (Nat.le_refl _) h1.lt, h2⟩

theorem info41 : (Tryz.prog.info? 41).map (fun i => (i.zero, i.size, i.bytes)) = some (some (.int .u32 0), 1, 4) := by kernel_rfl

set_option maxRecDepth 20000 in
set_option maxHeartbeats 400000 in
theorem cloneU32_some (b off n cap : Nat) (f : Nat → Int) (w : World) (hn : n ≤ 1048576) (hr : ∀ i, i < n → w.cell? ⟨b, off + i, none⟩ = some (Value.int .u32 (f i))) :
    Calls Tryz.prog 9 #[.slice (some ⟨b, off, none⟩) n cap] w fun e w' => e = .returned (.slice (some ⟨w.heap.size, 0, none⟩) n n) ∧ w'.rowIs w.heap.size 41 n (fun i => Value.int .u32 (f i)) ∧ Below w.heap.size w w' := by
  have mk := fun w => run_make_row' (P := Tryz.prog) 23 41 (.int .u32 0) 4 Tryz.underlying23 info41 rfl .i64 .i64 n (by omega) (by omega) w
  have HR : Hid (∀ i, i < n → w.cell? ⟨b, off + i, none⟩ = some (Value.int .u32 (f i))) := hr
  clear hr
  have hq := eql_nil Tryz.underlying23 (some ⟨b, off, none⟩) n cap
  go_enter Tryz.func9, Tryz.ntmps9
  go_wp2
  go_loopw [4] (fun i wr => ∃ k : Nat, k ≤ n ∧ i = .int .i64 k ∧ wr.rowIs w.heap.size 41 n (fun j => if j < k then Value.int .u32 (f j) else .int .u32 0) ∧ Below w.heap.size w wr) (fun i _ => n - (intOf i).toNat)
  case atStart => exact ⟨0, Nat.zero_le _, rfl, (World.rowIs_made w (.int .u32 0) n 41).congr fun i _ => by simp, (Below.refl _ _).alloc (Nat.le_refl _) _⟩
  case round =>
    clear mk
    obtain ⟨k, hk, rfl, hrow, hb⟩ := hrel
    by_cases hlt : k < n
    · have h0 := HR.out k hlt
      rw [← hb.cell (p := ⟨b, off + k, none⟩) (lt_of_cell h0)] at h0
      have hc : wr.cell? ⟨w.heap.size, k, none⟩ = some (.int .u32 0) := by
        have := hrow.cell hlt
        simpa using this
      have hf := hrow.frozen k
      have HX : Hid (wr.rowIs w.heap.size 41 n (fun j => if j < k then Value.int .u32 (f j) else .int .u32 0) ∧ Below w.heap.size w wr) := ⟨hrow, hb⟩
      have hlt' : (k : Int) < (n : Int) := by omega
      clear hrow hb
      go_wp2
      go_roundw
      case rel =>
        refine ⟨k + 1, by omega, by go_num, (HX.out.1.set k _).congr fun j hj => ?_, HX.out.2.setCell (Nat.le_refl _) _⟩
        by_cases e : j = k
        · subst e; simp
        · by_cases e2 : j < k
          · simp [e, e2, show j < k + 1 from by omega]
          · simp [e, e2, show ¬ j < k + 1 from by omega]
      case measure => simp [intOf]; omega
    · obtain rfl : n = k := by omega
      go_wp2
      go_ret
      exact ⟨rfl, hrow.congr fun j hj => by simp [hj], hb⟩

set_option maxHeartbeats 400000 in
theorem cloneU32_nil (n cap : Nat) (w : World) :
    Calls Tryz.prog 9 #[.slice none n cap] w fun e w' => e = .returned (.slice none 0 0) ∧ w' = w := by
  have hq := eql_nil Tryz.underlying23 none n cap
  go_enter Tryz.func9, Tryz.ntmps9
  go_wp2
  go_ret
  exact ⟨rfl, rfl⟩

/-- The clone, nil or not. -/
theorem cloneU32_any (ao : Option Addr) (lo hi n cap : Nat) (f : Nat → Int) (w : World) (hn : n ≤ 1048576) (h0 : ao = none → n = 0) (hsp : ∀ a, ao = some a → a.spot = none) (hr : Row w lo hi ao n (fun i => Value.int .u32 (f i))) :
    Calls Tryz.prog 9 #[.slice ao n cap] w fun e w' => ∃ ao', e = .returned (.slice ao' n n) ∧ (ao' = none → n = 0) ∧ Row w' w.heap.size w'.heap.size ao' n (fun i => Value.int .u32 (f i)) ∧ Below w.heap.size w w' := by
  rcases ao with _ | ⟨b, off, spot⟩
  · have e := h0 rfl
    subst e
    refine (cloneU32_nil 0 cap w).mono ?_
    rintro e w' ⟨rfl, rfl⟩
    exact ⟨none, rfl, fun _ => rfl, fun i hi => by omega, Below.refl _ _⟩
  · have := hsp _ rfl
    simp only at this
    subst this
    refine (cloneU32_some b off n cap f w hn ?_).mono ?_
    · intro i hi
      obtain ⟨b', off', e, h1⟩ := hr.cell hi
      cases e
      exact h1
    · rintro e w' ⟨rfl, h1, h2⟩
      exact ⟨_, rfl, fun h => (by cases h), Row.of_rowIs h1 (Nat.le_refl _) h1.lt, h2⟩

theorem info21 : (Tryz.prog.info? 21).map (fun i => (i.zero, i.size, i.bytes)) = some (some (.int .i32 0), 1, 4) := by kernel_rfl

set_option maxRecDepth 20000 in
set_option maxHeartbeats 400000 in
theorem cloneI32_some (b off n cap : Nat) (f : Nat → Int) (w : World) (hn : n ≤ 1048576) (hr : ∀ i, i < n → w.cell? ⟨b, off + i, none⟩ = some (Value.int .i32 (f i))) :
    Calls Tryz.prog 10 #[.slice (some ⟨b, off, none⟩) n cap] w fun e w' => e = .returned (.slice (some ⟨w.heap.size, 0, none⟩) n n) ∧ w'.rowIs w.heap.size 21 n (fun i => Value.int .i32 (f i)) ∧ Below w.heap.size w w' := by
  have mk := fun w => run_make_row' (P := Tryz.prog) 24 21 (.int .i32 0) 4 Tryz.underlying24 info21 rfl .i64 .i64 n (by omega) (by omega) w
  have HR : Hid (∀ i, i < n → w.cell? ⟨b, off + i, none⟩ = some (Value.int .i32 (f i))) := hr
  clear hr
  have hq := eql_nil Tryz.underlying24 (some ⟨b, off, none⟩) n cap
  go_enter Tryz.func10, Tryz.ntmps10
  go_wp2
  go_loopw [4] (fun i wr => ∃ k : Nat, k ≤ n ∧ i = .int .i64 k ∧ wr.rowIs w.heap.size 21 n (fun j => if j < k then Value.int .i32 (f j) else .int .i32 0) ∧ Below w.heap.size w wr) (fun i _ => n - (intOf i).toNat)
  case atStart => exact ⟨0, Nat.zero_le _, rfl, (World.rowIs_made w (.int .i32 0) n 21).congr fun i _ => by simp, (Below.refl _ _).alloc (Nat.le_refl _) _⟩
  case round =>
    clear mk
    obtain ⟨k, hk, rfl, hrow, hb⟩ := hrel
    by_cases hlt : k < n
    · have h0 := HR.out k hlt
      rw [← hb.cell (p := ⟨b, off + k, none⟩) (lt_of_cell h0)] at h0
      have hc : wr.cell? ⟨w.heap.size, k, none⟩ = some (.int .i32 0) := by
        have := hrow.cell hlt
        simpa using this
      have hf := hrow.frozen k
      have HX : Hid (wr.rowIs w.heap.size 21 n (fun j => if j < k then Value.int .i32 (f j) else .int .i32 0) ∧ Below w.heap.size w wr) := ⟨hrow, hb⟩
      have hlt' : (k : Int) < (n : Int) := by omega
      clear hrow hb
      go_wp2
      go_roundw
      case rel =>
        refine ⟨k + 1, by omega, by go_num, (HX.out.1.set k _).congr fun j hj => ?_, HX.out.2.setCell (Nat.le_refl _) _⟩
        by_cases e : j = k
        · subst e; simp
        · by_cases e2 : j < k
          · simp [e, e2, show j < k + 1 from by omega]
          · simp [e, e2, show ¬ j < k + 1 from by omega]
      case measure => simp [intOf]; omega
    · obtain rfl : n = k := by omega
      go_wp2
      go_ret
      exact ⟨rfl, hrow.congr fun j hj => by simp [hj], hb⟩

set_option maxHeartbeats 400000 in
theorem cloneI32_nil (n cap : Nat) (w : World) :
    Calls Tryz.prog 10 #[.slice none n cap] w fun e w' => e = .returned (.slice none 0 0) ∧ w' = w := by
  have hq := eql_nil Tryz.underlying24 none n cap
  go_enter Tryz.func10, Tryz.ntmps10
  go_wp2
  go_ret
  exact ⟨rfl, rfl⟩

/-- The clone, nil or not. -/
theorem cloneI32_any (ao : Option Addr) (lo hi n cap : Nat) (f : Nat → Int) (w : World) (hn : n ≤ 1048576) (h0 : ao = none → n = 0) (hsp : ∀ a, ao = some a → a.spot = none) (hr : Row w lo hi ao n (fun i => Value.int .i32 (f i))) :
    Calls Tryz.prog 10 #[.slice ao n cap] w fun e w' => ∃ ao', e = .returned (.slice ao' n n) ∧ (ao' = none → n = 0) ∧ Row w' w.heap.size w'.heap.size ao' n (fun i => Value.int .i32 (f i)) ∧ Below w.heap.size w w' := by
  rcases ao with _ | ⟨b, off, spot⟩
  · have e := h0 rfl
    subst e
    refine (cloneI32_nil 0 cap w).mono ?_
    rintro e w' ⟨rfl, rfl⟩
    exact ⟨none, rfl, fun _ => rfl, fun i hi => by omega, Below.refl _ _⟩
  · have := hsp _ rfl
    simp only at this
    subst this
    refine (cloneI32_some b off n cap f w hn ?_).mono ?_
    · intro i hi
      obtain ⟨b', off', e, h1⟩ := hr.cell hi
      cases e
      exact h1
    · rintro e w' ⟨rfl, h1, h2⟩
      exact ⟨_, rfl, fun h => (by cases h), Row.of_rowIs h1 (Nat.le_refl _) h1.lt, h2⟩

end Go.Proofs.Qxb6618911aGreat
