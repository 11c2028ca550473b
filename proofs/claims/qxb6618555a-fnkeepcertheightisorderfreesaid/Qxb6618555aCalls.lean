import Derived.Test.Qxb6618555aProg
import Derived.WalkKit
import Derived.WalkSpells
import Derived.WalkLawsBesides
import Derived.LaidEqlPtr
namespace Go.Proofs.Qxb6618555a
open Go.RowKit

theorem info60 : ∃ j, Try.prog.info? 60 = some j := by
  have h : (Try.prog.info? 60).isSome = true := by kernel_rfl
  exact Option.isSome_iff_exists.1 h

/-- '==' of one and the same block pointer. -/
theorem eql_same (a : Addr) : ∀ w, (binOp .eql 25 (.pointer (some a)) (.pointer (some a))).run Try.prog w = .ok (.bool true) w := by
  obtain ⟨j, hj⟩ := info60
  exact fun w => run_eql_ptr_same w a Try.underlying25 hj

theorem neq_same (a : Addr) : ∀ w, (binOp .neq 25 (.pointer (some a)) (.pointer (some a))).run Try.prog w = .ok (.bool false) w := by
  obtain ⟨j, hj⟩ := info60
  intro w
  have h : ∀ d : Nat, (Op.equalIn (d + 1) 25 (.pointer (some a)) (.pointer (some a))).run Try.prog w = .ok true w := fun d => by
    simp [Op.equalIn, run_underlying Try.underlying25, sizeOf, typeInfo, hj, run_sameAddr_same]
  simp only [binOp]
  simp [Op.equal, Op.maxDepth, h 9999]

set_option maxHeartbeats 400000 in
theorem index_one (c q cap n : Nat) (w : World) (hn : 0 < n) (hc : w.cell? ⟨c, 0, none⟩ = some (.pointer (some ⟨q, 0, none⟩))) :
    Calls Try.prog 21 #[.slice (some ⟨c, 0, none⟩) n cap, .pointer (some ⟨q, 0, none⟩)] w fun e w' => e = .returned (.int .i64 0) ∧ w' = w := by
  have he := eql_same ⟨q, 0, none⟩
  go_enter Try.func21, Try.ntmps21
  go_wp2
  go_loop [8] (fun i => ∃ k : Nat, k < 1 ∧ i = .int .i64 k) (fun _ => 0)
  case atStart => exact ⟨0, by omega, rfl⟩
  case round =>
    obtain ⟨k, hk, rfl⟩ := hrel
    obtain rfl : k = 0 := by omega
    go_wp2
    go_ret
    exact ⟨rfl, rfl⟩

set_option maxHeartbeats 400000 in
theorem contains_one (c q cap n : Nat) (w : World) (hn : 0 < n) (hc : w.cell? ⟨c, 0, none⟩ = some (.pointer (some ⟨q, 0, none⟩))) :
    Calls Try.prog 19 #[.slice (some ⟨c, 0, none⟩) n cap, .pointer (some ⟨q, 0, none⟩)] w fun e w' => e = .returned (.bool true) ∧ w' = w := by
  go_enter Try.func19, Try.ntmps19
  go_wp2_with (go_at_call 21; refine (index_one _ _ _ _ _ hn hc).mono ?_; rintro e w' ⟨rfl, rfl⟩)
  go_ret
  exact ⟨rfl, rfl⟩

/-- The cells of a new block. -/
def blkObj (s : ByteArray) (r : Int) (p : Option Addr) : Obj := .cells #[.string s, .int .i64 r, .pointer p, .pointer none, .slice none 0 0, .int .i64 0] 60

set_option maxHeartbeats 400000 in
theorem newBlock_any (s : ByteArray) (r : Int) (p : Option Addr) (w : World) :
    Calls Try.prog 15 #[.string s, .int .i64 r, .pointer p] w fun e w' => e = .returned (.pointer (some ⟨w.heap.size, 0, none⟩)) ∧ w' = w.alloc (blkObj s r p) := by
  go_enter Try.func15, Try.ntmps15
  go_wp2
  go_ret
  exact ⟨rfl, rfl⟩

def nodeObj (p : Option Addr) (c : Option Addr) (n m : Nat) : Obj :=
  .cells #[.string ByteArray.empty, .string ByteArray.empty, .slice none 0 0, .int .i64 0, .nilFunc, .nilFunc, .pointer none, .int .i64 0, .int .i64 0, .int .i64 0, .pointer p, .int .i64 0, .pointer none, .bool false, .bool false,
    .slice none 0 0, .slice c n m, .map none, .map none, .map none] 56

set_option maxHeartbeats 400000 in
theorem newNode_any (p : Option Addr) (c : Option Addr) (n m : Nat) (w : World) :
    Calls Try.prog 16 #[.pointer p, .slice c n m] w fun e w' => e = .returned (.pointer (some ⟨w.heap.size, 0, none⟩)) ∧ w' = w.alloc (nodeObj p c n m) := by
  go_enter Try.func16, Try.ntmps16
  go_wp2
  go_ret
  exact ⟨rfl, rfl⟩

set_option maxHeartbeats 400000 in
theorem highCert_any (nb : Nat) (p : Option Addr) (w : World) (h : w.cell? ⟨nb, 10, none⟩ = some (.pointer p)) :
    Calls Try.prog 10 #[.pointer (some ⟨nb, 0, none⟩)] w fun e w' => e = .returned (.pointer p) ∧ w' = w := by
  go_enter Try.func10, Try.ntmps10
  go_wp2
  go_ret
  exact ⟨rfl, rfl⟩

set_option maxHeartbeats 400000 in
theorem committed_any (nb : Nat) (c : Option Addr) (n m : Nat) (w : World) (h : w.cell? ⟨nb, 16, none⟩ = some (.slice c n m)) :
    Calls Try.prog 13 #[.pointer (some ⟨nb, 0, none⟩)] w fun e w' => e = .returned (.slice c n m) ∧ w' = w := by
  go_enter Try.func13, Try.ntmps13
  go_wp2
  go_ret
  exact ⟨rfl, rfl⟩

set_option maxHeartbeats 400000 in
theorem blockRound_any (q : Nat) (r : Int) (w : World) (h : w.cell? ⟨q, 1, none⟩ = some (.int .i64 r)) :
    Calls Try.prog 11 #[.pointer (some ⟨q, 0, none⟩)] w fun e w' => e = .returned (.int .i64 r) ∧ w' = w := by
  go_enter Try.func11, Try.ntmps11
  go_wp2
  go_ret
  exact ⟨rfl, rfl⟩
end Go.Proofs.Qxb6618555a
