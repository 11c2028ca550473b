/-
  heldSize and the two bounds on total length, walked.
-/
import Derived.Test.Qxb6616489aProg
import Derived.WalkKit
import Derived.WalkSpells
import Derived.WalkLawsBesides
namespace Go.Proofs.Qxb6616489a
open Go.RowKit

/-- It answers a bool. -/
def Ans (e : Ending) : Prop := ∃ b, e = .returned (.bool b)

def recObj (o : ByteArray) (t c l : Int) (a : Option Addr) (n m : Nat) : Obj := .cells #[.string o, .int .u16 t, .int .u16 c, .int .u32 l, .slice a n m] 40

set_option maxHeartbeats 400000 in
theorem held_any (o : ByteArray) (t c l : Int) (a : Option Addr) (n m : Nat) (w : World) (h0 : o.size ≤ 65536) (h1 : n ≤ 65536) :
    Calls Try.prog 21 #[.agg #[.string o, .int .u16 t, .int .u16 c, .int .u32 l, .slice a n m]] w fun e w' => e = .returned (.int .i64 ((o.size : Int) + n + 64)) ∧ w' = (w.alloc (recObj o t c l a n m)).alloc (recObj o t c l a n m) := by
  go_enter Try.func21, Try.ntmps21
  go_wp2
  go_ret
  exact ⟨rfl, rfl⟩

theorem held_none (t c l : Int) (w : World) :
    Calls Try.prog 21 #[.agg #[.string ⟨#[]⟩, .int .u16 t, .int .u16 c, .int .u32 l, .slice none 0 0]] w fun e w' => e = .returned (.int .i64 64) ∧ w' = (w.alloc (recObj ⟨#[]⟩ t c l none 0 0)).alloc (recObj ⟨#[]⟩ t c l none 0 0) :=
  held_any ⟨#[]⟩ t c l none 0 0 w (by decide) (by decide)

set_option maxHeartbeats 400000 in
theorem bytes20_any (o : ByteArray) (t c l : Int) (a : Option Addr) (n m : Nat) (j k : Int) (w : World) (h0 : o.size ≤ maxLen) (h1 : n ≤ maxLen) :
    Calls Try.prog 20 #[.string o, .int .u16 t, .int .u16 c, .int .u32 l, .slice a n m, .int .i64 j, .int .i64 k] w fun e w' => Ans e ∧ w' = w := by
  unfold maxLen at h0 h1
  go_enter Try.func20, Try.ntmps20
  go_wp2
  all_goals
    go_ret
    exact ⟨⟨_, rfl⟩, rfl⟩

set_option maxHeartbeats 1000000 in
theorem bytes22_any (o : ByteArray) (t c l : Int) (a : Option Addr) (n m : Nat) (o' : ByteArray) (t' c' l' : Int) (a' : Option Addr) (n' m' : Nat) (w : World) (h0 : o.size ≤ maxLen) (h1 : n ≤ maxLen) (h2 : o'.size ≤ maxLen) (h3 : n' ≤ maxLen) :
    Calls Try.prog 22 #[.string o, .int .u16 t, .int .u16 c, .int .u32 l, .slice a n m, .string o', .int .u16 t', .int .u16 c', .int .u32 l', .slice a' n' m'] w fun e w' => Ans e ∧ w' = w := by
  unfold maxLen at h0 h1 h2 h3
  go_enter Try.func22, Try.ntmps22
  go_wp2
  all_goals
    go_ret
    exact ⟨⟨_, rfl⟩, rfl⟩
end Go.Proofs.Qxb6616489a
