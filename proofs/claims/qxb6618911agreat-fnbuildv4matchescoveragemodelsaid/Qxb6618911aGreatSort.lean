/-
  slices.SortFunc at spans and at events.
-/
import Derived.Test.Qxb6618911aGreatLays
import Derived.Test.Qxb6618911aGreatClos
namespace Go.Proofs.Qxb6618911aGreat
open Go.Shelf Go.RowKit Go.Lib Go.Sort

theorem spV_len (x : Int × Int × Int) : (spV x).length = 3 := rfl
theorem evV_len (x : Int × Int × Int) : (evV x).length = 3 := rfl
theorem spV_one (x : Int × Int × Int) : ∀ v ∈ spV x, v.oneCell' = true := by
  intro v hv
  simp [spV] at hv
  rcases hv with rfl | rfl | rfl <;> rfl
theorem evV_one (x : Int × Int × Int) : ∀ v ∈ evV x, v.oneCell' = true := by
  intro v hv
  simp [evV] at hv
  rcases hv with rfl | rfl | rfl <;> rfl

theorem cmpI_neg (x y : Int) : cmpI x y < 0 ↔ x < y := by unfold cmpI; split <;> (try split) <;> omega
theorem cmpI_zero (x y : Int) : cmpI x y = 0 ↔ x = y := by unfold cmpI; split <;> (try split) <;> omega

/-- The order of spans: by lo, then hi, then source. -/
def ltS (x y : Int × Int × Int) : Prop := x.1 < y.1 ∨ (x.1 = y.1 ∧ (x.2.1 < y.2.1 ∨ (x.2.1 = y.2.1 ∧ x.2.2 < y.2.2)))

theorem ltOf_cmpS (x y : Int × Int × Int) : ltOf cmpS x y = true ↔ ltS x y := by
  unfold ltOf cmpS or3 ltS
  rw [decide_eq_true_iff]
  by_cases h0 : cmpI x.1 y.1 = 0
  · rw [if_pos h0]
    have e0 := (cmpI_zero _ _).1 h0
    by_cases h1 : cmpI x.2.1 y.2.1 = 0
    · rw [if_pos h1, cmpI_neg]
      have e1 := (cmpI_zero _ _).1 h1
      constructor
      · intro h; exact .inr ⟨e0, .inr ⟨e1, h⟩⟩
      · rintro (h | ⟨_, h | ⟨_, h⟩⟩)
        · omega
        · omega
        · exact h
    · rw [if_neg h1, cmpI_neg]
      have e1 : ¬ x.2.1 = y.2.1 := fun e => h1 ((cmpI_zero _ _).2 e)
      constructor
      · intro h; exact .inr ⟨e0, .inl h⟩
      · rintro (h | ⟨_, h | ⟨h, _⟩⟩)
        · omega
        · exact h
        · exact absurd h e1
  · rw [if_neg h0, cmpI_neg]
    have e0 : ¬ x.1 = y.1 := fun e => h0 ((cmpI_zero _ _).2 e)
    constructor
    · intro h; exact .inl h
    · rintro (h | ⟨h, _⟩)
      · exact h
      · exact absurd h e0

theorem ltOf_cmpS_false (x y : Int × Int × Int) : ltOf cmpS x y = false ↔ ¬ ltS x y := by
  rw [← ltOf_cmpS]; simp

theorem swoS : SWO (ltOf cmpS) where
  irrefl x := by rw [ltOf_cmpS_false]; unfold ltS; omega
  trans x y z h1 h2 := by rw [ltOf_cmpS] at *; unfold ltS at *; omega
  ntrans x y z h1 h2 := by rw [ltOf_cmpS_false] at *; unfold ltS at *; omega

theorem totalS (x y : Int × Int × Int) (h1 : ltOf cmpS x y = false) (h2 : ltOf cmpS y x = false) : x = y := by
  rw [ltOf_cmpS_false] at h1 h2
  unfold ltS at h1 h2
  obtain ⟨a, b, c⟩ := x
  obtain ⟨a', b', c'⟩ := y
  simp only [Prod.mk.injEq] at *
  omega

theorem ltOf_cmpE (x y : Int × Int × Int) : ltOf cmpE x y = decide (x.1 < y.1) := by
  unfold ltOf cmpE
  rw [decide_eq_decide]
  exact cmpI_neg _ _

theorem swoE : SWO (ltOf cmpE) where
  irrefl x := by rw [ltOf_cmpE]; simp
  trans x y z h1 h2 := by rw [ltOf_cmpE] at *; simp at *; omega
  ntrans x y z h1 h2 := by rw [ltOf_cmpE] at *; simp at *; omega

theorem layS (blk off size : Nat) (w : World) : CmpLays Tryz.prog 44 #[] spV 3 cmpS blk off size w := fun m os dk _ x y => by
  refine (closureS x y (sortWorldK spV 3 w blk off m dk os)).mono ?_
  rintro e w' ⟨rfl, q, a, b, c, rfl⟩
  exact ⟨rfl, q, #[a, b, c], rfl⟩

theorem layE (blk off size : Nat) (w : World) : CmpLays Tryz.prog 59 #[] evV 3 cmpE blk off size w := fun m os dk _ x y => by
  refine (closureE x y (sortWorldK evV 3 w blk off m dk os)).mono ?_
  rintro e w' ⟨rfl, q, a, b, rfl⟩
  exact ⟨rfl, q, #[a, b], rfl⟩

/-- The sorted list of spans. -/
def sortedS (l : List (Int × Int × Int)) : List (Int × Int × Int) := l.mergeSort fun x y => !ltOf cmpS y x

theorem sortS_some (blk off cap : Nat) (d : Array (Int × Int × Int)) (w : World) (hH : HoldsK spV 3 w blk off d) (hblk : blk < w.heap.size) (hsz : d.size < 4611686018427387904) :
    Calls Tryz.prog 43 #[.slice (some ⟨blk, off, none⟩) d.size cap, .func (.func 44) #[] #[]] w fun e w' => e = .returned (.tuple #[]) ∧ ∃ n os, w' = sortWorldK spV 3 w blk off n (sortedS d.toList).toArray os :=
  AnyQ.slices_SortFunc_total Tryz.sortSp 3 Tryz.isAgg73 Tryz.sizeOf73 spV spV_len spV_one cmpS swoS 44 #[] blk off cap d w (enters_of Tryz.func44 (by kernel_rfl) rfl) (layS blk off d.size w) hH hblk hsz totalS

theorem sortE_some (blk off cap : Nat) (d : Array (Int × Int × Int)) (w : World) (hH : HoldsK evV 3 w blk off d) (hblk : blk < w.heap.size) (hsz : d.size < 4611686018427387904) :
    Calls Tryz.prog 58 #[.slice (some ⟨blk, off, none⟩) d.size cap, .func (.func 59) #[] #[]] w fun e w' => e = .returned (.tuple #[]) ∧
      ∃ d' n os, PermIn 0 d.size d d' ∧ SortedIn (ltOf cmpE) 0 d.size d' ∧ w' = sortWorldK evV 3 w blk off n d' os :=
  AnyQ.slices_SortFunc Tryz.sortEv 3 Tryz.isAgg125 Tryz.sizeOf125 evV evV_len evV_one cmpE swoE 59 #[] blk off cap d w (enters_of Tryz.func59 (by kernel_rfl) rfl) (layE blk off d.size w) hH hblk hsz

theorem sortS_none (p : Option Addr) (cap : Nat) (fv : Value) (w : World) : Calls Tryz.prog 43 #[.slice p 0 cap, fv] w fun e w' => e = .returned (.tuple #[]) ∧ w' = w := AnyF.slices_SortFunc_none Tryz.sortSp p cap fv w
theorem sortE_none (p : Option Addr) (cap : Nat) (fv : Value) (w : World) : Calls Tryz.prog 58 #[.slice p 0 cap, fv] w fun e w' => e = .returned (.tuple #[]) ∧ w' = w := AnyF.slices_SortFunc_none Tryz.sortEv p cap fv w
theorem sortS6_none (p : Option Addr) (cap : Nat) (fv : Value) (w : World) : Calls Tryz.prog 51 #[.slice p 0 cap, fv] w fun e w' => e = .returned (.tuple #[]) ∧ w' = w := AnyF.slices_SortFunc_none Tryz.sortSp6 p cap fv w
theorem sortE6_none (p : Option Addr) (cap : Nat) (fv : Value) (w : World) : Calls Tryz.prog 65 #[.slice p 0 cap, fv] w fun e w' => e = .returned (.tuple #[]) ∧ w' = w := AnyF.slices_SortFunc_none Tryz.sortEv6 p cap fv w

end Go.Proofs.Qxb6618911aGreat
