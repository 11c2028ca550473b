/-
  zzCover.
-/
import Derived.Test.Qxb6618911aGreatIns32
import Derived.Test.Qxb6618911aGreatPre4
namespace Go.Proofs.Qxb6618911aGreat
open Go.RowKit Go.Lib

theorem Gr.own {w wr wr' : World} {e : TypeId} {ao : Option Addr} {n cap : Nat} {xs : List Value} (h : Gr w wr) (o : OR wr w.heap.size e ao n cap xs) (g : wr.grownBy wr' (blkOf ao)) : Gr w wr' :=
  ⟨g.os.trans h.os, g.tape.trans h.tape, g.output.trans h.output, Nat.le_trans h.size g.size, fun q hq => (g.block q (Nat.lt_of_lt_of_le hq h.size) (fun e => by
    obtain ⟨_, h2⟩ := o
    rcases h2 with ⟨rfl, _⟩ | ⟨g', f, rfl, h4, _⟩
    · cases e
    · have := Option.some.inj e
      simp only at this
      omega)).trans (h.block q hq)⟩

/-- The sources of the first k spans that hold p, ascending. -/
def CovIs (fl fh fs : Nat → Int) (k : Nat) (p : Int) (ys : List Int) : Prop := ys.Pairwise (· < ·) ∧ ys.length ≤ k ∧ ∀ q, q ∈ ys ↔ ∃ i, i < k ∧ fl i ≤ p ∧ p ≤ fh i ∧ fs i = q

theorem CovIs.skip {fl fh fs : Nat → Int} {k : Nat} {p : Int} {ys : List Int} (h : CovIs fl fh fs k p ys) (hn : ¬ (fl k ≤ p ∧ p ≤ fh k)) : CovIs fl fh fs (k + 1) p ys :=
  ⟨h.1, by have := h.2.1; omega, fun q => by
    rw [h.2.2]
    constructor
    · rintro ⟨i, a, b⟩; exact ⟨i, by omega, b⟩
    · rintro ⟨i, a, b, c, d⟩
      by_cases e : i = k
      · subst e; exact absurd ⟨b, c⟩ hn
      · exact ⟨i, by omega, b, c, d⟩⟩

theorem CovIs.add {fl fh fs : Nat → Int} {k : Nat} {p : Int} {ys zs : List Int} (h : CovIs fl fh fs k p ys) (h1 : fl k ≤ p) (h2 : p ≤ fh k) (ha : zs.Pairwise (· < ·)) (hl : zs.length ≤ ys.length + 1) (hm : ∀ q, q ∈ zs ↔ q = fs k ∨ q ∈ ys) : CovIs fl fh fs (k + 1) p zs :=
  ⟨ha, by have := h.2.1; omega, fun q => by
    rw [hm, h.2.2]
    constructor
    · rintro (rfl | ⟨i, a, b⟩)
      · exact ⟨k, by omega, h1, h2, rfl⟩
      · exact ⟨i, by omega, b⟩
    · rintro ⟨i, a, b, c, d⟩
      by_cases e : i = k
      · subst e; exact .inl d.symm
      · exact .inr ⟨i, by omega, b, c, d⟩⟩

/-- Behind zzCover. -/
def CovPost (w : World) (fl fh fs : Nat → Int) (n : Nat) (p : Int) (e : Ending) (w' : World) : Prop :=
  ∃ (ao : Option Addr) (ys : List Int) (cap : Nat), e = .returned (.slice ao ys.length cap) ∧ CovIs fl fh fs n p ys ∧ OR w' w.heap.size 21 ao ys.length cap (ys.map (.int .i32)) ∧ Gr w w'

set_option maxRecDepth 100000 in
set_option maxHeartbeats 2000000 in
theorem cover_any (p : Int) (la ha sa : Option Addr) (n c1 c2 c3 : Nat) (fl fh fs : Nat → Int) (w : World) (hn : n ≤ 1024) (h1 : Row w 0 w.heap.size la n (fun i => .int .u32 (fl i))) (h2 : Row w 0 w.heap.size ha n (fun i => .int .u32 (fh i))) (h3 : Row w 0 w.heap.size sa n (fun i => .int .i32 (fs i))) :
    Calls Tryz.prog 41 #[.int .u32 p, .slice la n c1, .slice ha n c2, .slice sa n c3] w fun e w' => CovPost w fl fh fs n p e w' := by
  have H : Hid (Row w 0 w.heap.size la n (fun i => .int .u32 (fl i)) ∧ Row w 0 w.heap.size ha n (fun i => .int .u32 (fh i)) ∧ Row w 0 w.heap.size sa n (fun i => .int .i32 (fs i))) := ⟨h1, h2, h3⟩
  clear h1 h2 h3
  go_enter Tryz.func41, Tryz.ntmps41
  go_wp2
  go_loopg [9, 10] n (fun gk x9 x10 wr => ∃ (k : Nat) (ao : Option Addr) (ys : List Int) (cap : Nat), k ≤ n ∧ gk = n - k ∧ x9 = .slice ao ys.length cap ∧ x10 = .int .i64 k ∧ Hid (CovIs fl fh fs k p ys ∧ OR wr w.heap.size 21 ao ys.length cap (ys.map (.int .i32)) ∧ Gr w wr))
  case atStart => exact ⟨0, none, [], 0, by omega, rfl, rfl, rfl, ⟨.nil, by simp, fun q => by simp⟩, ⟨rfl, .inl ⟨rfl, rfl, rfl⟩⟩, Gr.refl _⟩
  case round =>
    obtain ⟨k, ao, ys, cap, hk, hgk, rfl, rfl, HX⟩ := hrel
    by_cases hlt : k < n
    · have hlt' : (k : Int) < (n : Int) := by omega
      obtain ⟨b1, o1, rfl, d1⟩ := (HX.out.2.2.row H.out.1).cell (i := k) hlt
      obtain ⟨b2, o2, rfl, d2⟩ := (HX.out.2.2.row H.out.2.1).cell (i := k) hlt
      obtain ⟨b3, o3, rfl, d3⟩ := (HX.out.2.2.row H.out.2.2).cell (i := k) hlt
      by_cases q1 : fl k ≤ p
      · by_cases q2 : p ≤ fh k
        · have hl := HX.out.1.2.1
          go_wp2_with fail
          refine (insi32_any w.heap.size ao ys.length cap ys (fs k) wr HX.out.2.1 HX.out.1.1 (by omega) HX.out.2.2.size).mono ?_
          rintro e w' ⟨ao', zs, cap', rfl, hz1, hz2, hz3, hz4, hz5⟩
          have NX : Hid (CovIs fl fh fs (k + 1) p zs ∧ OR w' w.heap.size 21 ao' zs.length cap' (zs.map (.int .i32)) ∧ Gr w w') := ⟨HX.out.1.add q1 q2 hz1 hz5 hz2, hz3, HX.out.2.2.own HX.out.2.1 hz4⟩
          clear hz1 hz2 hz3 hz4 hz5 HX d1 d2 d3
          go_wp2
          go_roundg (n - (k + 1))
          case measure => omega
          case rel => exact ⟨k + 1, ao', zs, cap', by omega, rfl, rfl, by go_num, NX⟩
        · have q2' : decide (p ≤ fh k) = false := by simpa using q2
          have NX : Hid (CovIs fl fh fs (k + 1) p ys) := HX.out.1.skip fun h => q2 h.2
          clear q2
          go_wp2
          go_roundg (n - (k + 1))
          case measure => omega
          case rel => exact ⟨k + 1, ao, ys, cap, by omega, rfl, rfl, by go_num, NX.out, HX.out.2⟩
      · have q1' : decide (fl k ≤ p) = false := by simpa using q1
        have NX : Hid (CovIs fl fh fs (k + 1) p ys) := HX.out.1.skip fun h => q1 h.1
        clear q1
        go_wp2
        go_roundg (n - (k + 1))
        case measure => omega
        case rel => exact ⟨k + 1, ao, ys, cap, by omega, rfl, rfl, by go_num, NX.out, HX.out.2⟩
    · obtain rfl : n = k := by omega
      go_wp2
      go_ret
      exact ⟨ao, ys, cap, rfl, HX.out.1, HX.out.2.1, HX.out.2.2⟩
end Go.Proofs.Qxb6618911aGreat
