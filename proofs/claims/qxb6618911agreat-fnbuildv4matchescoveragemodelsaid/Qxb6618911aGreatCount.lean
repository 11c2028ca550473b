/-
  zzCountDistinct.
-/
import Derived.Test.Qxb6618911aGreatSame
import Derived.Deep.LoopGhost
import Derived.Deep.CutBlock
import Derived.Deep.DeepCutAuto
namespace Go.Proofs.Qxb6618911aGreat
open Go.RowKit

/-- L holds each of the first k once. -/
def Dist (d : Nat → Int × Int × Int) (k : Nat) (L : List (Int × Int × Int)) : Prop := L.Nodup ∧ ∀ x, x ∈ L ↔ ∃ j, j < k ∧ d j = x

theorem Dist.old {d : Nat → Int × Int × Int} {k : Nat} {L : List (Int × Int × Int)} (h : Dist d k L) {j : Nat} (hj : j < k) (e : d j = d k) : Dist d (k + 1) L :=
  ⟨h.1, fun x => by
    rw [h.2]
    constructor
    · rintro ⟨i, hi, rfl⟩; exact ⟨i, by omega, rfl⟩
    · rintro ⟨i, hi, rfl⟩
      by_cases c : i = k
      · subst c; exact ⟨j, hj, e⟩
      · exact ⟨i, by omega, rfl⟩⟩

theorem Dist.new {d : Nat → Int × Int × Int} {k : Nat} {L : List (Int × Int × Int)} (h : Dist d k L) (hn : ∀ j, j < k → d j ≠ d k) : Dist d (k + 1) (d k :: L) :=
  ⟨List.nodup_cons.2 ⟨fun hm => by obtain ⟨j, h1, h2⟩ := (h.2 _).1 hm; exact hn j h1 h2, h.1⟩, fun x => by
    rw [List.mem_cons, h.2]
    constructor
    · rintro (rfl | ⟨i, hi, rfl⟩)
      · exact ⟨k, by omega, rfl⟩
      · exact ⟨i, by omega, rfl⟩
    · rintro ⟨i, hi, rfl⟩
      by_cases c : i = k
      · subst c; exact .inl rfl
      · exact .inr ⟨i, by omega, rfl⟩⟩

set_option maxRecDepth 20000 in
set_option maxHeartbeats 1000000 in
theorem count_any (a b c : Option Addr) (B n c1 c2 c3 : Nat) (fl fh fs : Nat → Int) (w : World) (hn : n ≤ 1024) (h1 : Row w 0 B a n (fun i => .int .u32 (fl i))) (h2 : Row w 0 B b n (fun i => .int .u32 (fh i))) (h3 : Row w 0 B c n (fun i => .int .i32 (fs i))) :
    Calls Tryz.prog 29 #[.slice a n c1, .slice b n c2, .slice c n c3] w fun e w' => (∃ L, e = .returned (.int .i64 (L.length : Nat)) ∧ Dist (fun i => (fl i, fh i, fs i)) n L) ∧ Alk w' w := by
  have H : Hid (Row w 0 B a n (fun i => .int .u32 (fl i)) ∧ Row w 0 B b n (fun i => .int .u32 (fh i)) ∧ Row w 0 B c n (fun i => .int .i32 (fs i))) := ⟨h1, h2, h3⟩
  clear h1 h2 h3
  go_enter Tryz.func29, Tryz.ntmps29
  go_wp2
  go_loopg [7, 8, 9, 10] n (fun gk x7 x8 x9 x10 wr => ∃ (k : Nat) (L : List (Int × Int × Int)), k ≤ n ∧ L.length ≤ k ∧ gk = n - k ∧ x7 = .int .i64 (L.length : Nat) ∧ x8 = .int .i64 k ∧ Hid (Alk wr w) ∧ Hid (Dist (fun i => (fl i, fh i, fs i)) k L))
  case atStart => exact ⟨0, [], by omega, by simp, rfl, rfl, rfl, Alk.refl _, .nil, fun x => by simp⟩
  case round =>
    obtain ⟨k, L, hk, hL, hgk, rfl, rfl, HA, HD⟩ := hrel
    by_cases hlt : k < n
    · have hlt' : (k : Int) < (n : Int) := by omega
      go_upto_block 2 with fail
      go_cut [9, 10] (fun x9 x10 wx => ∃ b : Bool, x9 = .bool b ∧ Hid (Alk wx w) ∧ Hid ((b = true → ∃ j, j < k ∧ (fl j, fh j, fs j) = (fl k, fh k, fs k)) ∧ (b = false → ∀ j, j < k → (fl j, fh j, fs j) ≠ (fl k, fh k, fs k))))
      case first =>
        go_wp2
        go_loopg [9, 10] k (fun gk x9 x10 wr => ∃ j : Nat, j ≤ k ∧ gk = k - j ∧ x9 = .bool false ∧ x10 = .int .i64 j ∧ Hid (Alk wr w) ∧ Hid (∀ i, i < j → (fl i, fh i, fs i) ≠ (fl k, fh k, fs k)))
        case atStart => exact ⟨0, by omega, rfl, rfl, rfl, HA, fun i hi => by omega⟩
        case round =>
          clear HA
          obtain ⟨j, hj, hgj, rfl, rfl, HB, HJ⟩ := hrel
          by_cases hlt2 : j < k
          · have hlt2' : (j : Int) < (k : Int) := by omega
            have hjn : (j : Int) < (n : Int) := by omega
            obtain ⟨b1, o1, rfl, d1⟩ := H.out.1.cell (i := k) hlt
            obtain ⟨b1', o1', e1', d1'⟩ := H.out.1.cell (i := j) (by omega)
            obtain ⟨b2, o2, rfl, d2⟩ := H.out.2.1.cell (i := k) hlt
            obtain ⟨b2', o2', e2', d2'⟩ := H.out.2.1.cell (i := j) (by omega)
            obtain ⟨b3, o3, rfl, d3⟩ := H.out.2.2.cell (i := k) hlt
            obtain ⟨b3', o3', e3', d3'⟩ := H.out.2.2.cell (i := j) (by omega)
            obtain ⟨rfl, rfl⟩ : b1 = b1' ∧ o1 = o1' := by simpa using e1'
            obtain ⟨rfl, rfl⟩ : b2 = b2' ∧ o2 = o2' := by simpa using e2'
            obtain ⟨rfl, rfl⟩ : b3 = b3' ∧ o3 = o3' := by simpa using e3'
            rw [← HB.out.cell] at d1 d1' d2 d2' d3 d3'
            clear e1' e2' e3'
            by_cases q1 : fl j = fl k
            · have q1' : (fl j == fl k) = true := by simpa using q1
              have Q1 : Hid (fl j = fl k) := q1
              clear q1
              by_cases q2 : fh j = fh k
              · have q2' : (fh j == fh k) = true := by simpa using q2
                have Q2 : Hid (fh j = fh k) := q2
                clear q2
                by_cases q3 : fs j = fs k
                · have q3' : (fs j == fs k) = true := by simpa using q3
                  have Q3 : Hid (fs j = fs k) := q3
                  clear q3
                  go_wp2
                  go_quiet (fail)
                  go_wp2
                  go_meet
                  exact ⟨true, rfl, (Alk.drewN _ _).trans HB.out, fun _ => ⟨j, hlt2, by rw [Q1.out, Q2.out, Q3.out]⟩, fun h => by cases h⟩
                · have q3' : (fs j == fs k) = false := by simpa using q3
                  have HN : Hid ((fl j, fh j, fs j) ≠ (fl k, fh k, fs k)) := fun h => q3 (congrArg (fun x => x.2.2) h)
                  clear q3
                  go_wp2
                  go_quiet (fail)
                  go_wp2
                  go_roundg (k - (j + 1))
                  case measure => omega
                  case rel => exact ⟨j + 1, by omega, rfl, rfl, by go_num, (Alk.drewN _ _).trans HB.out, fun i hi => by
                    by_cases e : i = j
                    · subst e; exact HN.out
                    · exact HJ.out i (by omega)⟩
              · have q2' : (fh j == fh k) = false := by simpa using q2
                have HN : Hid ((fl j, fh j, fs j) ≠ (fl k, fh k, fs k)) := fun h => q2 (congrArg (fun x => x.2.1) h)
                clear q2
                go_wp2
                go_quiet (fail)
                go_wp2
                go_roundg (k - (j + 1))
                case measure => omega
                case rel => exact ⟨j + 1, by omega, rfl, rfl, by go_num, (Alk.drewN _ _).trans HB.out, fun i hi => by
                  by_cases e : i = j
                  · subst e; exact HN.out
                  · exact HJ.out i (by omega)⟩
            · have q1' : (fl j == fl k) = false := by simpa using q1
              have HN : Hid ((fl j, fh j, fs j) ≠ (fl k, fh k, fs k)) := fun h => q1 (congrArg (fun x => x.1) h)
              clear q1
              go_wp2
              go_quiet (fail)
              go_wp2
              go_roundg (k - (j + 1))
              case measure => omega
              case rel => exact ⟨j + 1, by omega, rfl, rfl, by go_num, (Alk.drewN _ _).trans HB.out, fun i hi => by
                by_cases e : i = j
                · subst e; exact HN.out
                · exact HJ.out i (by omega)⟩
          · obtain rfl : k = j := by omega
            have hnlt : decide ((k : Int) < (k : Int)) = false := by simp
            go_wp2
            go_meet
            exact ⟨false, rfl, HB, ⟨fun h => (by cases h), fun _ => HJ.out⟩⟩
      case rest =>
        obtain ⟨dup, rfl, HB, HC⟩ := hcut
        clear HA
        rcases dup with _ | _
        · go_wp2
          go_roundg (n - (k + 1))
          case measure => omega
          case rel => exact ⟨k + 1, (fl k, fh k, fs k) :: L, by omega, by simp; omega, rfl, by simp, by go_num, HB, HD.out.new (HC.out.2 (by simp))⟩
        · go_wp2
          go_roundg (n - (k + 1))
          case measure => omega
          case rel => exact ⟨k + 1, L, by omega, by omega, rfl, rfl, by go_num, HB, (by obtain ⟨j, h1, h2⟩ := HC.out.1 (by simp); exact HD.out.old h1 h2)⟩
    · obtain rfl : n = k := by omega
      go_wp2
      go_ret
      exact ⟨⟨L, rfl, HD.out⟩, HA.out⟩
end Go.Proofs.Qxb6618911aGreat
