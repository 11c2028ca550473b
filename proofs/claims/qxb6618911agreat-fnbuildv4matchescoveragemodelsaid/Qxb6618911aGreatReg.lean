/-
  ZZRegistryOf.
-/
import Derived.Test.Qxb6618911aGreatItn
namespace Go.Proofs.Qxb6618911aGreat
open Go.RowKit Go.Lib

theorem mkmap63 (n : Nat) (w : World) : (Instr.makeMap 63 (some (.int .i64 n))).run Tryz.prog w = .ok (.map (some w.heap.size)) (w.alloc (.map #[] 0)) := by
  simp [Instr.makeMap, run_underlying Tryz.underlying63, asInt, asIntOf]

def RegPost (w : World) (nao : Option Addr) (n ncap : Nat) (e : Ending) (w' : World) : Prop :=
  ∃ mb, e = .returned (.agg #[.slice nao n ncap, .map (some mb)]) ∧ w.grownBy w' none

set_option maxRecDepth 100000 in
set_option maxHeartbeats 2000000 in
theorem reg_any (nao : Option Addr) (n ncap : Nat) (nm : Nat → ByteArray) (w : World) (hn : n ≤ 4096) (hs : ∀ i, i < n → (nm i).size ≤ 1048576) (hr : Row w 0 w.heap.size nao n (fun i => Value.string (nm i))) :
    Calls Tryz.prog 31 #[.slice nao n ncap] w fun e w' => RegPost w nao n ncap e w' := by
  have HS : Hid (∀ i, i < n → (nm i).size ≤ 1048576) := hs
  have HR : Hid (Row w 0 w.heap.size nao n (fun i => Value.string (nm i))) := hr
  clear hs hr
  have mm := fun w => mkmap63 n w
  go_enter Tryz.func31, Tryz.ntmps31
  go_wp2
  clear mm
  generalize hw1 : (w.alloc _).alloc _ = w1
  have H1 : Hid (w1.ownsMap (H := Unit) Tryz.prog 9 (plainElem Tryz.prog 21) (w.heap.size + 1) 0 (.map []) ∧ w.grownBy w1 none ∧ w1.heap.size = w.heap.size + 2 ∧ w1.heap[w.heap.size]? = some (.cells #[.slice none 0 0, .map none] 65)) := by
    rw [← hw1]
    refine ⟨?_, ⟨rfl, rfl, rfl, by simp; omega, fun k hk _ => by rw [Below.heap_alloc _ _ _ (by simp; omega), Below.heap_alloc _ _ _ hk]⟩, by simp, ?_⟩
    · have := World.ownsMap_made (H := Unit) (w.alloc (.cells #[.slice none 0 0, .map none] 65)) Tryz.prog 9 (plainElem Tryz.prog 21)
      simpa using this
    · rw [Below.heap_alloc _ _ _ (by simp)]; exact alloc_new _ _
  clear hw1
  go_loopg [11] n (fun gk x11 wr => ∃ (k : Nat) (D : DataW Unit), k ≤ n ∧ gk = n - k ∧ x11 = .int .i64 (k : Int) ∧ Hid (wr.ownsMap Tryz.prog 9 (plainElem Tryz.prog 21) (w.heap.size + 1) k D ∧ w1.grownBy wr (some (w.heap.size + 1))))
  case atStart => exact ⟨0, _, by omega, rfl, rfl, H1.out.1, (Alk.refl _).grown _⟩
  case round =>
    obtain ⟨k, D, hk, hgk, rfl, HK⟩ := hrel
    by_cases hlt : k < n
    · have hlt' : (k : Int) < (n : Int) := by omega
      obtain ⟨b, off, rfl, -, hb, hc⟩ := HR.out k hlt
      have hc1 : wr.cell? ⟨b, off + k, none⟩ = some (.string (nm k)) := HK.out.2.cell (H1.out.2.1.cell hc (by simp)) (fun e => by have := Option.some.inj e; simp at this; omega)
      have hwf : (Lit.int .i32 (k : Int)).wf = true := by
        have h1 : IntKind.i32.min = -2147483648 := rfl
        have h2 : IntKind.i32.max = 2147483647 := rfl
        simp [Lit.wf, h1, h2]
        omega
      have hsz := HS.out k hlt
      obtain ⟨w2, r2, o2, g2⟩ := HK.out.1.update (Go.Maps.string_keyed Tryz.underlying9) Tryz.underlying63 (by unfold maxLen; omega) (Go.WideMaps.keyOf_string_mk (P := Tryz.prog) Tryz.underlying9 (s := nm k) (by unfold maxLen; omega)) (plainElem_int Tryz.underlying21 hwf)
      have H2 : Hid (w2.ownsMap Tryz.prog 9 (plainElem Tryz.prog 21) (w.heap.size + 1) (k + 1) (D.put (.string (nm k).data.toList) (.lit (.int .i32 (k : Int)))) ∧ wr.grownBy w2 (some (w.heap.size + 1))) := ⟨o2, g2⟩
      clear o2 g2 hc hwf hsz
      go_wp2
      go_roundg (n - (k + 1))
      case measure => omega
      case rel => exact ⟨k + 1, _, by omega, rfl, by go_num, H2.out.1, grownBy_trans HK.out.2 H2.out.2⟩
    · obtain rfl : n = k := by omega
      have hs1 := H1.out.2.2.1
      have z : wr.heap[w.heap.size]? = some (.cells #[.slice none 0 0, .map none] 65) := by
        rw [HK.out.2.block _ (by omega) (fun e => by have := Option.some.inj e; omega)]; exact H1.out.2.2.2
      have x0 : wr.cell? ⟨w.heap.size, 0, none⟩ = some (.slice none 0 0) := by simp [World.cell?, z]
      have x1 : wr.cell? ⟨w.heap.size, 1, none⟩ = some (.map none) := by simp [World.cell?, z]
      have f0 : wr.frozen? ⟨w.heap.size, 0, none⟩ = false := by simp [World.frozen?, z]
      have f1 : wr.frozen? ⟨w.heap.size, 1, none⟩ = false := by simp [World.frozen?, z]
      clear z hs1
      go_wp2
      refine bodyPost_ret (v := .agg #[.slice nao n ncap, .map (some (w.heap.size + 1))]) (by simp [results, Tryz.results31, x0, x1, go_sem]) rfl ?_
      have hs1 := H1.out.2.2.1
      have g := HK.out.2
      refine ⟨w.heap.size + 1, rfl, g.os.trans H1.out.2.1.os, g.tape.trans H1.out.2.1.tape, g.output.trans H1.out.2.1.output, ?_, fun q hq _ => ?_⟩
      · have := Nat.le_trans H1.out.2.1.size g.size
        simpa [World.setCell] using this
      · rw [Below.heap_setCell _ _ _ _ (by show q ≠ w.heap.size; omega), Below.heap_setCell _ _ _ _ (by show q ≠ w.heap.size; omega), g.block q (by omega) (fun e => by have := Option.some.inj e; omega)]
        exact H1.out.2.1.block q hq (by simp)
end Go.Proofs.Qxb6618911aGreat
