/-
  ZZBuilder4.
-/
import Derived.Test.Qxb6618911aGreatReg
import Derived.Test.Qxb6618911aGreatTree
namespace Go.Proofs.Qxb6618911aGreat
open Go.RowKit Go.Lib

theorem info73 : (Tryz.prog.info? 73).map (fun i => (i.zero, i.size, i.bytes)) = some (some (.agg #[.int .u32 0, .int .u32 0, .int .i32 0]), 3, 12) := by kernel_rfl

/-- The builder's four fields. -/
def bF (nao : Option Addr) (nn ncap mb : Nat) (sao : Option Addr) (n : Nat) : Nat → Value
  | 0 => .slice nao nn ncap
  | 1 => .map (some mb)
  | 2 => .slice sao n n
  | _ => .slice none 0 0

/-- Behind ZZBuilder4. -/
def BldPost (w : World) (nao : Option Addr) (nn ncap n : Nat) (d : Nat → Int × Int × Int) (e : Ending) (w' : World) : Prop :=
  ∃ bb mb sao, e = .returned (.pointer (some ⟨bb, 0, none⟩)) ∧ w'.rowIs bb 70 4 (bF nao nn ncap mb sao n) ∧ w.heap.size ≤ bb ∧ w.grownBy w' none ∧
    ((n = 0 ∧ sao = none) ∨ (0 < n ∧ ∃ sb, sao = some ⟨sb, 0, none⟩ ∧ w.heap.size ≤ sb ∧ sb ≠ bb ∧ R3 spV w' sb n d))

theorem made_R3 {w : World} {b n : Nat} (h : w.heap[b]? = some (.cells (madeCells #[.int .u32 0, .int .u32 0, .int .i32 0] (n * 3)) 73)) : R3 spV w b n (fun _ => (0, 0, 0)) := by
  intro i hi c hc
  refine ⟨?_, by simp [World.frozen?, h]⟩
  have hl : i * 3 + c < n * 3 := by omega
  simp only [World.cell?, h]
  simp [madeCells, hl]
  match c, hc with
  | 0, _ => rfl
  | 1, _ => rfl
  | 2, _ => rfl

set_option maxRecDepth 100000 in
set_option maxHeartbeats 2000000 in
theorem builder_any (nao : Option Addr) (nn ncap : Nat) (nm : Nat → ByteArray) (la ha sa : Option Addr) (n c1 c2 c3 : Nat) (fl fh fs : Nat → Int) (w : World) (hnn : nn ≤ 4096) (hn : n ≤ 1024) (hs : ∀ i, i < nn → (nm i).size ≤ 1048576)
    (hr : Row w 0 w.heap.size nao nn (fun i => Value.string (nm i))) (h1 : Row w 0 w.heap.size la n (fun i => .int .u32 (fl i))) (h2 : Row w 0 w.heap.size ha n (fun i => .int .u32 (fh i))) (h3 : Row w 0 w.heap.size sa n (fun i => .int .i32 (fs i))) :
    Calls Tryz.prog 11 #[.slice nao nn ncap, .slice la n c1, .slice ha n c2, .slice sa n c3] w fun e w' => BldPost w nao nn ncap n (fun i => (fl i, fh i, fs i)) e w' := by
  have HA : Hid (Row w 0 w.heap.size la n (fun i => .int .u32 (fl i)) ∧ Row w 0 w.heap.size ha n (fun i => .int .u32 (fh i)) ∧ Row w 0 w.heap.size sa n (fun i => .int .i32 (fs i))) := ⟨h1, h2, h3⟩
  clear h1 h2 h3
  go_enter Tryz.func11, Tryz.ntmps11
  go_wp2_with fail
  refine (reg_any nao nn ncap nm w hnn hs hr).mono ?_
  rintro e w1 ⟨mb, rfl, g1⟩
  clear hs hr
  have G1 : Hid (w.grownBy w1 none) := g1
  clear g1
  rcases Nat.eq_zero_or_pos n with h0 | h0
  · subst h0
    go_wp2
    go_ret
    refine ⟨w1.heap.size, mb, none, rfl, ?_, G1.out.size, grownBy_trans G1.out (World.grownBy_alloc _ _ _), .inl ⟨rfl, rfl⟩⟩
    refine ⟨#[.slice nao nn ncap, .map (some mb), .slice none 0 0, .slice none 0 0], alloc_new _ _, rfl, fun i hi => ?_⟩
    match i, hi with
    | 0, _ => rfl
    | 1, _ => rfl
    | 2, _ => rfl
    | 3, _ => rfl
  · have h0' : (0 : Int) < (n : Int) := by omega
    have mk := fun w => makeK 67 73 (.agg #[.int .u32 0, .int .u32 0, .int .i32 0]) 3 12 Tryz.underlying67 info73 n n (by omega) (by omega) (by omega) w
    go_wp2
    clear mk
    generalize hw2 : (w1.alloc _).alloc _ = w2
    have H2 : Hid (w.grownBy w2 none ∧ w2.heap.size = w1.heap.size + 2 ∧ w2.rowIs w1.heap.size 70 4 (bF nao nn ncap mb (some ⟨w1.heap.size + 1, 0, none⟩) n) ∧ R3 spV w2 (w1.heap.size + 1) n (fun _ => (0, 0, 0))) := by
      rw [← hw2]
      refine ⟨grownBy_trans G1.out (grownBy_trans (World.grownBy_alloc _ _ _) (World.grownBy_alloc _ _ _)), by simp, ⟨#[.slice nao nn ncap, .map (some mb), .slice (some ⟨w1.heap.size + 1, 0, none⟩) n n, .slice none 0 0], ?_, rfl, fun i hi => ?_⟩, ?_⟩
      · rw [Below.heap_alloc _ _ _ (by simp)]; exact alloc_new _ _
      · match i, hi with
        | 0, _ => rfl
        | 1, _ => rfl
        | 2, _ => rfl
        | 3, _ => rfl
      · have hb := alloc_new (w1.alloc (.cells #[.slice nao nn ncap, .map (some mb), .slice (some ⟨w1.heap.size + 1, 0, none⟩) n n, .slice none 0 0] 70)) (.cells (madeCells #[.int .u32 0, .int .u32 0, .int .i32 0] (n * 3)) 73)
        rw [show (w1.alloc (.cells #[.slice nao nn ncap, .map (some mb), .slice (some ⟨w1.heap.size + 1, 0, none⟩) n n, .slice none 0 0] 70)).heap.size = w1.heap.size + 1 from by simp] at hb
        exact made_R3 hb
    clear hw2
    go_loopg [26] n (fun gk x26 wr => ∃ k : Nat, k ≤ n ∧ gk = n - k ∧ x26 = .int .i64 (k : Int) ∧ Hid (R3 spV wr (w1.heap.size + 1) n (fun i => if i < k then (fl i, fh i, fs i) else (0, 0, 0)) ∧ w2.grownBy wr (some (w1.heap.size + 1))))
    case atStart => exact ⟨0, by omega, rfl, rfl, H2.out.2.2.2.congr fun i _ => by simp, (Alk.refl _).grown _⟩
    case round =>
      obtain ⟨k, hk, hgk, rfl, HK⟩ := hrel
      have hsz := G1.out.size
      by_cases hlt : k < n
      · have hlt' : (k : Int) < (n : Int) := by omega
        have old : ∀ {b o : Nat} {v : Value}, b < w.heap.size → w.cell? ⟨b, o, none⟩ = some v → wr.cell? ⟨b, o, none⟩ = some v := fun {b o v} hb hc => HK.out.2.cell (H2.out.1.cell hc (by simp)) (fun e => by have := Option.some.inj e; simp at this; omega)
        obtain ⟨b1, o1, rfl, -, e1, d1⟩ := HA.out.1 k hlt
        obtain ⟨b2, o2, rfl, -, e2, d2⟩ := HA.out.2.1 k hlt
        obtain ⟨b3, o3, rfl, -, e3, d3⟩ := HA.out.2.2 k hlt
        have k1 := old e1 d1
        have k2 := old e2 d2
        have k3 := old e3 d3
        have k4 : wr.cell? ⟨w1.heap.size, 2, none⟩ = some (.slice (some ⟨w1.heap.size + 1, 0, none⟩) n n) := HK.out.2.cell (H2.out.2.2.1.cell (i := 2) (by omega)) (fun e => by have := Option.some.inj e; simp at this)
        obtain ⟨m0, m1, m2, q0, q1, q2⟩ := HK.out.1.three hlt
        clear old d1 d2 d3 e1 e2 e3 hsz
        go_wp2
        go_region
        go_wp2
        go_roundg (n - (k + 1))
        case measure => omega
        case rel =>
          refine ⟨k + 1, by omega, rfl, by go_num, ((HK.out.1.alk (w' := wr.drew) ⟨rfl, rfl, rfl, rfl⟩).set (fl k, fh k, fs k) hlt).congr fun i hi => ?_, grownBy_trans HK.out.2 (grownBy_trans ((⟨rfl, rfl, rfl, rfl⟩ : Alk wr.drew wr).grown _) (set3_grown _ _ _ _ _ _ _ _))⟩
          by_cases e : i = k
          · subst e; rw [upd_same, if_pos (by omega)]
          · rw [upd_other _ _ e]
            by_cases e2 : i < k
            · rw [if_pos e2, if_pos (by omega)]
            · rw [if_neg e2, if_neg (by omega)]
      · obtain rfl : n = k := by omega
        go_wp2
        go_ret
        have g := HK.out.2
        refine ⟨w1.heap.size, mb, some ⟨w1.heap.size + 1, 0, none⟩, rfl, H2.out.2.2.1.of_block (g.block _ H2.out.2.2.1.lt (fun e => by have := Option.some.inj e; omega)), hsz, ?_, .inr ⟨h0, w1.heap.size + 1, rfl, by omega, by omega, HK.out.1.congr fun i hi => by rw [if_pos hi]⟩⟩
        have g0 := H2.out.1
        exact ⟨g.os.trans g0.os, g.tape.trans g0.tape, g.output.trans g0.output, Nat.le_trans g0.size g.size, fun q hq _ => (g.block q (Nat.lt_of_lt_of_le hq g0.size) (fun e => by have := Option.some.inj e; omega)).trans (g0.block q hq (by simp))⟩
end Go.Proofs.Qxb6618911aGreat
