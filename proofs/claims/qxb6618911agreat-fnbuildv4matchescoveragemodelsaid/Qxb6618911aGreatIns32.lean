/-
  zzInsertU32 and zzInsertI32.
-/
import Derived.Test.Qxb6618911aGreatInsList
import Derived.Deep.CutBlock
import Derived.Deep.DeepCutAuto
namespace Go.Proofs.Qxb6618911aGreat
open Go.RowKit Go.Lib

theorem Hid.intro' {p : Prop} (h : p) : Hid p := h

theorem info41l : (Tryz.prog.info? 41).map (fun i => (i.zero, i.size, i.bytes)) = some (some (.int .u32 0), 1, 4) := by kernel_rfl
theorem info21l : (Tryz.prog.info? 21).map (fun i => (i.zero, i.size, i.bytes)) = some (some (.int .i32 0), 1, 4) := by kernel_rfl

/-- Behind the insertion into an ascending list. -/
def InLPost (w : World) (base : Nat) (t : TypeId) (k : IntKind) (ao : Option Addr) (xs : List Int) (v : Int) (e : Ending) (w' : World) : Prop :=
  ∃ (ao' : Option Addr) (ys : List Int) (cap' : Nat), e = .returned (.slice ao' ys.length cap') ∧ ys.Pairwise (· < ·) ∧ (∀ q, q ∈ ys ↔ q = v ∨ q ∈ xs) ∧ OR w' base t ao' ys.length cap' (ys.map (.int k)) ∧ w.grownBy w' (blkOf ao) ∧ ys.length ≤ xs.length + 1

set_option maxRecDepth 100000 in
set_option maxHeartbeats 2000000 in
theorem insu32_any (base : Nat) (ao : Option Addr) (n cap : Nat) (xs : List Int) (v : Int) (w : World) (hx : OR w base 41 ao n cap (xs.map (.int .u32))) (hasc : xs.Pairwise (· < ·)) (hn : n ≤ 100000) (hbase : base ≤ w.heap.size) :
    Calls Tryz.prog 40 #[.slice ao n cap, .int .u32 v] w fun e w' => InLPost w base 41 .u32 ao xs v e w' := by
  have hlen : xs.length = n := by have := hx.1; simpa using this
  have HX : Hid (OR w base 41 ao n cap (xs.map (.int .u32)) ∧ xs.Pairwise (· < ·)) := ⟨hx, hasc⟩
  have HN : Hid (xs.length = n) := hlen
  clear hx hasc hlen
  go_enter Tryz.func40, Tryz.ntmps40
  go_upto_block 0 with fail
  go_cut [5] (fun x5 wx => ∃ j : Nat, j ≤ n ∧ x5 = .int .i64 j ∧ wx = w ∧ Hid ((∀ i x, i < j → xs[i]? = some x → x < v) ∧ ∀ x, xs[j]? = some x → v ≤ x))
  case first =>
    go_wp2
    go_loopg [5] n (fun gk x5 wr => ∃ j : Nat, j ≤ n ∧ gk = n - j ∧ x5 = .int .i64 j ∧ wr = w ∧ Hid (∀ i x, i < j → xs[i]? = some x → x < v))
    case atStart => exact ⟨0, Nat.zero_le _, rfl, rfl, rfl, fun i x hi => by omega⟩
    case round =>
      obtain ⟨j, hj, hgk, rfl, rfl, HJ⟩ := hrel
      by_cases hlt : j < n
      · have hlt' : (j : Int) < (n : Int) := by omega
        obtain ⟨y, hy⟩ : ∃ y, xs[j]? = some y := ⟨xs[j]'(by rw [HN.out]; exact hlt), List.getElem?_eq_getElem _⟩
        obtain ⟨g, u, rfl, -, e1, c1, -⟩ := HX.out.1.cell hlt
        rw [List.getElem?_map, hy] at e1
        obtain rfl : u = .int .u32 y := (Option.some.inj e1).symm
        clear e1
        have HY := Hid.intro' hy
        clear hy
        by_cases hc : y < v
        · have HC := Hid.intro' hc
          go_wp2
          go_roundg (n - (j + 1))
          case measure => omega
          case rel => exact ⟨j + 1, by omega, rfl, by go_num, rfl, fun i x hi hx => by
            by_cases e : i = j
            · subst e; rw [HY.out] at hx; cases hx; exact HC.out
            · exact HJ.out i x (by omega) hx⟩
        · have hc' : decide (y < v) = false := by simpa using hc
          have HC := Hid.intro' hc
          clear hc
          go_wp2
          go_meet
          exact ⟨j, by omega, rfl, rfl, HJ.out, fun x hx => by rw [HY.out] at hx; cases hx; have := HC.out; omega⟩
      · obtain rfl : n = j := by omega
        go_wp2
        go_meet
        exact ⟨n, by omega, rfl, rfl, HJ.out, fun x hx => by rw [List.getElem?_eq_none (by rw [HN.out]; omega)] at hx; cases hx⟩
  case rest =>
    obtain ⟨j, hj, rfl, rfl, HJ⟩ := hcut
    have stay : (∃ y, xs[j]? = some y ∧ y = v) → InLPost wc base 41 .u32 ao xs v (.returned (.slice ao n cap)) wc := fun ⟨y, h1, h2⟩ =>
      ⟨ao, xs, cap, by rw [HN.out], HX.out.2, fun q => ⟨.inr, fun h => h.elim (fun e => by rw [e, ← h2]; exact List.mem_of_getElem? h1) id⟩, by rw [HN.out]; exact HX.out.1, ⟨rfl, rfl, rfl, Nat.le_refl _, fun _ _ _ => rfl⟩, by omega⟩
    have STAY := Hid.intro' stay
    clear stay
    -- the append, in whatever way the walk comes to it
    have key : Hid ((∀ x, xs[j]? = some x → v < x) → ∃ g cap' w', (Builtin.append_ #[23, 23] 23 #[.slice ao n cap, .slice (some ⟨wc.heap.size, 0, none⟩) 1 1]).run Tryz.prog (wc.alloc (.cells #[.int .u32 0] 41)) = .ok (.slice (some ⟨g, 0, none⟩) (n + 1) cap') w' ∧
        OR w' base 41 (some ⟨g, 0, none⟩) (n + 1) cap' (xs.map (.int .u32) ++ [.int .u32 0]) ∧ wc.grownBy w' (blkOf ao) ∧ (blkOf ao = some g ∨ wc.heap.size ≤ g)) := fun _ => by
      have hown2 : OR (wc.alloc (.cells #[.int .u32 0] 41)) base 41 ao n cap (xs.map (.int .u32)) := HX.out.1.of_block fun g _ hlt => Below.heap_alloc _ _ _ hlt
      obtain ⟨g, cap', w', r1, o1, g1, at1⟩ := appendOR 23 41 (.int .u32 0) 4 Tryz.underlying23 info41l rfl (by omega) base ao n cap _ _ hown2 wc.heap.size 1 [.int .u32 0] rfl (by omega) (alloc_new _ _) (fun u hu => by simp at hu; subst hu; rfl) (by omega) (by simp; omega)
      refine ⟨g, cap', w', r1, o1, grownBy_trans (World.grownBy_alloc _ _ _) g1, at1.imp id fun h => ?_⟩
      rw [h]; simp
    have after : ∀ g cap' w' wy, OR w' base 41 (some ⟨g, 0, none⟩) (n + 1) cap' (xs.map (.int .u32) ++ [.int .u32 0]) → wc.grownBy w' (blkOf ao) → (blkOf ao = some g ∨ wc.heap.size ≤ g) → OR wy base 41 (some ⟨g, 0, none⟩) (n + 1) cap' (insF (xs.map (.int .u32)) j (.int .u32 v)) → w'.grownBy wy (some g) → (∀ x, xs[j]? = some x → v < x) → InLPost wc base 41 .u32 ao xs v (.returned (.slice (some ⟨g, 0, none⟩) (n + 1) cap')) wy := fun g cap' w' wy _ hg hat ho hgy hv => by
      have hl : (insF xs j v).length = n + 1 := by rw [insF_len xs v (by rw [HN.out]; exact hj), HN.out]
      have hm : (insF xs j v).map (Value.int .u32) = insF (xs.map (Value.int .u32)) j (Value.int .u32 v) := by simp [insF, List.map_take, List.map_drop]
      refine ⟨some ⟨g, 0, none⟩, insF xs j v, cap', by rw [hl], pair_insF HX.out.2 HJ.out.1 (fun i x hi hx => ?_), fun q => mem_insF, by rw [hl, hm]; exact ho, ⟨hgy.os.trans hg.os, hgy.tape.trans hg.tape, hgy.output.trans hg.output, Nat.le_trans hg.size hgy.size, fun q hq hne => ?_⟩, by rw [hl, HN.out]; omega⟩
      · by_cases e : i = j
        · subst e; exact hv x hx
        · have hjl : j < xs.length := by
            rcases Nat.lt_or_ge j xs.length with c | c
            · exact c
            · rw [List.getElem?_eq_none (by omega)] at hx; cases hx
          have h1 := hv _ (List.getElem?_eq_getElem hjl)
          have hil : i < xs.length := by
            rcases Nat.lt_or_ge i xs.length with c | c
            · exact c
            · rw [List.getElem?_eq_none c] at hx; cases hx
          have h2 := List.pairwise_iff_getElem.1 HX.out.2 j i hjl hil (by omega)
          rw [List.getElem?_eq_getElem hil] at hx
          have := Option.some.inj hx
          omega
      · have hqg : some q ≠ some g := fun e => by
          cases e
          rcases hat with h | h
          · exact hne h.symm
          · omega
        exact (hgy.block q (Nat.lt_of_lt_of_le hq hg.size) hqg).trans (hg.block q hq hne)
    have AFTER := Hid.intro' after
    clear after
    have fin : Hid (∀ (x : Int), True) := fun _ => trivial
    clear fin
    by_cases hlt : j < n
    · have hlt' : (j : Int) < (n : Int) := by omega
      obtain ⟨y, hy⟩ : ∃ y, xs[j]? = some y := ⟨xs[j]'(by rw [HN.out]; exact hlt), List.getElem?_eq_getElem _⟩
      obtain ⟨g0, u, hao, -, e1, c1, -⟩ := HX.out.1.cell hlt
      rw [List.getElem?_map, hy] at e1
      obtain rfl : u = .int .u32 y := (Option.some.inj e1).symm
      clear e1
      by_cases hc : y = v
      · have ST := Hid.intro' (STAY.out ⟨y, hy, hc⟩)
        clear STAY AFTER key hy
        have hc' : (y == v) = true := by simpa using hc
        clear hc
        subst hao
        go_wp2
        go_ret
        exact ST.out
      · have hv : ∀ x, xs[j]? = some x → v < x := fun x hx => by
          have := HJ.out.2 x hx
          rw [hy] at hx
          cases hx
          omega
        have hc' : (y == v) = false := by simpa using hc
        obtain ⟨g, cap', w', r1, o1, g1, at1⟩ := key.out hv
        have O1 := Hid.intro' o1
        have FIN : Hid (∀ wy, OR wy base 41 (some ⟨g, 0, none⟩) (n + 1) cap' (insF (xs.map (.int .u32)) j (.int .u32 v)) → w'.grownBy wy (some g) → InLPost wc base 41 .u32 ao xs v (.returned (.slice (some ⟨g, 0, none⟩) (n + 1) cap')) wy) := fun wy h1 h2 => AFTER.out g cap' w' wy o1 g1 at1 h1 h2 hv
        clear STAY AFTER key hy hc o1 g1 at1 hv
        subst hao
        go_wp2_with (at_builtin; refine Lib.wpList_append_run _ rfl _ _ _ _ rfl _ _ rfl rfl _ _ r1 ?_)

        clear r1 c1
        go_loopg [6] (n - j) (fun gk x6 wr => ∃ m : Nat, j ≤ m ∧ m ≤ n ∧ gk = m - j ∧ x6 = .int .i64 m ∧ Hid (OR wr base 41 (some ⟨g, 0, none⟩) (n + 1) cap' (shF (xs.map (.int .u32) ++ [.int .u32 0]) n m) ∧ w'.grownBy wr (some g)))
        case atStart => exact ⟨n, by omega, by omega, rfl, by go_num, by rw [shF_start _ (by simp [HN.out])]; exact O1.out, ⟨rfl, rfl, rfl, Nat.le_refl _, fun _ _ _ => rfl⟩⟩
        case round =>
          clear O1
          obtain ⟨m, hm1, hm2, hgk, rfl, HO⟩ := hrel
          by_cases hlm : j < m
          · have hlm' : (j : Int) < (m : Int) := by omega
            have hm3 : (m : Int) < (n : Int) + 1 := by omega
            obtain ⟨y, hy⟩ : ∃ y, xs[m - 1]? = some y := ⟨xs[m - 1]'(by rw [HN.out]; omega), List.getElem?_eq_getElem _⟩
            have ey : (xs.map (Value.int .u32) ++ [.int .u32 0])[m - 1]! = .int .u32 y := by
              rw [getL _ (by simp [HN.out]; omega), List.getElem_append_left (by simp [HN.out]; omega), List.getElem_map]
              rw [List.getElem?_eq_getElem (by rw [HN.out]; omega)] at hy
              rw [Option.some.inj hy]
            have c1 : wr.cell? ⟨g, m - 1, none⟩ = some (.int .u32 y) := HO.out.1.at (by rw [shF_get _ (by omega), if_pos (by omega), ey])
            obtain ⟨u, c2⟩ : ∃ u, wr.cell? ⟨g, m, none⟩ = some u := ⟨_, HO.out.1.at (shF_get _ (by omega))⟩
            have f2 := HO.out.1.frozen m
            obtain ⟨m', hm'⟩ : ∃ m', m' = m - 1 := ⟨_, rfl⟩
            have hmi : (m : Int) - 1 = (m' : Int) := by omega
            have hm4 : (m' : Int) < (n : Int) + 1 := by omega
            have NX : Hid (OR (wr.setCell ⟨g, m, none⟩ (.int .u32 y)) base 41 (some ⟨g, 0, none⟩) (n + 1) cap' (shF (xs.map (.int .u32) ++ [.int .u32 0]) n m') ∧ w'.grownBy (wr.setCell ⟨g, m, none⟩ (.int .u32 y)) (some g)) :=
              ⟨by rw [hm', ← shF_step _ (by omega) hm2, ey]; exact HO.out.1.setAt (by omega) _, grownBy_trans HO.out.2 (setCell_grown _ _ _ _)⟩
            rw [← hm'] at c1
            have HM := Hid.intro' hm'
            clear hm' hy ey HO
            go_wp2
            go_roundg (m' - j)
            case measure => have := HM.out; omega
            case rel => exact ⟨m', by have := HM.out; omega, by have := HM.out; omega, rfl, by go_num, NX⟩
          · obtain rfl : j = m := by omega
            obtain ⟨u, c2⟩ : ∃ u, wr.cell? ⟨g, j, none⟩ = some u := ⟨_, HO.out.1.at (shF_get _ (by omega))⟩
            have f2 := HO.out.1.frozen j
            have hj4 : (j : Int) < (n : Int) + 1 := by omega
            have LAST := Hid.intro' (FIN.out (wr.setCell ⟨g, j, none⟩ (.int .u32 v)) (by rw [← shF_end (n := n) _ (.int .u32 0) _ (by simp [HN.out]) (by omega)]; exact HO.out.1.setAt (by omega) _) (grownBy_trans HO.out.2 (setCell_grown _ _ _ _)))
            clear FIN HO
            go_wp2
            go_ret
            exact LAST.out
    · obtain rfl : n = j := by omega
      have hnlt : decide ((n : Int) < (n : Int)) = false := by simp
      have hv : ∀ x, xs[n]? = some x → v < x := fun x hx => by rw [List.getElem?_eq_none (by rw [HN.out]; omega)] at hx; cases hx
      obtain ⟨g, cap', w', r1, o1, g1, at1⟩ := key.out hv
      have O1 := Hid.intro' o1
      have FIN : Hid (∀ wy, OR wy base 41 (some ⟨g, 0, none⟩) (n + 1) cap' (insF (xs.map (.int .u32)) n (.int .u32 v)) → w'.grownBy wy (some g) → InLPost wc base 41 .u32 ao xs v (.returned (.slice (some ⟨g, 0, none⟩) (n + 1) cap')) wy) := fun wy h1 h2 => AFTER.out g cap' w' wy o1 g1 at1 h1 h2 hv
      clear STAY AFTER key o1 g1 at1 hv hnlt
      go_wp2_with (at_builtin; refine Lib.wpList_append_run _ rfl _ _ _ _ rfl _ _ rfl rfl _ _ r1 ?_)

      clear r1
      go_loopg [6] (n - n) (fun gk x6 wr => ∃ m : Nat, n ≤ m ∧ m ≤ n ∧ gk = m - n ∧ x6 = .int .i64 m ∧ Hid (OR wr base 41 (some ⟨g, 0, none⟩) (n + 1) cap' (shF (xs.map (.int .u32) ++ [.int .u32 0]) n m) ∧ w'.grownBy wr (some g)))
      case atStart => exact ⟨n, by omega, by omega, rfl, by go_num, by rw [shF_start _ (by simp [HN.out])]; exact O1.out, ⟨rfl, rfl, rfl, Nat.le_refl _, fun _ _ _ => rfl⟩⟩
      case round =>
        clear O1
        obtain ⟨m, hm1, hm2, hgk, rfl, HO⟩ := hrel
        by_cases hlm : n < m
        · exfalso; omega
        · obtain rfl : n = m := by omega
          obtain ⟨u, c2⟩ : ∃ u, wr.cell? ⟨g, n, none⟩ = some u := ⟨_, HO.out.1.at (shF_get _ (by omega))⟩
          have f2 := HO.out.1.frozen n
          have hj4 : (n : Int) < (n : Int) + 1 := by omega
          have LAST := Hid.intro' (FIN.out (wr.setCell ⟨g, n, none⟩ (.int .u32 v)) (by rw [← shF_end (n := n) _ (.int .u32 0) _ (by simp [HN.out]) (by omega)]; exact HO.out.1.setAt (by omega) _) (grownBy_trans HO.out.2 (setCell_grown _ _ _ _)))
          clear FIN HO
          go_wp2
          go_ret
          exact LAST.out

set_option maxRecDepth 100000 in
set_option maxHeartbeats 2000000 in
theorem insi32_any (base : Nat) (ao : Option Addr) (n cap : Nat) (xs : List Int) (v : Int) (w : World) (hx : OR w base 21 ao n cap (xs.map (.int .i32))) (hasc : xs.Pairwise (· < ·)) (hn : n ≤ 100000) (hbase : base ≤ w.heap.size) :
    Calls Tryz.prog 67 #[.slice ao n cap, .int .i32 v] w fun e w' => InLPost w base 21 .i32 ao xs v e w' := by
  have hlen : xs.length = n := by have := hx.1; simpa using this
  have HX : Hid (OR w base 21 ao n cap (xs.map (.int .i32)) ∧ xs.Pairwise (· < ·)) := ⟨hx, hasc⟩
  have HN : Hid (xs.length = n) := hlen
  clear hx hasc hlen
  go_enter Tryz.func67, Tryz.ntmps67
  go_upto_block 0 with fail
  go_cut [5] (fun x5 wx => ∃ j : Nat, j ≤ n ∧ x5 = .int .i64 j ∧ wx = w ∧ Hid ((∀ i x, i < j → xs[i]? = some x → x < v) ∧ ∀ x, xs[j]? = some x → v ≤ x))
  case first =>
    go_wp2
    go_loopg [5] n (fun gk x5 wr => ∃ j : Nat, j ≤ n ∧ gk = n - j ∧ x5 = .int .i64 j ∧ wr = w ∧ Hid (∀ i x, i < j → xs[i]? = some x → x < v))
    case atStart => exact ⟨0, Nat.zero_le _, rfl, rfl, rfl, fun i x hi => by omega⟩
    case round =>
      obtain ⟨j, hj, hgk, rfl, rfl, HJ⟩ := hrel
      by_cases hlt : j < n
      · have hlt' : (j : Int) < (n : Int) := by omega
        obtain ⟨y, hy⟩ : ∃ y, xs[j]? = some y := ⟨xs[j]'(by rw [HN.out]; exact hlt), List.getElem?_eq_getElem _⟩
        obtain ⟨g, u, rfl, -, e1, c1, -⟩ := HX.out.1.cell hlt
        rw [List.getElem?_map, hy] at e1
        obtain rfl : u = .int .i32 y := (Option.some.inj e1).symm
        clear e1
        have HY := Hid.intro' hy
        clear hy
        by_cases hc : y < v
        · have HC := Hid.intro' hc
          go_wp2
          go_roundg (n - (j + 1))
          case measure => omega
          case rel => exact ⟨j + 1, by omega, rfl, by go_num, rfl, fun i x hi hx => by
            by_cases e : i = j
            · subst e; rw [HY.out] at hx; cases hx; exact HC.out
            · exact HJ.out i x (by omega) hx⟩
        · have hc' : decide (y < v) = false := by simpa using hc
          have HC := Hid.intro' hc
          clear hc
          go_wp2
          go_meet
          exact ⟨j, by omega, rfl, rfl, HJ.out, fun x hx => by rw [HY.out] at hx; cases hx; have := HC.out; omega⟩
      · obtain rfl : n = j := by omega
        go_wp2
        go_meet
        exact ⟨n, by omega, rfl, rfl, HJ.out, fun x hx => by rw [List.getElem?_eq_none (by rw [HN.out]; omega)] at hx; cases hx⟩
  case rest =>
    obtain ⟨j, hj, rfl, rfl, HJ⟩ := hcut
    have stay : (∃ y, xs[j]? = some y ∧ y = v) → InLPost wc base 21 .i32 ao xs v (.returned (.slice ao n cap)) wc := fun ⟨y, h1, h2⟩ =>
      ⟨ao, xs, cap, by rw [HN.out], HX.out.2, fun q => ⟨.inr, fun h => h.elim (fun e => by rw [e, ← h2]; exact List.mem_of_getElem? h1) id⟩, by rw [HN.out]; exact HX.out.1, ⟨rfl, rfl, rfl, Nat.le_refl _, fun _ _ _ => rfl⟩, by omega⟩
    have STAY := Hid.intro' stay
    clear stay
    -- the append, in whatever way the walk comes to it
    have key : Hid ((∀ x, xs[j]? = some x → v < x) → ∃ g cap' w', (Builtin.append_ #[24, 24] 24 #[.slice ao n cap, .slice (some ⟨wc.heap.size, 0, none⟩) 1 1]).run Tryz.prog (wc.alloc (.cells #[.int .i32 0] 21)) = .ok (.slice (some ⟨g, 0, none⟩) (n + 1) cap') w' ∧
        OR w' base 21 (some ⟨g, 0, none⟩) (n + 1) cap' (xs.map (.int .i32) ++ [.int .i32 0]) ∧ wc.grownBy w' (blkOf ao) ∧ (blkOf ao = some g ∨ wc.heap.size ≤ g)) := fun _ => by
      have hown2 : OR (wc.alloc (.cells #[.int .i32 0] 21)) base 21 ao n cap (xs.map (.int .i32)) := HX.out.1.of_block fun g _ hlt => Below.heap_alloc _ _ _ hlt
      obtain ⟨g, cap', w', r1, o1, g1, at1⟩ := appendOR 24 21 (.int .i32 0) 4 Tryz.underlying24 info21l rfl (by omega) base ao n cap _ _ hown2 wc.heap.size 1 [.int .i32 0] rfl (by omega) (alloc_new _ _) (fun u hu => by simp at hu; subst hu; rfl) (by omega) (by simp; omega)
      refine ⟨g, cap', w', r1, o1, grownBy_trans (World.grownBy_alloc _ _ _) g1, at1.imp id fun h => ?_⟩
      rw [h]; simp
    have after : ∀ g cap' w' wy, OR w' base 21 (some ⟨g, 0, none⟩) (n + 1) cap' (xs.map (.int .i32) ++ [.int .i32 0]) → wc.grownBy w' (blkOf ao) → (blkOf ao = some g ∨ wc.heap.size ≤ g) → OR wy base 21 (some ⟨g, 0, none⟩) (n + 1) cap' (insF (xs.map (.int .i32)) j (.int .i32 v)) → w'.grownBy wy (some g) → (∀ x, xs[j]? = some x → v < x) → InLPost wc base 21 .i32 ao xs v (.returned (.slice (some ⟨g, 0, none⟩) (n + 1) cap')) wy := fun g cap' w' wy _ hg hat ho hgy hv => by
      have hl : (insF xs j v).length = n + 1 := by rw [insF_len xs v (by rw [HN.out]; exact hj), HN.out]
      have hm : (insF xs j v).map (Value.int .i32) = insF (xs.map (Value.int .i32)) j (Value.int .i32 v) := by simp [insF, List.map_take, List.map_drop]
      refine ⟨some ⟨g, 0, none⟩, insF xs j v, cap', by rw [hl], pair_insF HX.out.2 HJ.out.1 (fun i x hi hx => ?_), fun q => mem_insF, by rw [hl, hm]; exact ho, ⟨hgy.os.trans hg.os, hgy.tape.trans hg.tape, hgy.output.trans hg.output, Nat.le_trans hg.size hgy.size, fun q hq hne => ?_⟩, by rw [hl, HN.out]; omega⟩
      · by_cases e : i = j
        · subst e; exact hv x hx
        · have hjl : j < xs.length := by
            rcases Nat.lt_or_ge j xs.length with c | c
            · exact c
            · rw [List.getElem?_eq_none (by omega)] at hx; cases hx
          have h1 := hv _ (List.getElem?_eq_getElem hjl)
          have hil : i < xs.length := by
            rcases Nat.lt_or_ge i xs.length with c | c
            · exact c
            · rw [List.getElem?_eq_none c] at hx; cases hx
          have h2 := List.pairwise_iff_getElem.1 HX.out.2 j i hjl hil (by omega)
          rw [List.getElem?_eq_getElem hil] at hx
          have := Option.some.inj hx
          omega
      · have hqg : some q ≠ some g := fun e => by
          cases e
          rcases hat with h | h
          · exact hne h.symm
          · omega
        exact (hgy.block q (Nat.lt_of_lt_of_le hq hg.size) hqg).trans (hg.block q hq hne)
    have AFTER := Hid.intro' after
    clear after
    have fin : Hid (∀ (x : Int), True) := fun _ => trivial
    clear fin
    by_cases hlt : j < n
    · have hlt' : (j : Int) < (n : Int) := by omega
      obtain ⟨y, hy⟩ : ∃ y, xs[j]? = some y := ⟨xs[j]'(by rw [HN.out]; exact hlt), List.getElem?_eq_getElem _⟩
      obtain ⟨g0, u, hao, -, e1, c1, -⟩ := HX.out.1.cell hlt
      rw [List.getElem?_map, hy] at e1
      obtain rfl : u = .int .i32 y := (Option.some.inj e1).symm
      clear e1
      by_cases hc : y = v
      · have ST := Hid.intro' (STAY.out ⟨y, hy, hc⟩)
        clear STAY AFTER key hy
        have hc' : (y == v) = true := by simpa using hc
        clear hc
        subst hao
        go_wp2
        go_ret
        exact ST.out
      · have hv : ∀ x, xs[j]? = some x → v < x := fun x hx => by
          have := HJ.out.2 x hx
          rw [hy] at hx
          cases hx
          omega
        have hc' : (y == v) = false := by simpa using hc
        obtain ⟨g, cap', w', r1, o1, g1, at1⟩ := key.out hv
        have O1 := Hid.intro' o1
        have FIN : Hid (∀ wy, OR wy base 21 (some ⟨g, 0, none⟩) (n + 1) cap' (insF (xs.map (.int .i32)) j (.int .i32 v)) → w'.grownBy wy (some g) → InLPost wc base 21 .i32 ao xs v (.returned (.slice (some ⟨g, 0, none⟩) (n + 1) cap')) wy) := fun wy h1 h2 => AFTER.out g cap' w' wy o1 g1 at1 h1 h2 hv
        clear STAY AFTER key hy hc o1 g1 at1 hv
        subst hao
        go_wp2_with (at_builtin; refine Lib.wpList_append_run _ rfl _ _ _ _ rfl _ _ rfl rfl _ _ r1 ?_)

        clear r1 c1
        go_loopg [6] (n - j) (fun gk x6 wr => ∃ m : Nat, j ≤ m ∧ m ≤ n ∧ gk = m - j ∧ x6 = .int .i64 m ∧ Hid (OR wr base 21 (some ⟨g, 0, none⟩) (n + 1) cap' (shF (xs.map (.int .i32) ++ [.int .i32 0]) n m) ∧ w'.grownBy wr (some g)))
        case atStart => exact ⟨n, by omega, by omega, rfl, by go_num, by rw [shF_start _ (by simp [HN.out])]; exact O1.out, ⟨rfl, rfl, rfl, Nat.le_refl _, fun _ _ _ => rfl⟩⟩
        case round =>
          clear O1
          obtain ⟨m, hm1, hm2, hgk, rfl, HO⟩ := hrel
          by_cases hlm : j < m
          · have hlm' : (j : Int) < (m : Int) := by omega
            have hm3 : (m : Int) < (n : Int) + 1 := by omega
            obtain ⟨y, hy⟩ : ∃ y, xs[m - 1]? = some y := ⟨xs[m - 1]'(by rw [HN.out]; omega), List.getElem?_eq_getElem _⟩
            have ey : (xs.map (Value.int .i32) ++ [.int .i32 0])[m - 1]! = .int .i32 y := by
              rw [getL _ (by simp [HN.out]; omega), List.getElem_append_left (by simp [HN.out]; omega), List.getElem_map]
              rw [List.getElem?_eq_getElem (by rw [HN.out]; omega)] at hy
              rw [Option.some.inj hy]
            have c1 : wr.cell? ⟨g, m - 1, none⟩ = some (.int .i32 y) := HO.out.1.at (by rw [shF_get _ (by omega), if_pos (by omega), ey])
            obtain ⟨u, c2⟩ : ∃ u, wr.cell? ⟨g, m, none⟩ = some u := ⟨_, HO.out.1.at (shF_get _ (by omega))⟩
            have f2 := HO.out.1.frozen m
            obtain ⟨m', hm'⟩ : ∃ m', m' = m - 1 := ⟨_, rfl⟩
            have hmi : (m : Int) - 1 = (m' : Int) := by omega
            have hm4 : (m' : Int) < (n : Int) + 1 := by omega
            have NX : Hid (OR (wr.setCell ⟨g, m, none⟩ (.int .i32 y)) base 21 (some ⟨g, 0, none⟩) (n + 1) cap' (shF (xs.map (.int .i32) ++ [.int .i32 0]) n m') ∧ w'.grownBy (wr.setCell ⟨g, m, none⟩ (.int .i32 y)) (some g)) :=
              ⟨by rw [hm', ← shF_step _ (by omega) hm2, ey]; exact HO.out.1.setAt (by omega) _, grownBy_trans HO.out.2 (setCell_grown _ _ _ _)⟩
            rw [← hm'] at c1
            have HM := Hid.intro' hm'
            clear hm' hy ey HO
            go_wp2
            go_roundg (m' - j)
            case measure => have := HM.out; omega
            case rel => exact ⟨m', by have := HM.out; omega, by have := HM.out; omega, rfl, by go_num, NX⟩
          · obtain rfl : j = m := by omega
            obtain ⟨u, c2⟩ : ∃ u, wr.cell? ⟨g, j, none⟩ = some u := ⟨_, HO.out.1.at (shF_get _ (by omega))⟩
            have f2 := HO.out.1.frozen j
            have hj4 : (j : Int) < (n : Int) + 1 := by omega
            have LAST := Hid.intro' (FIN.out (wr.setCell ⟨g, j, none⟩ (.int .i32 v)) (by rw [← shF_end (n := n) _ (.int .i32 0) _ (by simp [HN.out]) (by omega)]; exact HO.out.1.setAt (by omega) _) (grownBy_trans HO.out.2 (setCell_grown _ _ _ _)))
            clear FIN HO
            go_wp2
            go_ret
            exact LAST.out
    · obtain rfl : n = j := by omega
      have hnlt : decide ((n : Int) < (n : Int)) = false := by simp
      have hv : ∀ x, xs[n]? = some x → v < x := fun x hx => by rw [List.getElem?_eq_none (by rw [HN.out]; omega)] at hx; cases hx
      obtain ⟨g, cap', w', r1, o1, g1, at1⟩ := key.out hv
      have O1 := Hid.intro' o1
      have FIN : Hid (∀ wy, OR wy base 21 (some ⟨g, 0, none⟩) (n + 1) cap' (insF (xs.map (.int .i32)) n (.int .i32 v)) → w'.grownBy wy (some g) → InLPost wc base 21 .i32 ao xs v (.returned (.slice (some ⟨g, 0, none⟩) (n + 1) cap')) wy) := fun wy h1 h2 => AFTER.out g cap' w' wy o1 g1 at1 h1 h2 hv
      clear STAY AFTER key o1 g1 at1 hv hnlt
      go_wp2_with (at_builtin; refine Lib.wpList_append_run _ rfl _ _ _ _ rfl _ _ rfl rfl _ _ r1 ?_)

      clear r1
      go_loopg [6] (n - n) (fun gk x6 wr => ∃ m : Nat, n ≤ m ∧ m ≤ n ∧ gk = m - n ∧ x6 = .int .i64 m ∧ Hid (OR wr base 21 (some ⟨g, 0, none⟩) (n + 1) cap' (shF (xs.map (.int .i32) ++ [.int .i32 0]) n m) ∧ w'.grownBy wr (some g)))
      case atStart => exact ⟨n, by omega, by omega, rfl, by go_num, by rw [shF_start _ (by simp [HN.out])]; exact O1.out, ⟨rfl, rfl, rfl, Nat.le_refl _, fun _ _ _ => rfl⟩⟩
      case round =>
        clear O1
        obtain ⟨m, hm1, hm2, hgk, rfl, HO⟩ := hrel
        by_cases hlm : n < m
        · exfalso; omega
        · obtain rfl : n = m := by omega
          obtain ⟨u, c2⟩ : ∃ u, wr.cell? ⟨g, n, none⟩ = some u := ⟨_, HO.out.1.at (shF_get _ (by omega))⟩
          have f2 := HO.out.1.frozen n
          have hj4 : (n : Int) < (n : Int) + 1 := by omega
          have LAST := Hid.intro' (FIN.out (wr.setCell ⟨g, n, none⟩ (.int .i32 v)) (by rw [← shF_end (n := n) _ (.int .i32 0) _ (by simp [HN.out]) (by omega)]; exact HO.out.1.setAt (by omega) _) (grownBy_trans HO.out.2 (setCell_grown _ _ _ _)))
          clear FIN HO
          go_wp2
          go_ret
          exact LAST.out

end Go.Proofs.Qxb6618911aGreat
