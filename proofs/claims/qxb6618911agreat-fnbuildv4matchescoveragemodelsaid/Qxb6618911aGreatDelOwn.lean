/-
  slices.Delete of one element of a row of int32 that the call owns; slices.BinarySearch on such a row.
-/
import Derived.Test.Qxb6618911aGreatDel
import Derived.Test.Qxb6618911aGreatInsOwn
namespace Go.Proofs.Qxb6618911aGreat
open Go.RowKit Go.Lib Go.Sort

theorem delete_own (base : Nat) (ao : Option Addr) (n cap i : Nat) (zs : List Int) (w : World) (hown : OR w base 21 ao n cap (zs.map (Value.int .i32))) (hi : i < n) :
    Calls Tryz.prog 62 #[.slice ao n cap, .int .i64 i, .int .i64 ((i : Int) + 1)] w fun e w' =>
      e = .returned (.slice ao (n - 1) cap) ∧ OR w' base 21 ao (n - 1) cap ((zs.take i ++ zs.drop (i + 1)).map (Value.int .i32)) ∧ w.grownBy w' (blkOf ao) := by
  obtain ⟨hl, h⟩ := hown
  have hzl : zs.length = n := by simpa using hl
  rcases h with ⟨_, h0, _⟩ | ⟨g, f, rfl, hg, hnc, hcm, hrow, hxf⟩
  · omega
  · have hH : Holds encS w g 0 zs.toArray := by
      intro j hj
      have hj' : j < n := by simpa [hzl] using hj
      have hx := hxf j hj'
      rw [List.getElem?_map, List.getElem?_eq_getElem (by omega)] at hx
      have hx2 := Option.some.inj hx
      refine ⟨?_, by rw [Nat.zero_add]; exact hrow.frozen j⟩
      rw [Nat.zero_add, hrow.cell (by omega), ← hx2]
      simp [encS, show j < zs.length by omega]
    obtain ⟨i0, hi0, _, hz1, _⟩ := info_parts info21
    have hsz : zs.toArray.size = n := by simpa using hzl
    have hcon := delete_cells i0 hi0 hz1 g 0 cap i (i + 1) zs.toArray w hH (by omega) (by unfold maxLen at hcm; omega) (by omega) (by omega)
    rw [hsz, show n - (i + 1 - i) = n - 1 from by omega, show ((i + 1 : Nat) : Int) = (i : Int) + 1 from by omega] at hcon
    refine hcon.mono ?_
    rintro e w' ⟨rfl, q, rfl⟩
    have hlen : (zs.take i ++ zs.drop (i + 1) ++ List.replicate (i + 1 - i) 0).length = zs.toArray.size := by simp; omega
    rw [show zs.toArray.toList = zs from by simp, putRow_eq_setCells encS w g 0 zs.toArray _ q hH hlen]
    have hr := rowIs_setCells ((zs.take i ++ zs.drop (i + 1) ++ List.replicate (i + 1 - i) 0).map encS) 0 (w.drewN q) f (hrow.of_block rfl)
    refine ⟨rfl, ⟨by simp; omega, .inr ⟨g, _, rfl, hg, by omega, hcm, hr, fun j hj => ?_⟩⟩, ?_⟩
    · have hl2 : j < (zs.take i ++ zs.drop (i + 1)).length := by simp; omega
      rw [if_pos (by simp; omega), Nat.sub_zero]
      rw [List.getElem?_map, List.getElem?_map, List.getElem?_append_left hl2, List.getElem?_eq_getElem hl2]
      rfl
    · exact grownBy_trans (⟨rfl, rfl, rfl, Nat.le_refl _, fun _ _ _ => rfl⟩ : w.grownBy (w.drewN q) (some g)) (grownBy_setCells _ _)

/-- How many of an ascending list lie below x. -/
def pos (zs : List Int) (x : Int) : Nat := (zs.filter fun y => decide (y < x)).length

theorem pos_le (zs : List Int) (x : Int) : pos zs x ≤ zs.length := List.length_filter_le _ _

/-- In an ascending list the places below 'pos' hold what is less than x, the others what is not. -/
theorem pos_spec : ∀ (zs : List Int) (x : Int), zs.Pairwise (· < ·) → ∀ j (h : j < zs.length), (j < pos zs x ↔ zs[j] < x)
  | [], _, _, j, h => by simp at h
  | z :: r, x, hp, j, h => by
    have hr := (List.pairwise_cons.1 hp).2
    have hz := (List.pairwise_cons.1 hp).1
    by_cases c : z < x
    · have e : pos (z :: r) x = pos r x + 1 := by simp [pos, c]
      rw [e]
      cases j with
      | zero => simp [c]
      | succ j =>
        have := pos_spec r x hr j (by simpa using h)
        simp only [List.getElem_cons_succ]
        omega
    · have e : pos (z :: r) x = 0 := by
        unfold pos
        rw [List.length_eq_zero_iff, List.filter_eq_nil_iff]
        intro y hy
        rcases List.mem_cons.1 hy with rfl | hy
        · simpa using c
        · have := hz y hy
          simp; omega
      rw [e]
      cases j with
      | zero => simp; omega
      | succ j =>
        have hj : j < r.length := by simpa using h
        have := hz r[j] (List.getElem_mem hj)
        simp only [List.getElem_cons_succ]
        omega

theorem half_le {a b : Nat} (h : a < b) : (a + b) / 2 < b ∧ a ≤ (a + b) / 2 := by omega

set_option maxHeartbeats 400000 in
theorem less73_any (x y : Int) (w : World) : Calls Tryz.prog 73 #[.int .i32 x, .int .i32 y] w fun e w' => e = .returned (.bool (decide (x < y))) ∧ w' = w := by
  by_cases h : x < y
  · have e1 : decide (x < y) = true := by simpa using h
    rw [e1]
    go_enter Tryz.func73, Tryz.ntmps73
    go_wp2
    go_ret
    exact ⟨rfl, rfl⟩
  · have e1 : decide (x < y) = false := by simpa using h
    rw [e1]
    go_enter Tryz.func73, Tryz.ntmps73
    go_wp2
    go_ret
    exact ⟨rfl, rfl⟩

/-- It hands back the place p, and a bool. -/
def FoundAt (e : Ending) (p : Nat) : Prop := ∃ b, e = .returned (.tuple #[.int .i64 p, .bool b])

set_option maxRecDepth 20000 in
set_option maxHeartbeats 1000000 in
theorem search_own (base : Nat) (ao : Option Addr) (n cap : Nat) (zs : List Int) (x : Int) (w : World) (hown : OR w base 21 ao n cap (zs.map (Value.int .i32))) (hs : zs.Pairwise (· < ·)) (hn : n ≤ 100000) :
    Calls Tryz.prog 60 #[.slice ao n cap, .int .i32 x] w fun e w' => FoundAt e (pos zs x) ∧ w' = w := by
  have hzl : zs.length = n := by simpa using hown.1
  have hp := pos_le zs x
  obtain ⟨Z, hc, hpz⟩ : ∃ Z : Nat → Int, (∀ j, j < n → ∃ g, ao = some ⟨g, 0, none⟩ ∧ w.cell? ⟨g, j, none⟩ = some (.int .i32 (Z j))) ∧ ∀ j, j < n → (j < pos zs x ↔ Z j < x) := by
    refine ⟨fun j => zs[j]?.getD 0, fun j h => ?_, fun j h => ?_⟩
    · obtain ⟨g, v, h1, _, h3, h4, _⟩ := hown.cell h
      rw [List.getElem?_map, List.getElem?_eq_getElem (by omega)] at h3
      cases h3
      refine ⟨g, h1, ?_⟩
      have hz : zs[j]?.getD 0 = zs[j]'(by omega) := by rw [List.getElem?_eq_getElem (by omega)]; rfl
      show w.cell? ⟨g, j, none⟩ = some (.int .i32 (zs[j]?.getD 0))
      rw [h4, hz]
    · have := pos_spec zs x hs j (by omega)
      have hz : zs[j]?.getD 0 = zs[j]'(by omega) := by rw [List.getElem?_eq_getElem (by omega)]; rfl
      show j < pos zs x ↔ zs[j]?.getD 0 < x
      rw [hz]
      exact this
  have HC : Hid (∀ j, j < n → ∃ g, ao = some ⟨g, 0, none⟩ ∧ w.cell? ⟨g, j, none⟩ = some (.int .i32 (Z j))) := hc
  have HP : Hid (∀ j, j < n → (j < pos zs x ↔ Z j < x)) := hpz
  have hpn : pos zs x ≤ n := by omega
  generalize hpp : pos zs x = p at HP hpn ⊢
  clear hc hs hown hp hzl hpp hpz
  go_enter Tryz.func60, Tryz.ntmps60
  go_wp2
  go_loop [7, 8] (fun i j => ∃ a b : Nat, a ≤ p ∧ p ≤ b ∧ b ≤ n ∧ i = .int .i64 a ∧ j = .int .i64 b) (fun i j => ((RowKit.intOf j) - (RowKit.intOf i)).toNat)
  case atStart => exact ⟨0, n, Nat.zero_le _, hpn, Nat.le_refl _, rfl, rfl⟩
  case round =>
    obtain ⟨a, b, ha, hb, hbn, rfl, rfl⟩ := hrel
    by_cases hlt : a < b
    · obtain ⟨m1, m2⟩ := half_le hlt
      obtain ⟨g, hg, hcell⟩ := HC.out ((a + b) / 2) (by omega)
      subst hg
      have hiff := HP.out ((a + b) / 2) (by omega)
      by_cases c : Z ((a + b) / 2) < x
      · have c' : decide (Z ((a + b) / 2) < x) = true := by simpa using c
        have hm := hiff.2 c
        go_wp2_with fail
        refine (less73_any _ _ _).mono ?_
        rw [c']
        rintro e w' ⟨rfl, hw⟩
        subst w'
        clear hiff
        go_wp2
        go_round
        case rel => exact ⟨(a + b) / 2 + 1, b, by omega, hb, hbn, by go_num, rfl⟩
        case measure => simp [RowKit.intOf]; omega
      · have c' : decide (Z ((a + b) / 2) < x) = false := by simpa using c
        have hm : ¬ (a + b) / 2 < p := fun h => c (hiff.1 h)
        go_wp2_with fail
        refine (less73_any _ _ _).mono ?_
        rw [c']
        rintro e w' ⟨rfl, hw⟩
        subst w'
        clear hiff
        go_wp2
        go_round
        case rel => exact ⟨a, (a + b) / 2, ha, by omega, by omega, rfl, by go_num⟩
        case measure => simp [RowKit.intOf]; omega
    · obtain rfl : a = p := by omega
      by_cases hn2 : a < n
      · obtain ⟨g, hg, hcell⟩ := HC.out a (by omega)
        subst hg
        have hn3 : (a : Int) < (n : Int) := by omega
        by_cases c : Z a = x
        · have c' : (Z a == x) = true := by simpa using c
          clear c
          go_wp2
          go_ret2
          exact ⟨⟨_, rfl⟩, rfl⟩
        · have c' : (Z a == x) = false := by simpa using c
          clear c
          go_wp2
          all_goals
            go_ret2
            exact ⟨⟨_, rfl⟩, rfl⟩
      · have hn3 : decide ((a : Int) < (n : Int)) = false := by simpa using hn2
        go_wp2
        go_ret2
        exact ⟨⟨_, rfl⟩, rfl⟩
end Go.Proofs.Qxb6618911aGreat
