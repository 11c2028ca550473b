/-
  fillReach (key4), newTree's second half.
-/
import Derived.Test.Qxb6618911aGreatCompact
import Derived.Test.Qxb6618911aGreatClones
import Derived.Deep.DeepCutAuto
import Derived.Deep.CutBlock
namespace Go.Proofs.Qxb6618911aGreat
open Go.RowKit Go.Lib

/-- v is the greatest of h i .. h (j - 1). -/
def IsMax (h : Nat → Int) (i j : Nat) (v : Int) : Prop := (∃ k, i ≤ k ∧ k < j ∧ h k = v) ∧ ∀ k, i ≤ k → k < j → h k ≤ v

theorem IsMax.uniq {h : Nat → Int} {i j : Nat} {v u : Int} (a : IsMax h i j v) (b : IsMax h i j u) : v = u := by
  obtain ⟨⟨k, h1, h2, h3⟩, h4⟩ := a
  obtain ⟨⟨k', g1, g2, g3⟩, g4⟩ := b
  have := h4 k' g1 g2
  have := g4 k h1 h2
  omega

/-- r holds, at each root of [i, j), the greatest of h there. -/
inductive RO (h r : Nat → Int) : Nat → Nat → Prop
  | nil {i j : Nat} : j ≤ i → RO h r i j
  | node {i j : Nat} : i < j → IsMax h i j (r ((i + j) / 2)) → RO h r i ((i + j) / 2) → RO h r ((i + j) / 2 + 1) j → RO h r i j

theorem RO.uniq {h h' r r' : Nat → Int} {i j : Nat} (a : RO h r i j) (b : RO h' r' i j) (he : ∀ k, i ≤ k → k < j → h k = h' k) : ∀ k, i ≤ k → k < j → r k = r' k := by
  induction a with
  | nil hle => intro k h1 h2; omega
  | @node i j hlt hm h1 h2 ih1 ih2 =>
    cases b with
    | nil hle => omega
    | node hlt' hm' g1 g2 =>
      intro k k1 k2
      rcases Nat.lt_trichotomy k ((i + j) / 2) with hk | hk | hk
      · exact ih1 g1 (fun k a b => he k a (by omega)) k k1 hk
      · subst hk
        refine IsMax.uniq hm ⟨?_, fun k a b => by rw [he k a b]; exact hm'.2 k a b⟩
        obtain ⟨q, q1, q2, q3⟩ := hm'.1
        exact ⟨q, q1, q2, by rw [he q q1 q2]; exact q3⟩
      · exact ih2 g2 (fun k a b => he k (by omega) b) k (by omega) k2

theorem RO.congr {h h' r r' : Nat → Int} {i j : Nat} (a : RO h r i j) (he : ∀ k, i ≤ k → k < j → h k = h' k) (hr : ∀ k, i ≤ k → k < j → r k = r' k) : RO h' r' i j := by
  induction a with
  | nil hle => exact .nil hle
  | @node i j hlt hm h1 h2 ih1 ih2 =>
    refine .node hlt ?_ (ih1 (fun k a b => he k a (by omega)) (fun k a b => hr k a (by omega))) (ih2 (fun k a b => he k (by omega) b) (fun k a b => hr k (by omega) b))
    rw [← hr _ (by omega) (by omega)]
    obtain ⟨⟨q, q1, q2, q3⟩, hall⟩ := hm
    exact ⟨⟨q, q1, q2, by rw [← he q q1 q2]; exact q3⟩, fun k a b => by rw [← he k a b]; exact hall k a b⟩

/-- Behind fillReach. -/
def FillPost (w : World) (rb n : Nat) (h r : Nat → Int) (i j : Nat) (e : Ending) (w' : World) : Prop :=
  ∃ v r', e = .returned (.tuple #[.int .u32 v, .bool (decide (i < j))]) ∧ (i < j → IsMax h i j v) ∧ w'.rowIs rb 71 n (fun k => .int .u32 (r' k)) ∧ (∀ k, ¬ (i ≤ k ∧ k < j) → r' k = r k) ∧ RO h r' i j ∧ w.grownBy w' (some rb)

theorem less_all50 : ((Tryz.f50.body.map invIn).getD []).all (fun n => n == ((Tryz.f46.body.map invIn).getD []).headD "") = true := by kernel_rfl
theorem less50 : ∀ n ∈ (Tryz.f50.body.map invIn).getD [], ∀ (x : Value) (w : World), (method 342 71 x n).run Tryz.prog w = .ok (166, x) w := by
  intro n hn x w
  have := List.all_eq_true.1 less_all50 n hn
  rw [eq_of_beq this]
  exact less_head x w

set_option maxHeartbeats 400000 in
theorem fill_none (p : Value) (i j : Nat) (w : World) (hij : j ≤ i) :
    Calls Tryz.prog 50 #[p, .int .i64 i, .int .i64 j] w fun e w' => e = .returned (.tuple #[.int .u32 0, .bool false]) ∧ w' = w := by
  have h1 : ¬ (i : Int) < (j : Int) := by omega
  have h2 : (j : Int) ≤ (i : Int) := by omega
  go_enter Tryz.func50, Tryz.ntmps50
  go_wp2
  go_ret2
  exact ⟨rfl, rfl⟩

theorem max_step {h : Nat → Int} {i m : Nat} {v : Int} (hx : i < m → IsMax h i m v) (him : i ≤ m) : IsMax h i (m + 1) (if (decide (i < m) && decide (h m < v)) = true then v else h m) := by
  by_cases h1 : i < m
  · obtain ⟨⟨k, k1, k2, k3⟩, hall⟩ := hx h1
    by_cases h2 : h m < v
    · rw [if_pos (by simp [h1, h2])]
      exact ⟨⟨k, k1, by omega, k3⟩, fun k a b => by
        by_cases e : k = m
        · subst e; omega
        · exact hall k a (by omega)⟩
    · rw [if_neg (by simp [h1, h2])]
      exact ⟨⟨m, him, by omega, rfl⟩, fun k a b => by
        by_cases e : k = m
        · subst e; omega
        · have := hall k a (by omega); omega⟩
  · rw [if_neg (by simp [h1])]
    exact ⟨⟨m, him, by omega, rfl⟩, fun k a b => by
      obtain rfl : k = m := by omega
      omega⟩

theorem max_join {h : Nat → Int} {i m j : Nat} {u v : Int} (hu : IsMax h i (m + 1) u) (hx : m + 1 < j → IsMax h (m + 1) j v) (him : m < j) : IsMax h i j (if (decide (m + 1 < j) && decide (u < v)) = true then v else u) := by
  obtain ⟨⟨q, q1, q2, q3⟩, hq⟩ := hu
  by_cases h1 : m + 1 < j
  · obtain ⟨⟨k, k1, k2, k3⟩, hall⟩ := hx h1
    by_cases h2 : u < v
    · rw [if_pos (by simp [h1, h2])]
      exact ⟨⟨k, by omega, by omega, k3⟩, fun k a b => by
        by_cases e : k < m + 1
        · have := hq k a e; omega
        · exact hall k (by omega) b⟩
    · rw [if_neg (by simp [h1, h2])]
      exact ⟨⟨q, q1, by omega, q3⟩, fun k a b => by
        by_cases e : k < m + 1
        · exact hq k a e
        · have := hall k (by omega) b; omega⟩
  · rw [if_neg (by simp [h1])]
    exact ⟨⟨q, q1, by omega, q3⟩, fun k a b => hq k a (by omega)⟩

set_option maxRecDepth 100000 in
set_option maxHeartbeats 2000000 in
theorem fill_any (tb blk rb n cap : Nat) (D : Nat → Int × Int × Int) (hn : n ≤ 100000) (hne1 : tb ≠ rb) (hne2 : blk ≠ rb) : ∀ (q i j : Nat) (r : Nat → Int) (w : World), j - i ≤ q → j ≤ n → i ≤ n →
    w.cell? ⟨tb, 0, none⟩ = some (.slice (some ⟨blk, 0, none⟩) n cap) → w.cell? ⟨tb, 1, none⟩ = some (.slice (some ⟨rb, 0, none⟩) n n) → R3 spV w blk n D → w.rowIs rb 71 n (fun k => .int .u32 (r k)) →
    Calls Tryz.prog 50 #[.pointer (some ⟨tb, 0, none⟩), .int .i64 i, .int .i64 j] w fun e w' => FillPost w rb n (fun k => (D k).2.1) r i j e w' := by
  intro q
  induction q with
  | zero =>
    intro i j r w hq hj hi c0 c1 hR hrow
    refine (fill_none _ i j w (by omega)).mono ?_
    rintro e w' ⟨rfl, rfl⟩
    exact ⟨0, r, by rw [show decide (i < j) = false from decide_eq_false (by omega)], fun h => by omega, hrow, fun k _ => rfl, .nil (by omega), (Alk.refl _).grown _⟩
  | succ q ih =>
    intro i j r w hq hj hi c0 c1 hR hrow
    by_cases hij : j ≤ i
    · refine (fill_none _ i j w (by omega)).mono ?_
      rintro e w' ⟨rfl, rfl⟩
      exact ⟨0, r, by rw [show decide (i < j) = false from decide_eq_false (by omega)], fun h => by omega, hrow, fun k _ => rfl, .nil (by omega), (Alk.refl _).grown _⟩
    have hlt : i < j := by omega
    obtain ⟨m1, m2⟩ : (i + j) / 2 < j ∧ i ≤ (i + j) / 2 := by omega
    have hm := less50
    simp [Tryz.f50, invIn, opNames] at hm
    obtain ⟨a0, a1, a2, _⟩ := hR.three (show (i + j) / 2 < n by omega)
    have H : Hid (R3 spV w blk n D) := hR
    have HW : Hid (w.rowIs rb 71 n (fun k => .int .u32 (r k))) := hrow
    clear hR hrow
    have h2 : ¬ (j : Int) ≤ (i : Int) := by omega
    have h3 : (((i + j) / 2 : Nat) : Int) < (n : Int) := by omega
    go_enter Tryz.func50, Tryz.ntmps50
    go_upto_region 6 with fail
    have e2 : ((i : Int) + (j : Int)) / 2 = (((i + j) / 2 : Nat) : Int) := by omega
    rw [e2]
    clear e2
    generalize hM : (i + j) / 2 = m at *
    go_wp2_with fail
    refine (ih i m r w (by omega) (by omega) (by omega) c0 c1 H.out HW.out).mono ?_
    rintro e w1 ⟨v1, r1, rfl, P1⟩
    have P : Hid ((i < m → IsMax (fun k => (D k).2.1) i m v1) ∧ w1.rowIs rb 71 n (fun k => .int .u32 (r1 k)) ∧ (∀ k, ¬ (i ≤ k ∧ k < m) → r1 k = r k) ∧ RO (fun k => (D k).2.1) r1 i m ∧ w.grownBy w1 (some rb)) := P1
    clear P1
    obtain ⟨b1, hb1⟩ : ∃ b, b = decide (i < m) := ⟨_, rfl⟩
    rw [← hb1]
    have HB : Hid (b1 = decide (i < m)) := hb1
    clear hb1
    go_upto_region 7 with fail
    go_cut [46] (fun s46 wx => wx = w1 ∧ s46 = .bool (b1 && decide ((D m).2.1 < v1)))
    case first =>
      clear HB
      cases b1
      · go_wp2
        go_meet
        exact ⟨rfl, rfl⟩
      · by_cases hc2 : (D m).2.1 < v1
        · go_wp2
          go_meet
          exact ⟨rfl, congrArg Value.bool (decide_eq_true hc2).symm⟩
        · go_wp2
          go_meet
          exact ⟨rfl, congrArg Value.bool (decide_eq_false (p := (D m).2.1 < v1) (by omega)).symm⟩
    case rest =>
    obtain ⟨hw, rfl⟩ := hcut
    subst wc
    obtain ⟨b2, hb2⟩ : ∃ b, b = (b1 && decide ((D m).2.1 < v1)) := ⟨_, rfl⟩
    rw [← hb2]
    have HB2 : Hid (b2 = (b1 && decide ((D m).2.1 < v1))) := hb2
    clear hb2
    go_upto_if 46 with fail
    go_cut [10] (fun s10 wx => wx = w1 ∧ s10 = .int .u32 (if b2 = true then v1 else (D m).2.1))
    case first =>
      clear HB2
      cases b2
      · go_wp2
        go_meet
        exact ⟨rfl, by simp⟩
      · go_wp2
        go_meet
        exact ⟨rfl, by simp⟩
    case rest =>
    obtain ⟨hw, rfl⟩ := hcut
    subst wc
    obtain ⟨V, hV⟩ : ∃ V, V = (if b2 = true then v1 else (D m).2.1) := ⟨_, rfl⟩
    rw [← hV]
    have HV : Hid ((i < m → IsMax (fun k => (D k).2.1) i m v1) → IsMax (fun k => (D k).2.1) i (m + 1) V) := by
      intro hx
      rw [hV, HB2.out, HB.out]
      exact max_step hx m2
    clear hV HB2
    have g1 := P.out.2.2.2.2
    have c0' : w1.cell? ⟨tb, 0, none⟩ = some (.slice (some ⟨blk, 0, none⟩) n cap) := g1.cell c0 (fun e => hne1 (by cases e; rfl))
    have c1' : w1.cell? ⟨tb, 1, none⟩ = some (.slice (some ⟨rb, 0, none⟩) n n) := g1.cell c1 (fun e => hne1 (by cases e; rfl))
    have H1 : Hid (R3 spV w1 blk n D) := H.out.of_block (g1.block blk (H.out.lt (by omega)) (fun e => hne2 (by cases e; rfl)))
    clear g1
    go_wp2_with fail
    refine (ih (m + 1) j r1 w1 (by omega) (by omega) (by omega) c0' c1' H1.out P.out.2.1).mono ?_
    rintro e w2 ⟨v2, r2, rfl, P1⟩
    have P2 : Hid ((m + 1 < j → IsMax (fun k => (D k).2.1) (m + 1) j v2) ∧ w2.rowIs rb 71 n (fun k => .int .u32 (r2 k)) ∧ (∀ k, ¬ (m + 1 ≤ k ∧ k < j) → r2 k = r1 k) ∧ RO (fun k => (D k).2.1) r2 (m + 1) j ∧ w1.grownBy w2 (some rb)) := P1
    clear P1
    obtain ⟨b3, hb1⟩ : ∃ b, b = decide (m + 1 < j) := ⟨_, rfl⟩
    rw [← hb1]
    have HB3 : Hid (b3 = decide (m + 1 < j)) := hb1
    clear hb1
    go_upto_region 10 with fail
    go_cut [62] (fun s62 wx => wx = w2 ∧ s62 = .bool (b3 && decide (V < v2)))
    case first =>
      clear HB3
      cases b3
      · go_wp2
        go_meet
        exact ⟨rfl, rfl⟩
      · by_cases hc2 : V < v2
        · go_wp2
          go_meet
          exact ⟨rfl, congrArg Value.bool (decide_eq_true hc2).symm⟩
        · go_wp2
          go_meet
          exact ⟨rfl, congrArg Value.bool (decide_eq_false (p := V < v2) (by omega)).symm⟩
    case rest =>
    obtain ⟨hw, rfl⟩ := hcut
    subst wc
    obtain ⟨b2, hb2⟩ : ∃ b, b = (b3 && decide (V < v2)) := ⟨_, rfl⟩
    rw [← hb2]
    have HB2 : Hid (b2 = (b3 && decide (V < v2))) := hb2
    clear hb2
    go_upto_if 62 with fail
    go_cut [10] (fun s10 wx => wx = w2 ∧ s10 = .int .u32 (if b2 = true then v2 else V))
    case first =>
      clear HB2
      cases b2
      · go_wp2
        go_meet
        exact ⟨rfl, by simp⟩
      · go_wp2
        go_meet
        exact ⟨rfl, by simp⟩
    case rest =>
    obtain ⟨hw, rfl⟩ := hcut
    subst wc
    obtain ⟨U, hU⟩ : ∃ U, U = (if b2 = true then v2 else V) := ⟨_, rfl⟩
    rw [← hU]
    have HU : Hid (IsMax (fun k => (D k).2.1) i j U) := by
      show IsMax _ _ _ _
      rw [hU, HB2.out, HB3.out]
      exact max_join (HV.out P.out.1) P2.out.1 m1
    clear hU HB2 HB3 HV
    have g2 := P2.out.2.2.2.2
    have d0 : w2.cell? ⟨tb, 0, none⟩ = some (.slice (some ⟨blk, 0, none⟩) n cap) := g2.cell c0' (fun e => hne1 (by cases e; rfl))
    have d1 : w2.cell? ⟨tb, 1, none⟩ = some (.slice (some ⟨rb, 0, none⟩) n n) := g2.cell c1' (fun e => hne1 (by cases e; rfl))
    have r0 : w2.cell? ⟨rb, m, none⟩ = some (.int .u32 (r2 m)) := P2.out.2.1.cell (by omega)
    have r0' : w2.frozen? ⟨rb, m, none⟩ = false := P2.out.2.1.frozen m
    clear g2
    go_wp2
    go_ret2
    refine ⟨U, upd r2 m U, by rw [show decide (i < j) = true from decide_eq_true hlt]; rfl, fun _ => HU.out, (P2.out.2.1.set m _).congr fun k _ => ?_, fun k hk => ?_, ?_, ?_⟩
    · by_cases e : k = m
      · subst e; simp [upd]
      · simp [upd, e]
    · rw [upd_other _ _ (by omega), P2.out.2.2.1 k (by omega), P.out.2.2.1 k (by omega)]
    · refine .node hlt ?_ ?_ ?_
      · rw [hM, upd_same]; exact HU.out
      · rw [hM]
        exact P.out.2.2.2.1.congr (fun k _ _ => rfl) (fun k _ h => by rw [upd_other _ _ (by omega), P2.out.2.2.1 k (by omega)])
      · rw [hM]
        exact P2.out.2.2.2.1.congr (fun k _ _ => rfl) (fun k _ h => by rw [upd_other _ _ (by omega)])
    · exact grownBy_trans (grownBy_trans P.out.2.2.2.2 P2.out.2.2.2.2) ⟨rfl, rfl, rfl, by simp [World.setCell], fun k _ hne => Below.heap_setCell _ _ _ _ (fun e => hne (by rw [e]))⟩
end Go.Proofs.Qxb6618911aGreat
