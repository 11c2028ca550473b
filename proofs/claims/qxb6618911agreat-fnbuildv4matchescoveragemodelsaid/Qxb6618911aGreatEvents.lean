/-
  addEvents (key4).
-/
import Derived.Test.Qxb6618911aGreatTree
import Derived.Deep.DeepAppendRoom
import Derived.Deep.AppendLies
namespace Go.Proofs.Qxb6618911aGreat
open Go.RowKit Go.Lib Go.Shelf Go.Sort

/-- The events of one span. -/
def evOf (s : Int × Int × Int) : List (Int × Int × Int) := if s.2.1 = 4294967295 then [(s.1, s.2.2, 1)] else [(s.1, s.2.2, 1), (s.2.1 + 1, s.2.2, -1)]

/-- The events in the row's cells. -/
def flatE (l : List (Int × Int × Int)) : List Value := l.flatMap evV

theorem flatE_append (l m : List (Int × Int × Int)) : flatE (l ++ m) = flatE l ++ flatE m := by simp [flatE]
theorem flatE_len (l : List (Int × Int × Int)) : (flatE l).length = l.length * 3 := by
  induction l with
  | nil => rfl
  | cons x l ih =>
    have : flatE (x :: l) = evV x ++ flatE l := rfl
    rw [this, List.length_append, ih, evV_len, List.length_cons]
    omega

theorem info125 : (Tryz.prog.info? 125).map (fun i => (i.zero, i.size, i.bytes)) = some (some (.agg #[.int .u32 0, .int .i32 0, .int .i32 0]), 3, 12) := by kernel_rfl
theorem infoE : ∃ i, Tryz.prog.info? 125 = some i ∧ i.size = 3 := by
  obtain ⟨i, hi, hzz⟩ := Option.map_eq_some_iff.1 info125
  simp only [Prod.mk.injEq] at hzz
  exact ⟨i, hi, hzz.2.1⟩

theorem next_all : ((Tryz.f57.body.map invIn).getD []).all (fun n => n == ((Tryz.f57.body.map invIn).getD []).headD "") = true := by kernel_rfl
theorem next_head (x : Value) (w : World) : (method 342 71 x (((Tryz.f57.body.map invIn).getD []).headD "")).run Tryz.prog w = .ok (167, x) w := by kernel_rfl
theorem next57 : ∀ n ∈ (Tryz.f57.body.map invIn).getD [], ∀ (x : Value) (w : World), (method 342 71 x n).run Tryz.prog w = .ok (167, x) w := by
  intro n hn x w
  have := List.all_eq_true.1 next_all n hn
  rw [eq_of_beq this]
  exact next_head x w

/-- append of one event, with room. -/
theorem appendE (base eb cap m : Nat) (l : List (Int × Int × Int)) (x : Int × Int × Int) (w : World) (hroom : m + 1 ≤ cap)
    (hown : w.ownsRow base 125 3 (.slice (some ⟨eb, 0, none⟩) m cap) m (flatE l)) :
    ∃ w', (Builtin.append_ #[121, 121] 121 #[.slice (some ⟨eb, 0, none⟩) m cap, .slice (some ⟨w.heap.size, 0, none⟩) 1 1]).run Tryz.prog (w.alloc (.cells #[.int .u32 x.1, .int .i32 x.2.1, .int .i32 x.2.2] 125)) = .ok (.slice (some ⟨eb, 0, none⟩) (m + 1) cap) w' ∧
      w'.ownsRow base 125 3 (.slice (some ⟨eb, 0, none⟩) (m + 1) cap) (m + 1) (flatE (l ++ [x])) ∧ w.grownBy w' (some eb) := by
  obtain ⟨i0, hi, hz⟩ := infoE
  obtain ⟨w', h1, h2, h3⟩ := run_append_own_spare (P := Tryz.prog) (w.alloc (.cells #[.int .u32 x.1, .int .i32 x.2.1, .int .i32 x.2.2] 125)) base 121 121 125 i0 3 Tryz.underlying121 hi hz eb m cap (flatE l) (hown.alloc _)
    ⟨w.heap.size, 0, none⟩ 1 1 (evV x) rfl (World.news_of_block (cs := #[.int .u32 x.1, .int .i32 x.2.1, .int .i32 x.2.2]) (alloc_new _ _)) (evV_one x) hroom
  refine ⟨w', h1, ?_, grownBy_trans (World.grownBy_alloc w _ _) h3⟩
  rw [flatE_append, show flatE [x] = evV x from by simp [flatE]]
  exact h2

set_option maxHeartbeats 400000 in
theorem next_any (x : Int) (w : World) : Calls Tryz.prog 167 #[.int .u32 x] w fun e w' => e = .returned (.tuple #[.int .u32 (IntKind.u32.wrap (x + 1)), .bool (x != 4294967295)]) ∧ w' = w := by
  go_enter Tryz.func167, Tryz.ntmps167
  go_wp2
  go_ret2
  exact ⟨rfl, rfl⟩

/-- Behind addEvents. -/
def EvPost (w : World) (base eb cap : Nat) (l : List (Int × Int × Int)) (e : Ending) (w' : World) : Prop :=
  e = .returned (.slice (some ⟨eb, 0, none⟩) l.length cap) ∧ w'.ownsRow base 125 3 (.slice (some ⟨eb, 0, none⟩) l.length cap) l.length (flatE l) ∧ w.grownBy w' (some eb)

set_option maxRecDepth 100000 in
set_option maxHeartbeats 2000000 in
theorem addEv_any (base eb cap m : Nat) (l : List (Int × Int × Int)) (s : Int × Int × Int) (w : World) (hm : l.length = m) (hcap : m + 2 ≤ cap) (h0 : 0 ≤ s.2.1) (h1 : s.2.1 ≤ 4294967295)
    (hown : w.ownsRow base 125 3 (.slice (some ⟨eb, 0, none⟩) m cap) m (flatE l)) :
    Calls Tryz.prog 57 #[.slice (some ⟨eb, 0, none⟩) m cap, .int .u32 s.1, .int .u32 s.2.1, .int .i32 s.2.2] w fun e w' => EvPost w base eb cap (l ++ evOf s) e w' := by
  have hm' := next57
  simp [Tryz.f57, invIn, opNames] at hm'
  have hlt : eb < w.heap.size := (hown.lt eb rfl).2
  obtain ⟨w1, r1, o1, g1⟩ := appendE base eb cap m l (s.1, s.2.2, 1) w (by omega) hown
  have H1 : Hid (w1.ownsRow base 125 3 (.slice (some ⟨eb, 0, none⟩) (m + 1) cap) (m + 1) (flatE (l ++ [(s.1, s.2.2, 1)])) ∧ w.grownBy w1 (some eb)) := ⟨o1, g1⟩
  clear o1 g1
  by_cases hx : s.2.1 = 4294967295
  · have hx' : (s.2.1 != 4294967295) = false := by simpa using hx
    have HX : Hid (s.2.1 = 4294967295) := hx
    clear hx
    go_enter Tryz.func57, Tryz.ntmps57
    go_wp2_with (at_builtin; refine Lib.wpList_append_run _ rfl _ _ _ _ rfl _ _ rfl rfl _ _ r1 ?_)
    refine (next_any _ _).mono ?_
    rw [hx']
    rintro e w' ⟨rfl, hw⟩
    subst w'
    go_wp2
    go_ret
    have e1 : evOf s = [(s.1, s.2.2, 1)] := if_pos HX.out
    rw [e1]
    have e2 : (l ++ [(s.1, s.2.2, 1)]).length = m + 1 := by simp [hm]
    exact ⟨by rw [e2]; rfl, by rw [e2]; exact H1.out.1, H1.out.2⟩
  · have hx' : (s.2.1 != 4294967295) = true := by simpa using hx
    have hx2 : IntKind.u32.wrap (s.2.1 + 1) = s.2.1 + 1 := by rw [IntKind.wrap_u32]; omega
    have HX : Hid (¬ s.2.1 = 4294967295) := hx
    clear hx
    obtain ⟨w2, r2, o2, g2⟩ := appendE base eb cap (m + 1) (l ++ [(s.1, s.2.2, 1)]) (s.2.1 + 1, s.2.2, -1) w1 (by omega) H1.out.1
    have H2 : Hid (w2.ownsRow base 125 3 (.slice (some ⟨eb, 0, none⟩) (m + 1 + 1) cap) (m + 1 + 1) (flatE (l ++ [(s.1, s.2.2, 1)] ++ [(s.2.1 + 1, s.2.2, -1)])) ∧ w1.grownBy w2 (some eb)) := ⟨o2, g2⟩
    clear o2 g2
    go_enter Tryz.func57, Tryz.ntmps57
    go_wp2_with (at_builtin; refine Lib.wpList_append_run _ rfl _ _ _ _ rfl _ _ rfl rfl _ _ r1 ?_)
    refine (next_any _ _).mono ?_
    rw [hx', hx2]
    rintro e w' ⟨rfl, hw⟩
    subst w'
    go_wp2_with (at_builtin; refine Lib.wpList_append_run _ rfl _ _ _ _ rfl _ _ rfl rfl _ _ r2 ?_)
    go_ret
    have e1 : evOf s = [(s.1, s.2.2, 1), (s.2.1 + 1, s.2.2, -1)] := if_neg HX.out
    have e2 : (l ++ evOf s).length = m + 1 + 1 := by rw [e1]; simp [hm]
    refine ⟨by rw [e2]; rfl, by rw [e2, e1]; have := H2.out.1; rwa [List.append_assoc] at this, grownBy_trans H1.out.2 H2.out.2⟩

end Go.Proofs.Qxb6618911aGreat
