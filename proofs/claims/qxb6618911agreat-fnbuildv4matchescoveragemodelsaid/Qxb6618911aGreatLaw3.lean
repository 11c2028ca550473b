/-
  FnBuildV4MatchesCoverageModel, walked.
-/
import Derived.Test.Qxb6618911aGreatLaw4
import Derived.Test.Qxb6618911aGreatPlain3
import Derived.Test.Qxb6618911aGreatNamesOf
import Derived.Test.Qxb6618911aGreatReachOK
import Derived.Test.Qxb6618911aGreatRead6
namespace Go.Proofs.Qxb6618911aGreat
open Go.RowKit Go.Lib

theorem tfold_ids (nn : Nat) (l : List T3) : ∀ (n : Nat) (ps : List Int), ps.length = n → ∀ zs ∈ (tfold nn l [[]] ps).2.2, ∀ z ∈ zs, 0 ≤ z ∧ z < nn
  | 0, ps, hn => by rw [List.length_eq_zero_iff.1 hn]; intro zs hz z hzz; simp [tfold] at hz; rw [hz] at hzz; simp at hzz
  | n + 1, ps, hn => by
    have hne : ps ≠ [] := by rintro rfl; simp at hn
    obtain ⟨qs, p, rfl⟩ : ∃ qs p, ps = qs ++ [p] := ⟨_, _, (List.dropLast_concat_getLast hne).symm⟩
    rw [tfold_snoc]
    have ih := tfold_ids nn l n qs (by simpa using hn)
    have hst : (tstep (cover nn l p) p (tfold nn l [[]] qs)).2.2 = tabN (tfold nn l [[]] qs).2.2 (cover nn l p) := by
      unfold tstep
      split
      · rfl
      · split <;> rfl
    rw [hst]
    intro zs hz
    rcases tabN_mem hz with h | rfl
    · exact ih zs h
    · exact fun z hz => ⟨(mem_cover.1 hz).1, (mem_cover.1 hz).2.1⟩

set_option maxRecDepth 100000 in
set_option maxHeartbeats 8000000 in
theorem law3_any (an al ah ar : Option Addr) (nn cn nl cl nh ch ns cs : Nat) (N : Nat → ByteArray) (fl fh fs : Nat → Int) (w : World) (h1 : ArgS w an nn (fun i => .string (N i))) (hN : ∀ i, i < nn → (N i).size ≤ maxLen)
    (h2 : ArgS w al nl (fun i => .int .u32 (fl i))) (w2 : ∀ i, i < nl → (Lit.int .u32 (fl i)).wf = true) (h3 : ArgS w ah nh (fun i => .int .u32 (fh i))) (w3 : ∀ i, i < nh → (Lit.int .u32 (fh i)).wf = true) (h4 : ArgS w ar ns (fun i => .int .i32 (fs i))) (w4 : ∀ i, i < ns → (Lit.int .i32 (fs i)).wf = true) :
    Calls Tryz.prog 3 #[.slice an nn cn, .slice al nl cl, .slice ah nh ch, .slice ar ns cs] w fun e w' => e = .returned (.bool true) ∧ Below w.heap.size w w' := by
  have H1 : Hid (ArgS w an nn (fun i => .string (N i)) ∧ ∀ i, i < nn → (N i).size ≤ maxLen) := ⟨h1, hN⟩
  have H2 : Hid (ArgS w al nl (fun i => .int .u32 (fl i)) ∧ ∀ i, i < nl → (Lit.int .u32 (fl i)).wf = true) := ⟨h2, w2⟩
  have H3 : Hid (ArgS w ah nh (fun i => .int .u32 (fh i)) ∧ ∀ i, i < nh → (Lit.int .u32 (fh i)).wf = true) := ⟨h3, w3⟩
  have H4 : Hid (ArgS w ar ns (fun i => .int .i32 (fs i)) ∧ ∀ i, i < ns → (Lit.int .i32 (fs i)).wf = true) := ⟨h4, w4⟩
  clear h1 hN h2 w2 h3 w3 h4 w4
  go_enter Tryz.func3, Tryz.ntmps3
  go_wp2_with fail
  refine (bytes5_any an 0 w.heap.size nn cn N al ah ar nl cl nh ch ns cs w H1.out.1.len H2.out.1.len H3.out.1.len H4.out.1.len H1.out.2 H1.out.1.row).mono ?_
  rintro e wx ⟨⟨b, rfl, hb⟩, hw⟩
  subst wx
  rcases b with _ | _
  · go_wp2
    go_ret
    exact ⟨rfl, Below.refl _ _⟩
  have HZ : Hid (∀ i, i < nn → (N i).size ≤ 1048576) := hb rfl
  clear hb
  by_cases c1 : 4096 < nn
  · have c1' : (4096 : Int) < (nn : Int) := by omega
    go_wp2
    go_ret
    exact ⟨rfl, Below.refl _ _⟩
  have c1' : ¬ (4096 : Int) < (nn : Int) := by omega
  by_cases c2 : 1024 < nl
  · have c2' : (1024 : Int) < (nl : Int) := by omega
    go_wp2
    go_ret
    exact ⟨rfl, Below.refl _ _⟩
  have c2' : ¬ (1024 : Int) < (nl : Int) := by omega
  by_cases c3 : 1024 < nh
  · have c3' : (1024 : Int) < (nh : Int) := by omega
    go_wp2
    go_ret
    exact ⟨rfl, Below.refl _ _⟩
  have c3' : ¬ (1024 : Int) < (nh : Int) := by omega
  by_cases c4 : 1024 < ns
  · have c4' : (1024 : Int) < (ns : Int) := by omega
    go_wp2
    go_ret
    exact ⟨rfl, Below.refl _ _⟩
  have c4' : ¬ (1024 : Int) < (ns : Int) := by omega
  go_wp2_with fail
  refine (fit_any an 0 w.heap.size nn cn N al ah ar nl cl nh ch ns cs w (by omega) (by omega) (by omega) (by omega) HZ.out H1.out.1.row).mono ?_
  rintro e wx ⟨⟨b, rfl, -⟩, hw⟩
  subst wx
  rcases b with _ | _
  · go_wp2
    go_ret
    exact ⟨rfl, Below.refl _ _⟩
  go_wp2_with fail
  refine (prem_any an al ah ar w.heap.size nn cn nl cl nh ch ns cs N fl fh fs w (by omega) (by omega) (by omega) (by omega) H1.out.1.row H2.out.1.row H3.out.1.row H4.out.1.row (fun i hi => (wf_i32 (H4.out.2 i hi)).2)).mono ?_
  rintro e wa ⟨⟨b, rfl, hb⟩, ha⟩
  have HA : Hid (Gr w wa) := Gr.of_alk ha
  have HA2 : Hid (Alk wa w) := ha
  clear ha
  rcases b with _ | _
  · go_wp2
    go_ret
    exact ⟨rfl, HA.out⟩
  obtain ⟨rfl, rfl, hp⟩ := hb rfl
  have HP : Hid (Prem nn ns N fl fh fs) := hp
  clear hb hp
  clear c1 c2 c3 c4
  go_wp2_with fail
  refine (cloneStr_plain an 0 wa.heap.size nn cn N wa (by omega) H1.out.1.nil H1.out.1.plain (HA.out.row H1.out.1.row)).mono ?_
  rintro e w1 ⟨nao, rfl, hz1, hp1, hr1, hg1⟩
  have K1 : Hid (Gr w w1 ∧ (nao = none → nn = 0) ∧ (∀ a, nao = some a → a.spot = none) ∧ Row w1 0 w1.heap.size nao nn (fun i => .string (N i))) := ⟨HA.out.trans hg1, hz1, hp1, hr1.widen (Nat.zero_le _) (Nat.le_refl _)⟩
  clear hz1 hp1 hr1 hg1
  go_wp2_with fail
  refine (cloneU32_any al 0 w1.heap.size ns cl fl w1 (by omega) H2.out.1.nil H2.out.1.plain (K1.out.1.row H2.out.1.row)).mono ?_
  rintro e w2 ⟨la, rfl, hz2, hr2, hg2⟩
  have K2 : Hid (Gr w1 w2 ∧ Row w2 0 w2.heap.size la ns (fun i => .int .u32 (fl i))) := ⟨hg2, hr2.widen (Nat.zero_le _) (Nat.le_refl _)⟩
  clear hz2 hr2 hg2
  go_wp2_with fail
  refine (cloneU32_any ah 0 w2.heap.size ns ch fh w2 (by omega) H3.out.1.nil H3.out.1.plain ((K1.out.1.trans K2.out.1).row H3.out.1.row)).mono ?_
  rintro e w3 ⟨ha, rfl, hz2, hr2, hg2⟩
  have K3 : Hid (Gr w2 w3 ∧ Row w3 0 w3.heap.size ha ns (fun i => .int .u32 (fh i))) := ⟨hg2, hr2.widen (Nat.zero_le _) (Nat.le_refl _)⟩
  clear hz2 hr2 hg2
  go_wp2_with fail
  refine (cloneI32_any ar 0 w3.heap.size ns cs fs w3 (by omega) H4.out.1.nil H4.out.1.plain ((K1.out.1.trans (K2.out.1.trans K3.out.1)).row H4.out.1.row)).mono ?_
  rintro e w4 ⟨sa, rfl, hz2, hr2, hg2⟩
  have K4 : Hid (Gr w w4 ∧ (nao = none → nn = 0) ∧ (∀ a, nao = some a → a.spot = none) ∧ Row w4 0 w4.heap.size nao nn (fun i => .string (N i)) ∧ Row w4 0 w4.heap.size la ns (fun i => .int .u32 (fl i)) ∧ Row w4 0 w4.heap.size ha ns (fun i => .int .u32 (fh i)) ∧ Row w4 0 w4.heap.size sa ns (fun i => .int .i32 (fs i))) :=
    ⟨K1.out.1.trans (K2.out.1.trans (K3.out.1.trans hg2)), K1.out.2.1, K1.out.2.2.1, (K2.out.1.trans (K3.out.1.trans hg2)).row K1.out.2.2.2, (K3.out.1.trans hg2).row K2.out.2, Gr.row hg2 K3.out.2, hr2.widen (Nat.zero_le _) (Nat.le_refl _)⟩
  have HW : Hid (∀ i, i < ns → 0 ≤ fl i ∧ fl i ≤ fh i ∧ fh i ≤ 4294967295 ∧ 0 ≤ fs i ∧ fs i < nn) := fun i hi => ⟨(wf_u32 (H2.out.2 i hi)).1, (HP.out.span i hi).1, (wf_u32 (H3.out.2 i hi)).2, (HP.out.span i hi).2.1, (HP.out.span i hi).2.2⟩
  clear hz2 hr2 hg2 K1 K2 K3 H1 H2 H3 H4 HA HA2
  go_wp2_with fail
  refine (builder_any nao nn nn N la ha sa ns ns ns ns fl fh fs w4 (by omega) (by omega) HZ.out K4.out.2.2.2.1 K4.out.2.2.2.2.1 K4.out.2.2.2.2.2.1 K4.out.2.2.2.2.2.2).mono ?_
  rintro e w6 ⟨bb1, mb1, sao1, rfl, hB1, hb1, hg1, hs1⟩
  have A1 := Hid.intro (barg_of (N := N) (by omega) (by omega) hB1 hb1 hg1 hs1 K4.out.2.2.2.1 HW.out)
  have G1 : Hid (∀ w'', Kp (fun q => q = bb1 ∨ sao1 = some ⟨q, 0, none⟩) w6 w'' → Gr w4 w'') := fun w'' k => gr_build hb1 hg1 hs1 k
  clear hB1 hb1 hg1 hs1
  go_wp2_with fail
  refine (build_any bb1 nao nn nn N (.map (some mb1)) sao1 ns (fun i => (fl i, fh i, fs i)) w4.heap.size w6 A1.out).mono ?_
  rintro e w7 ⟨xb, ps, rfl, hps, hx1, hz1, hk1⟩
  have G7 : Hid (Gr w4 w7) := G1.out w7 hk1
  obtain ⟨l, hl⟩ : ∃ l, l = spanL ns (fun i => (fl i, fh i, fs i)) := ⟨_, rfl⟩
  have BN : Hid (Bnd nn l ps) := by
    rw [hl]
    exact ⟨hps, fun x hx => (by
      obtain ⟨j, hj, rfl⟩ := ((spanL_spec _ _).2 x).1 hx
      exact HW.out j hj), Nat.le_trans (ddn_len_le _ ns) (by omega), by omega⟩
  obtain ⟨r1, ro1, sta, stc, ua, uc, s6, u6, ta, tc, sc, rb, r6, i1⟩ := hx1
  rw [← hl] at ro1 i1
  obtain ⟨st, hst⟩ : ∃ st, st = tfold nn l [[]] ps := ⟨_, rfl⟩
  rw [← hst] at i1
  have HL : Hid (l = spanL ns (fun i => (fl i, fh i, fs i)) ∧ st = tfold nn l [[]] ps) := ⟨hl, hst⟩
  have I1 : Hid (IdxW w7 w6.heap.size sao1 xb nao nn nn N l r1 st sta stc ua uc s6 u6 ta tc sc rb r6) := i1
  have RO1 := Hid.intro ro1
  have RW : Hid (Row w7 0 w7.heap.size nao nn (fun i => .string (N i)) ∧ Row w7 0 w7.heap.size la ns (fun i => .int .u32 (fl i)) ∧ Row w7 0 w7.heap.size ha ns (fun i => .int .u32 (fh i)) ∧ Row w7 0 w7.heap.size sa ns (fun i => .int .i32 (fs i))) :=
    ⟨G7.out.row K4.out.2.2.2.1, G7.out.row K4.out.2.2.2.2.1, G7.out.row K4.out.2.2.2.2.2.1, G7.out.row K4.out.2.2.2.2.2.2⟩
  have ZB : Hid (w7.rowIs bb1 70 4 (bG none 0 0 (.map none) none 0) ∧ Gr w w7) := ⟨hz1, K4.out.1.trans G7.out⟩
  have LK : Hid (Look nn l ps st) := by rw [hst]; exact BN.out.look
  have LN : Hid (st.1.length ≤ 3000 ∧ st.2.2.length ≤ 3000 ∧ (∀ zs ∈ st.2.2, zs.length ≤ 4096 ∧ ∀ z ∈ zs, 0 ≤ z ∧ z < nn) ∧ l.length ≤ 1024) := by
    rw [hst]
    have h1 := tfold_len nn l [[]] ps
    have h2 := ps_bound BN.out.pts BN.out.hl
    have h3 := h1.2.2.2
    simp only [List.length_cons, List.length_nil] at h3
    exact ⟨by have := h1.2.2.1; omega, by omega, fun zs hz => ⟨tfold_sets nn l (by omega) _ ps rfl zs hz, tfold_ids nn l _ ps rfl zs hz⟩, BN.out.hl⟩
  have hs1 := LN.out.1
  have hs2 := LN.out.2.1
  have hl1 := LN.out.2.2.2
  have hs0 : 0 < st.2.2.length := by
    have hz := LK.out.zero
    rcases Nat.eq_zero_or_pos st.2.2.length with e | e
    · rw [List.length_eq_zero_iff.1 e] at hz; simp at hz
    · exact e
  clear hst hl i1 ro1 hps hz1 hk1 K4 A1 G1 G7
  go_wp2_with fail
  refine (table13 xb st.1.length stc st.1.length uc sta ua (fun i => st.1[i]!) w7.heap.size w7 (by omega) (I1.out.x.cell (i := 0) (by omega)) (by rw [LK.out.len]; exact I1.out.x.cell (i := 1) (by omega)) (I1.out.x.cell (i := 2) (by omega)) I1.out.starts.rowInt).mono ?_
  rintro e v1 ⟨rfl, t1, g1⟩
  have V1 : Hid (Gr w7 v1 ∧ v1.rowIs w7.heap.size 41 st.1.length (fun i => .int .u32 st.1[i]!)) := ⟨g1, t1⟩
  clear t1 g1
  go_wp2_with fail
  refine (sets14 xb (.slice ta st.2.2.length tc) v1 ((I1.out.gr V1.out.1).x.cell (i := 6) (by omega))).mono ?_
  rintro e v ⟨rfl, hv⟩
  subst v
  go_wp2_with fail
  refine (entries15 xb l.length l.length l.length l.length sao1 (some ⟨rb, 0, none⟩) (fun i => l[i]!) r1 v1.heap.size v1 (by omega) (by omega) ((I1.out.gr V1.out.1).x.cell (i := 7) (by omega)) ((I1.out.gr V1.out.1).x.cell (i := 8) (by omega)) (I1.out.gr V1.out.1).s3 (Gr.row0 (I1.out.gr V1.out.1).reach)).mono ?_
  rintro e v2 ⟨rfl, y0, y1, y2, y3, g6⟩
  have V2 : Hid (Gr w7 v2 ∧ v2.rowIs w7.heap.size 41 st.1.length (fun i => .int .u32 st.1[i]!) ∧ v2.rowIs v1.heap.size 41 l.length (fun i => .int .u32 (l[i]!).1) ∧ v2.rowIs (v1.heap.size + 1) 41 l.length (fun i => .int .u32 (l[i]!).2.1) ∧ v2.rowIs (v1.heap.size + 2) 21 l.length (fun i => .int .i32 (l[i]!).2.2) ∧ v2.rowIs (v1.heap.size + 3) 41 l.length (fun i => .int .u32 (r1 i))) := ⟨V1.out.1.trans g6, Gr.rowIs g6 V1.out.2, y0, y1, y2, y3⟩
  clear y0 y1 y2 y3 g6 V1
  go_wp2_with fail
  refine (names16 xb (.slice nao nn nn) v2 ((I1.out.gr V2.out.1).x.cell (i := 11) (by omega))).mono ?_
  rintro e v ⟨rfl, hv⟩
  subst v
  go_wp2_with fail
  refine (index17 xb s6 u6 (some ⟨r6, 0, none⟩) v2 ((I1.out.gr V2.out.1).x.cell (i := 3) (by omega)) ((I1.out.gr V2.out.1).x.cell (i := 4) (by omega)) ((I1.out.gr V2.out.1).x.cell (i := 5) (by omega)) ((I1.out.gr V2.out.1).x.cell (i := 9) (by omega)) ((I1.out.gr V2.out.1).x.cell (i := 10) (by omega)) (I1.out.gr V2.out.1).c60 (I1.out.gr V2.out.1).c61 (I1.out.gr V2.out.1).c62).mono ?_
  rintro e v3 ⟨rfl, a3⟩
  have A3 : Hid (Gr v2 v3) := Gr.of_alk a3
  clear a3
  go_wp2_with fail
  refine (state18 bb1 v3 ((Gr.rowIs (V2.out.1.trans A3.out) ZB.out.1).cell (i := 0) (by omega)) ((Gr.rowIs (V2.out.1.trans A3.out) ZB.out.1).cell (i := 2) (by omega)) ((Gr.rowIs (V2.out.1.trans A3.out) ZB.out.1).cell (i := 3) (by omega))).mono ?_
  rintro e v4 ⟨rfl, a4⟩
  have V4 : Hid (Gr w7 v4 ∧ v4.rowIs w7.heap.size 41 st.1.length (fun i => .int .u32 st.1[i]!) ∧ v4.rowIs v1.heap.size 41 l.length (fun i => .int .u32 (l[i]!).1) ∧ v4.rowIs (v1.heap.size + 1) 41 l.length (fun i => .int .u32 (l[i]!).2.1) ∧ v4.rowIs (v1.heap.size + 2) 21 l.length (fun i => .int .i32 (l[i]!).2.2) ∧ v4.rowIs (v1.heap.size + 3) 41 l.length (fun i => .int .u32 (r1 i))) := by
    have g := A3.out.trans (Gr.of_alk a4)
    exact ⟨V2.out.1.trans g, g.rowIs V2.out.2.1, g.rowIs V2.out.2.2.1, g.rowIs V2.out.2.2.2.1, g.rowIs V2.out.2.2.2.2.1, g.rowIs V2.out.2.2.2.2.2⟩
  clear a4 A3 V2
  have C19 : Calls Tryz.prog 19 #[.slice la ns ns, .slice ha ns ns, .slice sa ns ns] v4 fun e w' => ∃ (sao : Option Addr) (c : Nat) (ca : Option Addr) (c' : Nat) (cv : List Value) (C : List (List Int)) (w2 : World), e = .returned (.tuple #[.slice sao st.1.length c, .slice ca C.length c']) ∧ Hid (C.length = st.1.length ∧ nfold C = (st.2.1, st.2.2) ∧ Gr v4 w2 ∧ MR w2 (st.1, C) sao c ca c' cv w' ∧ ∀ zs ∈ C, zs.length ≤ 1000000) :=
    (runs_any la ha sa ns ns ns ns fl fh fs (cover nn l) v4 (by omega) (V4.out.1.row RW.out.2.1) (V4.out.1.row RW.out.2.2.1) (V4.out.1.row RW.out.2.2.2) (fun i hi => ⟨by have := HW.out i hi; omega, (HW.out i hi).2.2.1⟩) (fun p ys h => by rw [HL.out.1]; exact cov_is (fun i hi => (HW.out i hi).2.2.2) h) (fun p => Nat.le_trans (cover_len nn l p) (by omega))).mono (fun e w' h => by
      obtain ⟨P, w2, sao, c, ca, c', cv, h1, h2, h3, h4⟩ := h
      have hb := BN.out
      rw [HL.out.1] at hb
      have J := model_table hb h2
      rw [← HL.out.1, ← HL.out.2] at J
      have hlen := mfold_len (cover nn l) _ P rfl
      refine ⟨sao, c, ca, c', cv, (mfold (cover nn l) P).2, w2, by rw [h1, J.starts], by rw [← hlen.1, J.starts], J.nums, h3, ?_, fun zs hz => ?_⟩
      · have e2 : (st.1, (mfold (cover nn l) P).2) = mfold (cover nn l) P := by rw [← J.starts]
        rw [e2]; exact h4
      · obtain ⟨p, rfl⟩ := mfold_mem (cover nn l) _ P rfl zs hz
        have := cover_len nn l p
        omega)
  go_wp2_with fail
  refine C19.mono ?_
  rintro e v5 ⟨sao, c, ca, c', cv, C, w2, rfl, HC⟩
  clear C19
  have G5 : Hid (Gr v4 v5) := HC.out.2.2.1.trans HC.out.2.2.2.1.gr
  have C20 : Calls Tryz.prog 20 #[.slice ca C.length c'] v5 fun e w' => ∃ (da : Option Addr) (dc : Nat) (dv : List Value), e = .returned (.tuple #[.slice (some ⟨v5.heap.size + 1, 0, none⟩) st.1.length st.1.length, .slice da st.2.2.length dc]) ∧ Hid (NR v5 st.1.length st.1.length (st.2.1, st.2.2) da dc dv w') :=
    (number_any ca c' cv C w2.heap.size v5 (by rw [HC.out.1]; omega) HC.out.2.2.2.1.cs HC.out.2.2.2.1.rows HC.out.2.2.2.2).mono (fun e w' h => by
      obtain ⟨da, dc, dv, h1, h2⟩ := h
      rw [HC.out.1, HC.out.2.1] at h2
      exact ⟨da, dc, dv, by rw [h1, HC.out.1, HC.out.2.1], h2⟩)
  go_wp2_with fail
  refine C20.mono ?_
  rintro e v6 ⟨da, dc, dv, rfl, HN⟩
  clear C20
  have G6 : Hid (Gr w7 v6 ∧ v6.rowIs w7.heap.size 41 st.1.length (fun i => .int .u32 st.1[i]!) ∧ OR v6 w2.heap.size 41 sao st.1.length c (st.1.map (.int .u32)) ∧ Gr v4 v6) := by
    have g := G5.out.trans HN.out.gr
    exact ⟨V4.out.1.trans g, g.rowIs V4.out.2.1, HC.out.2.2.2.1.st.of_block fun b _ hb => HN.out.gr.block b hb, g⟩
  clear HC G5
  go_wp2
  go_loopg [35] st.1.length (fun gk x35 wr => ∃ k : Nat, k ≤ st.1.length ∧ gk = st.1.length - k ∧ x35 = .int .i64 k ∧ Hid (Gr v6 wr))
  case atStart => exact ⟨0, by omega, rfl, rfl, Gr.refl _⟩
  case round =>
    obtain ⟨k, hk, hgk, rfl, HX⟩ := hrel
    by_cases hlt : k < st.1.length
    · have hlt' : (k : Int) < (st.1.length : Int) := by omega
      obtain ⟨a, ha1⟩ : ∃ a, a = st.1[k]! := ⟨_, rfl⟩
      obtain ⟨b, hb1⟩ : ∃ b, b = st.2.1[k]! := ⟨_, rfl⟩
      have d1 : wr.cell? ⟨w7.heap.size, k, none⟩ = some (.int .u32 a) := by rw [ha1]; exact (HX.out.rowIs G6.out.2.1).cell hlt
      have os := G6.out.2.2.1.of_block (w' := wr) fun b _ hb => HX.out.block b hb
      obtain ⟨b2, o2, rfl, d2⟩ := os.rowInt.cell (i := k) hlt
      rw [← ha1] at d2
      have on := (I1.out.gr (G6.out.1.trans HX.out)).nums
      rw [← LK.out.len] at on
      obtain ⟨b3, o3, rfl, d3⟩ := on.rowInt.cell (i := k) hlt
      rw [← hb1] at d3
      have d4 : wr.cell? ⟨v5.heap.size + 1, k, none⟩ = some (.int .u32 b) := by
        have := (HX.out.rowIs HN.out.nums).cell hlt
        rw [if_pos hlt, ← hb1] at this
        exact this
      clear ha1 hb1 os on
      go_wp2
      go_quiet (fail)
      go_wp2
      go_roundg (st.1.length - (k + 1))
      case measure => omega
      case rel => exact ⟨k + 1, by omega, rfl, by go_num, HX.out.trans (Gr.of_alk (Alk.drewN _ _))⟩
    · obtain rfl : st.1.length = k := by omega
      obtain ⟨v7, rfl⟩ : ∃ v7, v7 = wr := ⟨wr, rfl⟩
      have G7 : Hid (Gr v6 v7) := HX
      clear HX
      have i7 := I1.out.gr (G6.out.1.trans G7.out)
      obtain ⟨tg, tv, rfl, -, et, ct, -⟩ := i7.sets.cell (j := 0) hs0
      obtain rfl : tv = .slice none 0 0 := Option.some.inj (et.symm.trans i7.rows.1)
      have q0 : ∀ w : World, Sem.run Tryz.prog (binOp .neq 22 (.slice none 0 0) (.slice none 0 0)) w = .ok (.bool false) w := fun w => rfl
      have hs0' : (0 : Int) < (st.2.2.length : Int) := by omega
      clear et i7
      go_wp2
      clear q0 ct
      go_loopg [36] (st.2.2.length - 1) (fun gk x36 wr => ∃ k : Nat, 1 ≤ k ∧ k ≤ st.2.2.length ∧ gk = st.2.2.length - k ∧ x36 = .int .i64 k ∧ Hid (Gr v6 wr))
      case atStart => exact ⟨1, by omega, by omega, rfl, by go_num, G7⟩
      case round =>
        clear G7
        obtain ⟨k, hk1, hk, hgk2, rfl, HX⟩ := hrel
        by_cases hlt : k < st.2.2.length
        · have hlt' : (k : Int) < (st.2.2.length : Int) := by omega
          obtain ⟨zs, hzs⟩ : ∃ zs, st.2.2[k]? = some zs := ⟨st.2.2[k], List.getElem?_eq_getElem _⟩
          have hz! : st.2.2[k]! = zs := by rw [getL _ hlt]; rw [List.getElem?_eq_getElem hlt] at hzs; exact Option.some.inj hzs
          have hzok := LN.out.2.2.1 zs (List.mem_of_getElem? hzs)
          have gw : Gr w7 wr := G6.out.1.trans HX.out
          have iw := I1.out.gr gw
          obtain ⟨sg, e1, r1'⟩ := iw.setRow (k := k) (by omega) hlt
          rw [hz!] at e1 r1'
          obtain ⟨tg', tv, etg, -, et, ct, -⟩ := iw.sets.cell (j := k) hlt
          obtain rfl : tg = tg' := by simpa using etg
          have htv : tv = .slice (some ⟨sg, 0, none⟩) zs.length zs.length := by
            have hl' : k < sc.length := by rw [iw.sets.1]; exact hlt
            rw [List.getElem?_eq_getElem hl', ← getL _ hl', e1] at et
            exact (Option.some.inj et).symm
          subst htv
          obtain ⟨dg, zao, zcap, hda, cd, rz⟩ := (HN.out.grown HX.out).at_ hzs
          subst hda
          have adr : Alk wr.drew wr := ⟨rfl, rfl, rfl, rfl⟩
          have C22 := namesOf_any zao zcap zs nao nn nn N wr.drew hzok.1 ((Gr.of_alk adr).row rz) ((Gr.of_alk adr).row (gw.row RW.out.1)) hzok.2
          have C21 : Hid (∀ (w' : World) (ao : Option Addr) (cap : Nat), Gr wr.drew w' → Row w' 0 w'.heap.size ao zs.length (fun i => .string ⟨⟨(srtN N zs)[i]!⟩⟩) → Calls Tryz.prog 21 #[.slice (some ⟨sg, 0, none⟩) zs.length zs.length, .slice ao zs.length cap] w' fun e w'' => e = .returned (.bool true) ∧ Alk w'' w') := fun w' ao cap hg hr =>
            sameStr_true _ ao w'.heap.size w'.heap.size zs.length zs.length cap (fun i => ⟨⟨(srtN N zs)[i]!⟩⟩) w' (by omega) (((Gr.of_alk adr).trans hg).row r1') hr
          have GX := Hid.intro (HX.out.trans (Gr.of_alk adr))
          clear hzs hz! hzok gw iw e1 r1' etg et rz adr
          go_upto_region 37 with fail
          go_region_with (first
            | (go_at_call 22; go_must (refine C22.mono ?_; rintro e w' ⟨ao, cap, rfl, hr, hg⟩; have HR := Hid.intro (And.intro hg hr); have ct' := hg.cell ct; clear hg hr))
            | (go_at_call 21; go_must (refine (C21.out _ _ _ HR.out.1 HR.out.2).mono ?_; rintro e w'' ⟨rfl, hw⟩)))
          all_goals
            clear C22 C21
            go_wp2
            go_roundg (st.2.2.length - (k + 1))
            case measure => omega
            case rel => exact ⟨k + 1, by omega, by omega, rfl, by go_num, GX.out.trans (HR.out.1.trans (Gr.of_alk hw))⟩
        · obtain rfl : st.2.2.length = k := by omega
          obtain ⟨v8, rfl⟩ : ∃ v8, v8 = wr := ⟨wr, rfl⟩
          have G8 : Hid (Gr w7 v8 ∧ Gr v4 v8) := ⟨G6.out.1.trans HX.out, G6.out.2.2.2.trans HX.out⟩
          clear HX G6 HN
          have C23 : Calls Tryz.prog 23 #[.slice la ns ns, .slice ha ns ns, .slice sa ns ns] v8 fun e w' => ∃ (eao : Option Addr) (ecap : Nat), e = .returned (.slice eao l.length ecap) ∧ Hid (O3 w' v8.heap.size eao ecap l ∧ Gr v8 w') :=
            (entries_any la ha sa ns ns ns ns fl fh fs v8 (by omega) (G8.out.1.row RW.out.2.1) (G8.out.1.row RW.out.2.2.1) (G8.out.1.row RW.out.2.2.2)).mono (fun e w' h => by
              obtain ⟨eao, ecap, l', h1, h2, h3, h4⟩ := h
              have e2 := ent_is h2
              rw [← HL.out.1] at e2
              subst e2
              exact ⟨eao, ecap, h1, h3, h4⟩)
          go_wp2_with fail
          refine C23.mono ?_
          rintro e v9 ⟨eao, ecap, rfl, HE⟩
          have Y9 : Hid (Gr w7 v9 ∧ v9.rowIs v1.heap.size 41 l.length (fun i => .int .u32 (l[i]!).1) ∧ v9.rowIs (v1.heap.size + 1) 41 l.length (fun i => .int .u32 (l[i]!).2.1) ∧ v9.rowIs (v1.heap.size + 2) 21 l.length (fun i => .int .i32 (l[i]!).2.2) ∧ v9.rowIs (v1.heap.size + 3) 41 l.length (fun i => .int .u32 (r1 i))) := by
            have g := G8.out.2.trans HE.out.2
            exact ⟨G8.out.1.trans HE.out.2, g.rowIs V4.out.2.2.1, g.rowIs V4.out.2.2.2.1, g.rowIs V4.out.2.2.2.2.1, g.rowIs V4.out.2.2.2.2.2⟩
          clear C23 G8 V4
          go_wp2
          go_loopg [38] l.length (fun gk x38 wr => ∃ k : Nat, k ≤ l.length ∧ gk = l.length - k ∧ x38 = .int .i64 k ∧ Hid (Gr v9 wr))
          case atStart => exact ⟨0, by omega, rfl, rfl, Gr.refl _⟩
          case round =>
            obtain ⟨k, hk, hgk3, rfl, HX⟩ := hrel
            by_cases hlt : k < l.length
            · have hlt' : (k : Int) < (l.length : Int) := by omega
              obtain ⟨y, hy⟩ : ∃ y, l[k]? = some y := ⟨l[k], List.getElem?_eq_getElem _⟩
              have hy! : l[k]! = y := by rw [getL _ hlt]; rw [List.getElem?_eq_getElem hlt] at hy; exact Option.some.inj hy
              have d1 := (HX.out.rowIs Y9.out.2.1).cell hlt
              have d2 := (HX.out.rowIs Y9.out.2.2.1).cell hlt
              have d3 := (HX.out.rowIs Y9.out.2.2.2.1).cell hlt
              rw [hy!] at d1 d2 d3
              have oe := HE.out.1.of_block (w' := wr) fun b _ hb => HX.out.block b hb
              obtain ⟨eg, heo⟩ : ∃ g, eao = some ⟨g, 0, none⟩ := by
                rcases oe with ⟨_, h, _⟩ | ⟨g, _, e, _⟩
                · rw [h] at hlt; simp at hlt
                · exact ⟨g, e⟩
              subst heo
              obtain ⟨a0, a1, a2, -⟩ := oe.cells hy
              obtain ⟨y0, y1, y2⟩ := y
              dsimp only at d1 d2 d3 a0 a1 a2
              clear oe hy hy!
              go_wp2
              go_quiet (fail)
              go_wp2
              go_roundg (l.length - (k + 1))
              case measure => omega
              case rel => exact ⟨k + 1, by omega, rfl, by go_num, HX.out.trans (Gr.of_alk (Alk.drewN _ _))⟩
            · obtain rfl : l.length = k := by omega
              obtain ⟨v10, rfl⟩ : ∃ v10, v10 = wr := ⟨wr, rfl⟩
              have C24 : Calls Tryz.prog 24 #[.slice (some ⟨v1.heap.size + 1, 0, none⟩) l.length l.length, .slice (some ⟨v1.heap.size + 3, 0, none⟩) l.length l.length, .int .i64 0, .int .i64 l.length] v10 fun e w' => e = .returned (.bool true) ∧ w' = v10 :=
                reachOK_any _ _ l.length l.length l.length (fun k => l[k]!.2.1) r1 v10 (by omega) (Gr.row0 (HX.out.rowIs Y9.out.2.2.1)) (Gr.row0 (HX.out.rowIs Y9.out.2.2.2.2)) (i := 0) (j := l.length) RO1.out (Nat.le_refl _) (Nat.zero_le _)
              have G10 : Hid (Gr w7 v10) := Y9.out.1.trans HX.out
              clear HX Y9 HE
              go_wp2_with fail
              refine C24.mono ?_
              rintro e v ⟨rfl, hv⟩
              subst v
              clear C24
              go_wp2_with fail
              refine (sameStr_true nao nao v10.heap.size v10.heap.size nn nn nn N v10 (by omega) (G10.out.row RW.out.1) (G10.out.row RW.out.1)).mono ?_
              rintro e v11 ⟨rfl, a11⟩
              have FIN : Hid (Gr w v11) := ZB.out.2.trans (G10.out.trans (Gr.of_alk a11))
              clear a11
              go_wp2
              go_ret
              exact ⟨rfl, FIN.out⟩
end Go.Proofs.Qxb6618911aGreat
