/-
  FnBuildV4OrderFreeAndResets, walked.
-/
import Derived.Test.Qxb6618911aGreatPre4
import Derived.Test.Qxb6618911aGreatBytes
import Derived.Test.Qxb6618911aGreatPrem
import Derived.Test.Qxb6618911aGreatOpen
namespace Go.Proofs.Qxb6618911aGreat
open Go.RowKit Go.Lib

theorem wf_of {k : IntKind} {n : Int} (h : (Lit.int k n).wf = true) : k.min ≤ n ∧ n ≤ k.max := by
  unfold Lit.wf at h
  rw [Bool.and_eq_true] at h
  exact ⟨of_decide_eq_true h.1, of_decide_eq_true h.2⟩
theorem wf_u32 {n : Int} (h : (Lit.int .u32 n).wf = true) : 0 ≤ n ∧ n ≤ 4294967295 := wf_of h
theorem wf_i32 {n : Int} (h : (Lit.int .i32 n).wf = true) : -2147483648 ≤ n ∧ n ≤ 2147483647 := wf_of h
theorem wf_i64 {n : Int} (h : (Lit.int .i64 n).wf = true) : -9223372036854775808 ≤ n ∧ n ≤ 9223372036854775807 := wf_of h

set_option maxRecDepth 100000 in
set_option maxHeartbeats 8000000 in
theorem law4_any (an al ah ar : Option Addr) (nn cn nl cl nh ch ns cs : Nat) (N : Nat → ByteArray) (fl fh fs : Nat → Int) (cut : Int) (w : World) (h1 : ArgS w an nn (fun i => .string (N i))) (hN : ∀ i, i < nn → (N i).size ≤ maxLen)
    (h2 : ArgS w al nl (fun i => .int .u32 (fl i))) (w2 : ∀ i, i < nl → (Lit.int .u32 (fl i)).wf = true) (h3 : ArgS w ah nh (fun i => .int .u32 (fh i))) (w3 : ∀ i, i < nh → (Lit.int .u32 (fh i)).wf = true) (h4 : ArgS w ar ns (fun i => .int .i32 (fs i))) (w4 : ∀ i, i < ns → (Lit.int .i32 (fs i)).wf = true) (w5 : (Lit.int .i64 cut).wf = true) :
    Calls Tryz.prog 4 #[.slice an nn cn, .slice al nl cl, .slice ah nh ch, .slice ar ns cs, .int .i64 cut] w fun e w' => e = .returned (.bool true) ∧ Below w.heap.size w w' := by
  have H1 : Hid (ArgS w an nn (fun i => .string (N i)) ∧ ∀ i, i < nn → (N i).size ≤ maxLen) := ⟨h1, hN⟩
  have H2 : Hid (ArgS w al nl (fun i => .int .u32 (fl i)) ∧ ∀ i, i < nl → (Lit.int .u32 (fl i)).wf = true) := ⟨h2, w2⟩
  have H3 : Hid (ArgS w ah nh (fun i => .int .u32 (fh i)) ∧ ∀ i, i < nh → (Lit.int .u32 (fh i)).wf = true) := ⟨h3, w3⟩
  have H4 : Hid (ArgS w ar ns (fun i => .int .i32 (fs i)) ∧ ∀ i, i < ns → (Lit.int .i32 (fs i)).wf = true) := ⟨h4, w4⟩
  have hc5 := wf_i64 w5
  clear h1 hN h2 w2 h3 w3 h4 w4 w5
  go_enter Tryz.func4, Tryz.ntmps4
  go_wp2_with fail
  refine (bytes25_any an 0 w.heap.size nn cn N al ah ar nl cl nh ch ns cs cut w H1.out.1.len H2.out.1.len H3.out.1.len H4.out.1.len H1.out.2 H1.out.1.row).mono ?_
  rintro e wx ⟨⟨b, rfl, hb⟩, hw⟩
  subst wx
  rcases b with _ | _
  · go_wp2
    go_ret
    exact ⟨rfl, Below.refl _ _⟩
  have HZ : Hid (∀ i, i < nn → (N i).size ≤ 1048576) := hb rfl
  clear hb
  by_cases c1 : 4096 < nn
  · have c1' : (4096 : Int) < (nn : Int) := by omega
    go_wp2
    go_ret
    exact ⟨rfl, Below.refl _ _⟩
  have c1' : ¬ (4096 : Int) < (nn : Int) := by omega
  by_cases c2 : 1024 < nl
  · have c2' : (1024 : Int) < (nl : Int) := by omega
    go_wp2
    go_ret
    exact ⟨rfl, Below.refl _ _⟩
  have c2' : ¬ (1024 : Int) < (nl : Int) := by omega
  by_cases c3 : 1024 < nh
  · have c3' : (1024 : Int) < (nh : Int) := by omega
    go_wp2
    go_ret
    exact ⟨rfl, Below.refl _ _⟩
  have c3' : ¬ (1024 : Int) < (nh : Int) := by omega
  by_cases c4 : 1024 < ns
  · have c4' : (1024 : Int) < (ns : Int) := by omega
    go_wp2
    go_ret
    exact ⟨rfl, Below.refl _ _⟩
  have c4' : ¬ (1024 : Int) < (ns : Int) := by omega
  go_wp2_with fail
  refine (fit_any an 0 w.heap.size nn cn N al ah ar nl cl nh ch ns cs w (by omega) (by omega) (by omega) (by omega) HZ.out H1.out.1.row).mono ?_
  rintro e wx ⟨⟨b, rfl, -⟩, hw⟩
  subst wx
  rcases b with _ | _
  · go_wp2
    go_ret
    exact ⟨rfl, Below.refl _ _⟩
  go_wp2_with fail
  refine (prem_any an al ah ar w.heap.size nn cn nl cl nh ch ns cs N fl fh fs w (by omega) (by omega) (by omega) (by omega) H1.out.1.row H2.out.1.row H3.out.1.row H4.out.1.row (fun i hi => (wf_i32 (H4.out.2 i hi)).2)).mono ?_
  rintro e wa ⟨⟨b, rfl, hb⟩, ha⟩
  have HA : Hid (Gr w wa) := Gr.of_alk ha
  have HA2 : Hid (Alk wa w) := ha
  clear ha
  rcases b with _ | _
  · go_wp2
    go_ret
    exact ⟨rfl, HA.out⟩
  obtain ⟨rfl, rfl, hp⟩ := hb rfl
  have HP : Hid (Prem nn ns N fl fh fs) := hp
  clear hb hp
  by_cases c5 : cut < 0
  · go_wp2
    go_ret
    exact ⟨rfl, HA.out⟩
  by_cases c6 : (ns : Int) < cut
  · go_wp2
    go_ret
    exact ⟨rfl, HA.out⟩
  obtain ⟨c, rfl⟩ : ∃ c : Nat, cut = (c : Int) := ⟨cut.toNat, by omega⟩
  clear c1 c2 c3 c4
  go_wp2_with fail
  refine (cloneStr_plain an 0 wa.heap.size nn cn N wa (by omega) H1.out.1.nil H1.out.1.plain (HA.out.row H1.out.1.row)).mono ?_
  rintro e w1 ⟨nao, rfl, hz1, hp1, hr1, hg1⟩
  have K1 : Hid (Gr w w1 ∧ (nao = none → nn = 0) ∧ (∀ a, nao = some a → a.spot = none) ∧ Row w1 0 w1.heap.size nao nn (fun i => .string (N i))) := ⟨HA.out.trans hg1, hz1, hp1, hr1.widen (Nat.zero_le _) (Nat.le_refl _)⟩
  clear hz1 hp1 hr1 hg1
  go_wp2_with fail
  refine (cloneU32_any al 0 w1.heap.size ns cl fl w1 (by omega) H2.out.1.nil H2.out.1.plain (K1.out.1.row H2.out.1.row)).mono ?_
  rintro e w2 ⟨la, rfl, hz2, hr2, hg2⟩
  have K2 : Hid (Gr w1 w2 ∧ Row w2 0 w2.heap.size la ns (fun i => .int .u32 (fl i))) := ⟨hg2, hr2.widen (Nat.zero_le _) (Nat.le_refl _)⟩
  clear hz2 hr2 hg2
  go_wp2_with fail
  refine (cloneU32_any ah 0 w2.heap.size ns ch fh w2 (by omega) H3.out.1.nil H3.out.1.plain ((K1.out.1.trans K2.out.1).row H3.out.1.row)).mono ?_
  rintro e w3 ⟨ha, rfl, hz2, hr2, hg2⟩
  have K3 : Hid (Gr w2 w3 ∧ Row w3 0 w3.heap.size ha ns (fun i => .int .u32 (fh i))) := ⟨hg2, hr2.widen (Nat.zero_le _) (Nat.le_refl _)⟩
  clear hz2 hr2 hg2
  go_wp2_with fail
  refine (cloneI32_any ar 0 w3.heap.size ns cs fs w3 (by omega) H4.out.1.nil H4.out.1.plain ((K1.out.1.trans (K2.out.1.trans K3.out.1)).row H4.out.1.row)).mono ?_
  rintro e w4 ⟨sa, rfl, hz2, hr2, hg2⟩
  have K4 : Hid (Gr w w4 ∧ (nao = none → nn = 0) ∧ (∀ a, nao = some a → a.spot = none) ∧ Row w4 0 w4.heap.size nao nn (fun i => .string (N i)) ∧ Row w4 0 w4.heap.size la ns (fun i => .int .u32 (fl i)) ∧ Row w4 0 w4.heap.size ha ns (fun i => .int .u32 (fh i)) ∧ Row w4 0 w4.heap.size sa ns (fun i => .int .i32 (fs i))) :=
    ⟨K1.out.1.trans (K2.out.1.trans (K3.out.1.trans hg2)), K1.out.2.1, K1.out.2.2.1, (K2.out.1.trans (K3.out.1.trans hg2)).row K1.out.2.2.2, (K3.out.1.trans hg2).row K2.out.2, Gr.row hg2 K3.out.2, hr2.widen (Nat.zero_le _) (Nat.le_refl _)⟩
  have HW : Hid (∀ i, i < ns → 0 ≤ fl i ∧ fl i ≤ fh i ∧ fh i ≤ 4294967295 ∧ 0 ≤ fs i ∧ fs i < nn) := fun i hi => ⟨(wf_u32 (H2.out.2 i hi)).1, (HP.out.span i hi).1, (wf_u32 (H3.out.2 i hi)).2, (HP.out.span i hi).2.1, (HP.out.span i hi).2.2⟩
  clear hz2 hr2 hg2 K1 K2 K3 H1 H2 H3 H4 HA HA2
  have mk := fun w => run_make_row' (P := Tryz.prog) 23 41 (.int .u32 0) 4 Tryz.underlying23 info41 rfl .i64 .i64 ns (by omega) (by omega) w
  have mk2 := fun w => run_make_row' (P := Tryz.prog) 24 21 (.int .i32 0) 4 Tryz.underlying24 info21r rfl .i64 .i64 ns (by omega) (by omega) w
  go_wp2
  clear mk mk2
  go_loopg [15, 16] ns (fun gk x15 x16 wr => ∃ k : Nat, k ≤ ns ∧ gk = ns - k ∧ x15 = .int .i64 k ∧ Hid (EntAt w4 ns (fun i => (fl (rot ns c i), fh (rot ns c i), fs (rot ns c i))) k wr))
  case atStart => exact ⟨0, Nat.zero_le _, rfl, rfl, EntAt.start w4 ns _⟩
  case round =>
    obtain ⟨k, hk, hgk, rfl, HX⟩ := hrel
    by_cases hlt : k < ns
    · obtain ⟨j, hj⟩ : ∃ j, j = rot ns c k := ⟨_, rfl⟩
      have hjl : j < ns := by rw [hj]; exact rot_lt (by omega) hlt
      obtain ⟨b1, o1, rfl, d1⟩ := K4.out.2.2.2.2.1.cell (i := j) hjl
      obtain ⟨b2, o2, rfl, d2⟩ := K4.out.2.2.2.2.2.1.cell (i := j) hjl
      obtain ⟨b3, o3, rfl, d3⟩ := K4.out.2.2.2.2.2.2.cell (i := j) hjl
      have l1 := lt_of_cell d1
      have l2 := lt_of_cell d2
      have l3 := lt_of_cell d3
      rw [← HX.out.bel.cell (p := ⟨b1, o1 + j, none⟩) l1] at d1
      rw [← HX.out.bel.cell (p := ⟨b2, o2 + j, none⟩) l2] at d2
      rw [← HX.out.bel.cell (p := ⟨b3, o3 + j, none⟩) l3] at d3
      have e0 := HX.out.lo.cell hlt
      have e1 := HX.out.hi.cell hlt
      have e2 := HX.out.src.cell hlt
      have f0 := HX.out.lo.frozen k
      have f1 := HX.out.hi.frozen k
      have f2 := HX.out.src.frozen k
      simp only [Nat.lt_irrefl, if_false] at e0 e1 e2
      have hlt' : (k : Int) < (ns : Int) := by omega
      have hjl' : (j : Int) < (ns : Int) := by omega
      have HJ : Hid (j = rot ns c k) := hj
      have fin : Hid (EntAt w4 ns (fun i => (fl (rot ns c i), fh (rot ns c i), fs (rot ns c i))) (k + 1) (((wr.setCell ⟨w4.heap.size, k, none⟩ (.int .u32 (fl j))).setCell ⟨w4.heap.size + 1, k, none⟩ (.int .u32 (fh j))).setCell ⟨w4.heap.size + 2, k, none⟩ (.int .i32 (fs j)))) := by
        rw [hj]; exact HX.out.step
      by_cases hw : ns ≤ c + k
      · have hw' : (ns : Int) ≤ (c : Int) + (k : Int) := by omega
        have hjj : (c : Int) + (k : Int) - (ns : Int) = (j : Int) := by
          have : j = c + k - ns := by rw [hj]; unfold rot; rw [if_pos hw]
          omega
        clear hj
        go_wp2
        go_roundg (ns - (k + 1))
        case measure => omega
        case rel => exact ⟨k + 1, by omega, rfl, by go_num, fin⟩
      · have hw' : ¬ (ns : Int) ≤ (c : Int) + (k : Int) := by omega
        have hjj : (c : Int) + (k : Int) = (j : Int) := by
          have : j = c + k := by rw [hj]; unfold rot; rw [if_neg hw]
          omega
        clear hj
        go_wp2
        go_roundg (ns - (k + 1))
        case measure => omega
        case rel => exact ⟨k + 1, by omega, rfl, by go_num, fin⟩
    · obtain rfl : ns = k := by omega
      obtain ⟨w5, rfl⟩ : ∃ w5, w5 = wr := ⟨wr, rfl⟩
      have K5 : Hid (Gr w4 w5 ∧ w5.rowIs w4.heap.size 41 ns (fun i => .int .u32 (fl (rot ns c i))) ∧ w5.rowIs (w4.heap.size + 1) 41 ns (fun i => .int .u32 (fh (rot ns c i))) ∧ w5.rowIs (w4.heap.size + 2) 21 ns (fun i => .int .i32 (fs (rot ns c i)))) :=
        ⟨HX.out.bel, HX.out.lo.congr fun j hj => by simp [hj], HX.out.hi.congr fun j hj => by simp [hj], HX.out.src.congr fun j hj => by simp [hj]⟩
      clear HX
      go_wp2_with fail
      refine (builder_any nao nn nn N la ha sa ns ns ns ns fl fh fs w5 (by omega) (by omega) HZ.out (K5.out.1.row K4.out.2.2.2.1) (K5.out.1.row K4.out.2.2.2.2.1) (K5.out.1.row K4.out.2.2.2.2.2.1) (K5.out.1.row K4.out.2.2.2.2.2.2)).mono ?_
      rintro e w6 ⟨bb1, mb1, sao1, rfl, hB1, hb1, hg1, hs1⟩
      have A1 := Hid.intro (barg_of (N := N) (by omega) (by omega) hB1 hb1 hg1 hs1 (K5.out.1.row K4.out.2.2.2.1) HW.out)
      have G1 : Hid (∀ w'', Kp (fun q => q = bb1 ∨ sao1 = some ⟨q, 0, none⟩) w6 w'' → Gr w5 w'') := fun w'' k => gr_build hb1 hg1 hs1 k
      clear hB1 hb1 hg1 hs1
      go_wp2_with fail
      refine (build_any bb1 nao nn nn N (.map (some mb1)) sao1 ns (fun i => (fl i, fh i, fs i)) w5.heap.size w6 A1.out).mono ?_
      rintro e w7 ⟨xb1, ps, rfl, hps, hx1, hz1, hk1⟩
      have K7 : Hid (Gr w5 w7 ∧ PsOf (spanL ns (fun i => (fl i, fh i, fs i))) ps ∧ Idx w7 w6.heap.size sao1 xb1 nao nn nn N (spanL ns (fun i => (fl i, fh i, fs i))) (tfold nn (spanL ns (fun i => (fl i, fh i, fs i))) [[]] ps) ∧ w7.rowIs bb1 70 4 (bG none 0 0 (.map none) none 0)) := ⟨G1.out w7 hk1, hps, hx1, hz1⟩
      clear hps hx1 hz1 hk1 G1
      go_wp2_with fail
      refine (cloneStr_plain nao 0 w7.heap.size nn nn N w7 (by omega) K4.out.2.1 K4.out.2.2.1 ((K5.out.1.trans K7.out.1).row K4.out.2.2.2.1)).mono ?_
      rintro e w8 ⟨nao2, rfl, -, -, hr8, hg8⟩
      have K8 : Hid (Gr w7 w8 ∧ Row w8 0 w8.heap.size nao2 nn (fun i => .string (N i))) := ⟨hg8, hr8.widen (Nat.zero_le _) (Nat.le_refl _)⟩
      clear hr8 hg8
      go_wp2_with fail
      have G58 : Hid (Gr w5 w8) := K7.out.1.trans K8.out.1
      refine (builder_any nao2 nn nn N (some ⟨w4.heap.size, 0, none⟩) (some ⟨w4.heap.size + 1, 0, none⟩) (some ⟨w4.heap.size + 2, 0, none⟩) ns ns ns ns _ _ _ w8 (by omega) (by omega) HZ.out K8.out.2 (Gr.row0 (G58.out.rowIs K5.out.2.1)) (Gr.row0 (G58.out.rowIs K5.out.2.2.1)) (Gr.row0 (G58.out.rowIs K5.out.2.2.2))).mono ?_
      rintro e w9 ⟨bb2, mb2, sao2, rfl, hB2, hb2, hg2, hs2⟩
      have A2 := Hid.intro (barg_of (N := N) (by omega) (by omega) hB2 hb2 hg2 hs2 K8.out.2 (fun i hi => HW.out (rot ns c i) (rot_lt (by omega) hi)))
      have G2 : Hid (∀ w'', Kp (fun q => q = bb2 ∨ sao2 = some ⟨q, 0, none⟩) w9 w'' → Gr w8 w'') := fun w'' k => gr_build hb2 hg2 hs2 k
      clear hB2 hb2 hg2 hs2
      go_wp2_with fail
      refine (build_any bb2 nao2 nn nn N (.map (some mb2)) sao2 ns _ w8.heap.size w9 A2.out).mono ?_
      rintro e w10 ⟨xb2, ps2, rfl, hps2, hx2, -, hk2⟩
      have hL : spanL ns (fun i => (fl (rot ns c i), fh (rot ns c i), fs (rot ns c i))) = spanL ns (fun i => (fl i, fh i, fs i)) := spanL_rot ns c (by omega) (fun i => (fl i, fh i, fs i))
      rw [hL] at hps2 hx2
      have hpp : ps2 = ps := psOf_uniq hps2 K7.out.2.1
      rw [hpp] at hx2
      obtain ⟨l, hl⟩ : ∃ l, l = spanL ns (fun i => (fl i, fh i, fs i)) := ⟨_, rfl⟩
      have BN : Hid (Bnd nn l ps) := by
        rw [hl]
        exact ⟨K7.out.2.1, fun x hx => (by
          obtain ⟨j, hj, rfl⟩ := ((spanL_spec _ _).2 x).1 hx
          exact HW.out j hj), Nat.le_trans (ddn_len_le _ ns) (by omega), by omega⟩
      obtain ⟨r1, ro1, sta1, stc1, ua1, uc1, s61, u61, ta1, tc1, sc1, rb1, r61, i1⟩ := K7.out.2.2.1
      obtain ⟨r2, ro2, sta2, stc2, ua2, uc2, s62, u62, ta2, tc2, sc2, rb2, r62, i2⟩ := hx2
      rw [← hl] at ro1 ro2 i1 i2
      obtain ⟨st, hst⟩ : ∃ st, st = tfold nn l [[]] ps := ⟨_, rfl⟩
      rw [← hst] at i1 i2
      have HL : Hid (l = spanL ns (fun i => (fl i, fh i, fs i)) ∧ st = tfold nn l [[]] ps) := ⟨hl, hst⟩
      have G7 : Hid (Gr w7 w10) := K8.out.1.trans (G2.out w10 hk2)
      have I1 : Hid (IdxW w10 w6.heap.size sao1 xb1 nao nn nn N l r1 st sta1 stc1 ua1 uc1 s61 u61 ta1 tc1 sc1 rb1 r61) := i1.gr G7.out
      have I2 : Hid (IdxW w10 w9.heap.size sao2 xb2 nao2 nn nn N l r2 st sta2 stc2 ua2 uc2 s62 u62 ta2 tc2 sc2 rb2 r62) := i2
      have RE : Hid (∀ k, k < l.length → r2 k = r1 k) := fun k hk => (RO.uniq ro2 ro1 (fun _ _ _ => rfl) k (Nat.zero_le _) hk)
      have G4 : Hid (Gr w4 w10) := K5.out.1.trans (K7.out.1.trans G7.out)
      have RW : Hid (Row w10 0 w10.heap.size nao nn (fun i => .string (N i)) ∧ Row w10 0 w10.heap.size nao2 nn (fun i => .string (N i)) ∧ Row w10 0 w10.heap.size la ns (fun i => .int .u32 (fl i)) ∧ Row w10 0 w10.heap.size ha ns (fun i => .int .u32 (fh i)) ∧ Row w10 0 w10.heap.size sa ns (fun i => .int .i32 (fs i))) :=
        ⟨G4.out.row K4.out.2.2.2.1, Gr.row (G2.out w10 hk2) K8.out.2, G4.out.row K4.out.2.2.2.2.1, G4.out.row K4.out.2.2.2.2.2.1, G4.out.row K4.out.2.2.2.2.2.2⟩
      have ZB : Hid (w10.rowIs bb1 70 4 (bG none 0 0 (.map none) none 0) ∧ w.heap.size ≤ bb1 ∧ Gr w w10) := ⟨G7.out.rowIs K7.out.2.2.2, by have := A1.out.lob; have := K5.out.1.size; have := K4.out.1.size; omega, K4.out.1.trans G4.out⟩
      have LN : Hid (st.1.length ≤ 1000000 ∧ st.2.1.length ≤ 1000000 ∧ st.2.2.length ≤ 1000000 ∧ (∀ zs ∈ st.2.2, zs.length ≤ 1000000) ∧ l.length ≤ 1000000) := by
        rw [hst]; exact ⟨BN.out.len1, BN.out.len2, BN.out.len3, BN.out.sets, by have := BN.out.hl; omega⟩
      clear hst hl hpp i1 i2 ro1 ro2 hps2 hk2 hL K7 K8 K5 K4 A1 A2 G2 G58 G4 G7
      go_wp2_with fail
      refine (table13 xb1 st.1.length stc1 st.2.1.length uc1 sta1 ua1 (fun i => st.1[i]!) w10.heap.size w10 LN.out.1 (I1.out.x.cell (i := 0) (by omega)) (I1.out.x.cell (i := 1) (by omega)) (I1.out.x.cell (i := 2) (by omega)) I1.out.starts.rowInt).mono ?_
      rintro e v1 ⟨rfl, t1, g1⟩
      have V1 : Hid (Gr w10 v1 ∧ v1.rowIs w10.heap.size 41 st.1.length (fun i => .int .u32 st.1[i]!)) := ⟨g1, t1⟩
      clear t1 g1
      go_wp2_with fail
      refine (table13 xb2 st.1.length stc2 st.2.1.length uc2 sta2 ua2 (fun i => st.1[i]!) v1.heap.size v1 LN.out.1 ((I2.out.gr V1.out.1).x.cell (i := 0) (by omega)) ((I2.out.gr V1.out.1).x.cell (i := 1) (by omega)) ((I2.out.gr V1.out.1).x.cell (i := 2) (by omega)) (I2.out.gr V1.out.1).starts.rowInt).mono ?_
      rintro e v2 ⟨rfl, t2, g2⟩
      have V2 : Hid (Gr w10 v2 ∧ v2.rowIs w10.heap.size 41 st.1.length (fun i => .int .u32 st.1[i]!) ∧ v2.rowIs v1.heap.size 41 st.1.length (fun i => .int .u32 st.1[i]!)) := ⟨V1.out.1.trans g2, Gr.rowIs g2 V1.out.2, t2⟩
      clear t2 g2
      go_wp2_with fail
      refine (sameU32_true _ _ v2.heap.size v2.heap.size st.1.length _ _ (fun i => st.1[i]!) v2 LN.out.1 (Gr.row0 V2.out.2.1) (Gr.row0 V2.out.2.2)).mono ?_
      rintro e v3 ⟨rfl, a3⟩
      have V3 : Hid (Gr w10 v3 ∧ v3.rowIs w10.heap.size 41 st.1.length (fun i => .int .u32 st.1[i]!)) := ⟨V2.out.1.trans (Gr.of_alk a3), Gr.rowIs (Gr.of_alk a3) V2.out.2.1⟩
      clear a3 V2 V1
      go_wp2_with fail
      refine (sameU32_true ua1 ua2 v3.heap.size v3.heap.size st.2.1.length _ _ (fun i => st.2.1[i]!) v3 LN.out.2.1 (I1.out.gr V3.out.1).nums.rowInt (I2.out.gr V3.out.1).nums.rowInt).mono ?_
      rintro e v4 ⟨rfl, a4⟩
      have V4 : Hid (Gr w10 v4 ∧ v4.rowIs w10.heap.size 41 st.1.length (fun i => .int .u32 st.1[i]!)) := ⟨V3.out.1.trans (Gr.of_alk a4), Gr.rowIs (Gr.of_alk a4) V3.out.2⟩
      clear a4 V3
      go_wp2_with fail
      refine (sets14 xb1 _ v4 ((I1.out.gr V4.out.1).x.cell (i := 6) (by omega))).mono ?_
      rintro e v ⟨rfl, hv⟩
      subst v
      go_wp2_with fail
      refine (sets14 xb2 _ v4 ((I2.out.gr V4.out.1).x.cell (i := 6) (by omega))).mono ?_
      rintro e v ⟨rfl, hv⟩
      subst v
      go_wp2_with fail
      refine (sameSets_true ta1 ta2 v4.heap.size v4.heap.size st.2.2.length tc1 tc2 (fun i => sc1[i]!) (fun i => sc2[i]!) v4 LN.out.2.2.1 (I1.out.gr V4.out.1).sets.rowOf (I2.out.gr V4.out.1).sets.rowOf (idx_twin (I1.out.gr V4.out.1) (I2.out.gr V4.out.1) LN.out.2.2.2.1)).mono ?_
      rintro e v5 ⟨rfl, a5⟩
      have V5 : Hid (Gr w10 v5 ∧ v5.rowIs w10.heap.size 41 st.1.length (fun i => .int .u32 st.1[i]!)) := ⟨V4.out.1.trans (Gr.of_alk a5), Gr.rowIs (Gr.of_alk a5) V4.out.2⟩
      clear a5 V4
      go_wp2_with fail
      refine (entries15 xb1 l.length l.length l.length l.length sao1 (some ⟨rb1, 0, none⟩) (fun i => l[i]!) r1 v5.heap.size v5 LN.out.2.2.2.2 LN.out.2.2.2.2 ((I1.out.gr V5.out.1).x.cell (i := 7) (by omega)) ((I1.out.gr V5.out.1).x.cell (i := 8) (by omega)) (I1.out.gr V5.out.1).s3 (Gr.row0 (I1.out.gr V5.out.1).reach)).mono ?_
      rintro e v6 ⟨rfl, y0, y1, y2, y3, g6⟩
      have V6 : Hid (Gr w10 v6 ∧ v6.rowIs w10.heap.size 41 st.1.length (fun i => .int .u32 st.1[i]!)) := ⟨V5.out.1.trans g6, Gr.rowIs g6 V5.out.2⟩
      have Y6 : Hid (v6.rowIs v5.heap.size 41 l.length (fun i => .int .u32 (l[i]!).1) ∧ v6.rowIs (v5.heap.size + 1) 41 l.length (fun i => .int .u32 (l[i]!).2.1) ∧ v6.rowIs (v5.heap.size + 2) 21 l.length (fun i => .int .i32 (l[i]!).2.2) ∧ v6.rowIs (v5.heap.size + 3) 41 l.length (fun i => .int .u32 (r1 i))) := ⟨y0, y1, y2, y3⟩
      clear y0 y1 y2 y3 g6 V5
      go_wp2_with fail
      refine (entries15 xb2 l.length l.length l.length l.length sao2 (some ⟨rb2, 0, none⟩) (fun i => l[i]!) r1 v6.heap.size v6 LN.out.2.2.2.2 LN.out.2.2.2.2 ((I2.out.gr V6.out.1).x.cell (i := 7) (by omega)) ((I2.out.gr V6.out.1).x.cell (i := 8) (by omega)) (I2.out.gr V6.out.1).s3 (Gr.row0 ((I2.out.gr V6.out.1).reach.congr fun k hk => by rw [RE.out k hk]))).mono ?_
      rintro e v7 ⟨rfl, y0, y1, y2, y3, g7⟩
      have V7 : Hid (Gr w10 v7 ∧ v7.rowIs w10.heap.size 41 st.1.length (fun i => .int .u32 st.1[i]!)) := ⟨V6.out.1.trans g7, Gr.rowIs g7 V6.out.2⟩
      have Y7 : Hid ((v7.rowIs v5.heap.size 41 l.length (fun i => .int .u32 (l[i]!).1) ∧ v7.rowIs (v5.heap.size + 1) 41 l.length (fun i => .int .u32 (l[i]!).2.1) ∧ v7.rowIs (v5.heap.size + 2) 21 l.length (fun i => .int .i32 (l[i]!).2.2) ∧ v7.rowIs (v5.heap.size + 3) 41 l.length (fun i => .int .u32 (r1 i))) ∧
          (v7.rowIs v6.heap.size 41 l.length (fun i => .int .u32 (l[i]!).1) ∧ v7.rowIs (v6.heap.size + 1) 41 l.length (fun i => .int .u32 (l[i]!).2.1) ∧ v7.rowIs (v6.heap.size + 2) 21 l.length (fun i => .int .i32 (l[i]!).2.2) ∧ v7.rowIs (v6.heap.size + 3) 41 l.length (fun i => .int .u32 (r1 i)))) :=
        ⟨⟨Gr.rowIs g7 Y6.out.1, Gr.rowIs g7 Y6.out.2.1, Gr.rowIs g7 Y6.out.2.2.1, Gr.rowIs g7 Y6.out.2.2.2⟩, y0, y1, y2, y3⟩
      clear y0 y1 y2 y3 g7 V6 Y6
      go_wp2_with fail
      refine (sameU32_true _ _ v7.heap.size v7.heap.size l.length _ _ (fun i => (l[i]!).1) v7 LN.out.2.2.2.2 (Gr.row0 Y7.out.1.1) (Gr.row0 Y7.out.2.1)).mono ?_
      rintro e v8 ⟨rfl, a8⟩
      have A8 : Hid (Gr v7 v8) := Gr.of_alk a8
      clear a8
      go_wp2_with fail
      refine (sameU32_true _ _ v8.heap.size v8.heap.size l.length _ _ (fun i => (l[i]!).2.1) v8 LN.out.2.2.2.2 (Gr.row0 (A8.out.rowIs Y7.out.1.2.1)) (Gr.row0 (A8.out.rowIs Y7.out.2.2.1))).mono ?_
      rintro e v9 ⟨rfl, a9⟩
      have A9 : Hid (Gr v7 v9) := A8.out.trans (Gr.of_alk a9)
      clear a9 A8
      go_wp2_with fail
      refine (sameI32_any _ _ v9.heap.size v9.heap.size l.length l.length _ _ (fun i => (l[i]!).2.2) (fun i => (l[i]!).2.2) v9 LN.out.2.2.2.2 LN.out.2.2.2.2 (Gr.row0 (A9.out.rowIs Y7.out.1.2.2.1)) (Gr.row0 (A9.out.rowIs Y7.out.2.2.2.1))).mono ?_
      rintro e v10 ⟨⟨b, rfl, hb⟩, a10⟩
      obtain rfl : b = true := hb.2 ⟨rfl, fun _ _ => rfl⟩
      have A10 : Hid (Gr v7 v10) := A9.out.trans (Gr.of_alk a10)
      clear a10 A9 hb
      go_wp2_with fail
      refine (sameU32_true _ _ v10.heap.size v10.heap.size l.length _ _ r1 v10 LN.out.2.2.2.2 (Gr.row0 (A10.out.rowIs Y7.out.1.2.2.2)) (Gr.row0 (A10.out.rowIs Y7.out.2.2.2.2))).mono ?_
      rintro e v11 ⟨rfl, a11⟩
      have V11 : Hid (Gr w10 v11 ∧ v11.rowIs w10.heap.size 41 st.1.length (fun i => .int .u32 st.1[i]!)) := ⟨V7.out.1.trans (A10.out.trans (Gr.of_alk a11)), Gr.rowIs (A10.out.trans (Gr.of_alk a11)) V7.out.2⟩
      clear a11 A10 V7 Y7
      go_wp2_with fail
      refine (names16 xb1 _ v11 ((I1.out.gr V11.out.1).x.cell (i := 11) (by omega))).mono ?_
      rintro e v ⟨rfl, hv⟩
      subst v
      go_wp2_with fail
      refine (names16 xb2 _ v11 ((I2.out.gr V11.out.1).x.cell (i := 11) (by omega))).mono ?_
      rintro e v ⟨rfl, hv⟩
      subst v
      go_wp2_with fail
      refine (sameStr_true nao nao2 v11.heap.size v11.heap.size nn nn nn N v11 (by omega) (V11.out.1.row RW.out.1) (V11.out.1.row RW.out.2.1)).mono ?_
      rintro e v12 ⟨rfl, a12⟩
      have V12 : Hid (Gr w10 v12 ∧ v12.rowIs w10.heap.size 41 st.1.length (fun i => .int .u32 st.1[i]!)) := ⟨V11.out.1.trans (Gr.of_alk a12), Gr.rowIs (Gr.of_alk a12) V11.out.2⟩
      clear a12 V11
      have C29 : Calls Tryz.prog 29 #[.slice la ns ns, .slice ha ns ns, .slice sa ns ns] v12 fun e w' => e = .returned (.int .i64 (l.length : Nat)) ∧ Alk w' v12 :=
        (count_any la ha sa v12.heap.size ns ns ns ns fl fh fs v12 (by omega) (V12.out.1.row RW.out.2.2.1) (V12.out.1.row RW.out.2.2.2.1) (V12.out.1.row RW.out.2.2.2.2)).mono (fun e w' h => by
          obtain ⟨⟨L, h1, h2⟩, h3⟩ := h
          exact ⟨by rw [h1, spanL_dist h2, HL.out.1], h3⟩)
      go_wp2_with fail
      refine C29.mono ?_
      rintro e v13 ⟨rfl, a13⟩
      have V13 : Hid (Gr w10 v13 ∧ v13.rowIs w10.heap.size 41 st.1.length (fun i => .int .u32 st.1[i]!)) := ⟨V12.out.1.trans (Gr.of_alk a13), Gr.rowIs (Gr.of_alk a13) V12.out.2⟩
      clear a13 V12 C29
      have C30 : Hid (∀ wr, Gr v13 wr → ∀ k, k < ns → ∀ a, fl k ≤ a → a ≤ fh k → ∀ sN : Nat, (sN : Int) = fs k → Calls Tryz.prog 30 #[.slice (some ⟨w10.heap.size, 0, none⟩) st.1.length st.1.length, .slice ua1 st.2.1.length uc1, .slice ta1 st.2.2.length tc1, .int .u32 a, .string (N sN)] wr fun e w' => e = .returned (.bool true) ∧ Alk w' wr) := fun wr hg k hk a ha1 ha2 sN hsN => by
        have g2 : Gr w10 wr := V13.out.1.trans hg
        have i1 := I1.out.gr g2
        have hrow := Gr.row0 (hg.rowIs V13.out.2)
        have hlm : (fl k, fh k, fs k) ∈ l := by rw [HL.out.1]; exact ((spanL_spec _ _).2 _).2 ⟨k, hk, rfl⟩
        rw [HL.out.2] at i1 hrow ⊢
        have := holds_call i1 BN.out (some ⟨w10.heap.size, 0, none⟩) (tfold nn l [[]] ps).1.length hrow hlm (a := a) ha1 ha2
        rw [show (fl k, fh k, fs k).2.2.toNat = sN from by show (fs k).toNat = sN; omega] at this
        exact this
      go_wp2
      go_loopg [37, 38] ns (fun gk x37 x38 wr => ∃ k : Nat, k ≤ ns ∧ gk = ns - k ∧ x37 = .int .i64 k ∧ Hid (Gr v13 wr))
      case atStart => exact ⟨0, Nat.zero_le _, rfl, rfl, Gr.refl _⟩
      case round =>
        obtain ⟨k, hk, hgk2, rfl, HX⟩ := hrel
        by_cases hlt2 : k < ns
        · have hlt2' : (k : Int) < (ns : Int) := by omega
          have g2 : Hid (Gr w10 wr) := V13.out.1.trans HX.out
          have hw := HW.out k hlt2
          obtain ⟨sN, hsN⟩ : ∃ sN : Nat, (sN : Int) = fs k := ⟨(fs k).toNat, by omega⟩
          have hsn : sN < nn := by omega
          have hsn' : (sN : Int) < (nn : Int) := by omega
          obtain ⟨b1, o1, rfl, d1⟩ := (g2.out.row RW.out.2.2.1).cell (i := k) hlt2
          obtain ⟨b2, o2, rfl, d2⟩ := (g2.out.row RW.out.2.2.2.1).cell (i := k) hlt2
          obtain ⟨b3, o3, rfl, d3⟩ := (g2.out.row RW.out.2.2.2.2).cell (i := k) hlt2
          obtain ⟨b4, o4, rfl, d4⟩ := (g2.out.row RW.out.1).cell (i := sN) hsn
          rw [← hsN] at d3
          have c1 := C30.out wr HX.out k hlt2 (fl k) (by omega) (by omega) sN hsN
          have c2 : Hid (∀ wy, Alk wy wr → Calls Tryz.prog 30 #[.slice (some ⟨w10.heap.size, 0, none⟩) st.1.length st.1.length, .slice ua1 st.2.1.length uc1, .slice ta1 st.2.2.length tc1, .int .u32 (fh k), .string (N sN)] wy fun e w' => e = .returned (.bool true) ∧ Alk w' wy) := fun wy hy => C30.out wy (HX.out.trans (Gr.of_alk hy)) k hlt2 (fh k) (by omega) (by omega) sN hsN
          have HSN := Hid.intro hsN
          clear hsN hw
          go_wp2_with fail
          refine c1.mono ?_
          rintro e wy ⟨rfl, ay⟩
          clear c1
          have d2' : wy.cell? ⟨b2, o2 + k, none⟩ = some (.int .u32 (fh k)) := by rw [ay.cell]; exact d2
          have AY := Hid.intro ay
          clear d1 d2 d3 d4 ay
          go_wp2_with fail
          refine (c2.out wy AY.out).mono ?_
          rintro e wz ⟨rfl, az⟩
          have AZ := Hid.intro az
          clear c2 d2' az
          go_wp2
          go_roundg (ns - (k + 1))
          case measure => omega
          case rel => exact ⟨k + 1, by omega, rfl, by go_num, HX.out.trans ((Gr.of_alk AY.out).trans (Gr.of_alk AZ.out))⟩
        · obtain rfl : ns = k := by omega
          obtain ⟨v14, rfl⟩ : ∃ v14, v14 = wr := ⟨wr, rfl⟩
          have g2 : Hid (Gr w10 v14) := V13.out.1.trans HX.out
          clear HX V13 C30 I1 I2 RE RW
          go_wp2_with fail
          refine (build_any bb1 none 0 0 N (.map none) none 0 (fun _ => (0, 0, 0)) 0 v14 ⟨by omega, by omega, g2.out.rowIs ZB.out.1, fun i hi => (by omega), Nat.zero_le _, .inl ⟨rfl, rfl⟩, fun i hi => (by omega)⟩).mono ?_
          rintro e v15 ⟨xb3, ps3, rfl, hps3, hx3, -, hk3⟩
          obtain rfl : ps3 = [] := List.eq_nil_iff_forall_not_mem.2 fun q hq => by
            obtain ⟨e, he, _⟩ := (hps3.2 q).1 hq
            cases he
          obtain ⟨r3, -, sta3, stc3, ua3, uc3, s63, u63, ta3, tc3, sc3, rb3, r63, i3⟩ := hx3
          have K15 : Hid (Gr w v15) := (ZB.out.2.2.trans g2.out).kp hk3 fun q hq => by
            rcases hq with rfl | e
            · exact ZB.out.2.1
            · cases e
          have I3 : Hid (IdxW v15 v14.heap.size none xb3 none 0 0 N [] r3 ([0], [0], [[]]) sta3 stc3 ua3 uc3 s63 u63 ta3 tc3 sc3 rb3 r63) := i3
          clear i3 hps3 hk3 g2
          go_wp2_with fail
          refine (table13 xb3 1 stc3 1 uc3 sta3 ua3 (fun i => ([0] : List Int)[i]!) v15.heap.size v15 (by omega) (I3.out.x.cell (i := 0) (by omega)) (I3.out.x.cell (i := 1) (by omega)) (I3.out.x.cell (i := 2) (by omega)) I3.out.starts.rowInt).mono ?_
          rintro e v16 ⟨rfl, t1, g1⟩
          have V16 : Hid (Gr v15 v16 ∧ v16.rowIs v15.heap.size 41 1 (fun i => .int .u32 ([0] : List Int)[i]!)) := ⟨g1, t1⟩
          clear t1 g1
          go_wp2_with fail
          refine (sets14 xb3 (.slice ta3 1 tc3) v16 ((I3.out.gr V16.out.1).x.cell (i := 6) (by omega))).mono ?_
          rintro e v ⟨rfl, hv⟩
          subst v
          go_wp2_with fail
          refine (entries15 xb3 0 0 0 0 none (some ⟨rb3, 0, none⟩) (fun i => ([] : List T3)[i]!) r3 v16.heap.size v16 (by omega) (by omega) ((I3.out.gr V16.out.1).x.cell (i := 7) (by omega)) ((I3.out.gr V16.out.1).x.cell (i := 8) (by omega)) (fun i hi => (by omega)) (Gr.row0 (I3.out.gr V16.out.1).reach)).mono ?_
          rintro e v17 ⟨rfl, -, -, -, -, g17⟩
          have V17 : Hid (Gr v15 v17) := V16.out.1.trans g17
          have T17 : Hid (v17.cell? ⟨v15.heap.size, 0, none⟩ = some (.int .u32 0)) := (Gr.rowIs g17 V16.out.2).cell (i := 0) (by omega)
          clear g17 V16
          go_wp2_with fail
          refine (names16 xb3 (.slice none 0 0) v17 ((I3.out.gr V17.out).x.cell (i := 11) (by omega))).mono ?_
          rintro e v ⟨rfl, hv⟩
          subst v
          have i3 := I3.out.gr V17.out
          obtain ⟨gu, vu, rfl, -, eu, cu, -⟩ := i3.nums.cell (j := 0) (by decide)
          obtain ⟨gt, vt, rfl, -, et, ct, -⟩ := i3.sets.cell (j := 0) (by decide)
          obtain rfl : vu = .int .u32 0 := (Option.some.inj eu).symm
          obtain rfl : vt = .slice none 0 0 := (Option.some.inj (et.symm.trans i3.rows.1))
          have t17 := T17.out
          clear i3 I3 eu et T17
          have q0 : ∀ w : World, Sem.run Tryz.prog (binOp .eql 22 (.slice none 0 0) (.slice none 0 0)) w = .ok (.bool true) w := fun w => rfl
          go_wp2
          go_ret
          exact ⟨rfl, K15.out.trans V17.out⟩
end Go.Proofs.Qxb6618911aGreat
