/-
  FnKeepCertHeightIsOrderFree, walked.
-/
import Derived.Test.Qxb6618555aFirst
namespace Go.Proofs.Qxb6618555a
open Go.RowKit

set_option maxRecDepth 100000 in
set_option maxHeartbeats 2000000 in
theorem height_any (z : Int) (ao : Option Addr) (n cap : Nat) (R Q : Nat → Int) (w : World) (hs : Steps w ao n R Q) :
    Calls Try.prog 4 #[.int .i64 z, .slice ao n cap] w fun e w' => e = .returned (.bool true) ∧ Below w.heap.size w w' := by
  have HS : Hid (Steps w ao n R Q) := hs
  have hn := hs.1
  have hn' := hn
  unfold maxLen at hn'
  clear hs
  go_enter Try.func4, Try.ntmps4
  go_wp2_with fail
  refine (bytes14_any z ao n cap w hn).mono ?_
  rintro e w' ⟨⟨b, rfl, -⟩, hw⟩
  subst w'
  rcases b with _ | _
  · go_wp2
    go_ret
    exact ⟨rfl, Below.refl _ _⟩
  by_cases c1 : 65536 < n
  · go_wp2_with fail
    go_ret
    exact ⟨rfl, Below.refl _ _⟩
  go_wp2_with fail
  refine (domain_any z ao n cap R Q _ HS.out).mono ?_
  rintro e w' ⟨⟨b, rfl, hd⟩, hw⟩
  subst w'
  rcases b with _ | _
  · clear hd
    go_wp2
    go_ret
    exact ⟨rfl, Below.refl _ _⟩
  have hd := hd rfl
  have HD : Hid (Dom z R Q n) := hd
  obtain ⟨M, hM⟩ : ∃ M : Nat, mx z R n = M := ⟨(mx z R n).toNat, by have := (mx_ge z R n).1; have := hd.1; omega⟩
  have hM6 : M ≤ 65536 := by have := mx_le z R 65536 hd.2.1 n (fun k hk => (hd.2.2 k hk).2.1); omega
  have HM : Hid (mx z R n = M) := hM
  clear hd hM
  go_wp2_with fail
  refine (build_any z ao n cap R Q w HS.out HD.out (by omega) M HM.out hM6).mono ?_
  rintro e w1 ⟨nb, hq, C, S, Bk, cert, rfl, hbt, hbel⟩
  have HR : Hid (Run (In w1 w.heap.size w1.heap.size) nb hq C S Bk (M + 1) n z R Q cert) := Run.of_built hbt
  have HF : Hid (w1.frozen? ⟨nb, 10, none⟩ = false) := hbt.fz
  have hnb := hbt.hi.1
  have hnb1 := hbt.hi.lt
  have HB : Hid (Below w.heap.size w w1) := hbel
  have HS1 : Hid (Steps w1 ao n R Q) := steps_below HS.out hbel
  have hs1 := hbel.size
  clear hbt hbel
  go_wp2_with fail
  refine (build_any z ao n cap R Q w1 HS1.out HD.out (by omega) M HM.out hM6).mono ?_
  rintro e w2 ⟨nb2, hq2, C2, S2, Bk2, cert2, rfl, hbt2, hbel2⟩
  have HR2 : Hid (Run (In w2 w1.heap.size w2.heap.size) nb2 hq2 C2 S2 Bk2 (M + 1) n z R Q cert2) := Run.of_built hbt2
  have HF2 : Hid (w2.frozen? ⟨nb2, 10, none⟩ = false) := hbt2.fz
  have hnb2 := hbt2.hi.1
  have HB2 : Hid (Below w.heap.size w w2) := HB.out.trans (hbel2.mono hs1)
  have HR1 : Hid (Run (In w2 w.heap.size w1.heap.size) nb hq C S Bk (M + 1) n z R Q cert) := HR.out.map fun b o v hI => hI.of_block (hbel2.block b hI.2.1)
  have HF1 : Hid (w2.frozen? ⟨nb, 10, none⟩ = false) := (hbel2.frozen (p := ⟨nb, 10, none⟩) hnb1).trans HF.out
  obtain ⟨hi1, hhi1⟩ : ∃ hi, w1.heap.size = hi := ⟨_, rfl⟩
  obtain ⟨hi2, hhi2⟩ : ∃ hi, w2.heap.size = hi := ⟨_, rfl⟩
  rw [hhi1] at HR1 HR2 hnb1 hnb2
  rw [hhi2] at HR2
  clear hbt2 hbel2 hhi1 hhi2 HR HF HB HS1 hs1
  go_wp2_with fail
  go_loopg [13] n (fun gk i wr => ∃ k : Nat, k ≤ n ∧ gk = n - k ∧ i = .int .i64 k ∧ Run (In wr w.heap.size hi1) nb (curOf z R hq cert k) C S Bk (M + 1) n (mx z R k) R Q cert ∧ wr.frozen? ⟨nb, 10, none⟩ = false ∧ But nb w2 wr)
  case atStart => exact ⟨0, Nat.zero_le _, rfl, rfl, HR1.out, HF1.out, But.refl _ _⟩
  case round =>
    clear HR1 HF1
    obtain ⟨k, hk, hgk, rfl, hR, hF, hB⟩ := hrel
    by_cases hlt : k < n
    · have hbk : wr.cell? ⟨Bk, k, none⟩ = some (.pointer (some ⟨cert k, 0, none⟩)) := (hR.bk k hlt).2.2
      obtain ⟨d0, d1, d2⟩ := HD.out.2.2 k hlt
      have hmz := (mx_ge z R k).1
      have hz0 := HD.out.1
      have HK : Hid (Calls Try.prog 8 #[.pointer (some ⟨nb, 0, none⟩), .pointer (some ⟨cert k, 0, none⟩)] wr fun e w' => e = .returned (.tuple #[]) ∧ Alk w' (kept wr nb (cert k) (mx z R k) (R k))) :=
        keep_run hR hF (by omega) hlt d0 d1 (fun c => (d2 c).1)
      have HRR : Hid (Run (In wr w.heap.size hi1) nb (curOf z R hq cert k) C S Bk (M + 1) n (mx z R k) R Q cert ∧ wr.frozen? ⟨nb, 10, none⟩ = false ∧ But nb w2 wr) := ⟨hR, hF, hB⟩
      have hlt' : (k : Int) < (n : Int) := by omega
      clear hR hF hB d0 d1 d2 hmz hz0
      go_wp2_with fail
      refine HK.out.mono ?_
      rintro e w4 ⟨rfl, ha⟩
      have HA : Hid (Alk w4 (kept wr nb (cert k) (mx z R k) (R k))) := ha
      clear ha HK hbk
      go_wp2
      go_roundg (n - (k + 1))
      case measure => omega
      case rel =>
        obtain ⟨hR, hF, hB⟩ := HRR.out
        obtain ⟨r1, r2⟩ := hR.kept hF hlt HA.out
        exact ⟨k + 1, by omega, rfl, by go_num, r1, r2, hB.trans (But.of_kept HA.out)⟩
    · obtain rfl : n = k := by omega
      obtain ⟨w3, rfl⟩ : ∃ w3, w3 = wr := ⟨_, rfl⟩
      have HR2' : Hid (Run (In w3 hi1 hi2) nb2 hq2 C2 S2 Bk2 (M + 1) n z R Q cert2) := HR2.out.but hB (by omega)
      have HF2' : Hid (w3.frozen? ⟨nb2, 10, none⟩ = false) := (World.frozen?_of_block (w := w2) (a := ⟨nb2, 10, none⟩) (hB.block nb2 (by omega))).trans HF2.out
      have HR1 : Hid (Run (In w3 w.heap.size hi1) nb (curOf z R hq cert n) C S Bk (M + 1) n M R Q cert) := by rw [← HM.out]; exact hR
      have HB3 : Hid (Below w.heap.size w w3) := HB2.out.trans (hB.below hnb)
      clear hR hF hB hgk HR2 HF2 HB2
      go_wp2_with fail
      go_loopg [14] n (fun gk i wr => ∃ k : Nat, k ≤ n ∧ gk = k ∧ i = .int .i64 ((k : Int) - 1) ∧ ∃ cur2 cr, Run (In wr hi1 hi2) nb2 cur2 C2 S2 Bk2 (M + 1) n cr R Q cert2 ∧ wr.frozen? ⟨nb2, 10, none⟩ = false ∧ But nb2 w3 wr ∧
        z ≤ cr ∧ cr ≤ M ∧ ∀ j, k ≤ j → j < n → R j ≤ cr)
      case atStart => exact ⟨n, Nat.le_refl _, rfl, rfl, hq2, z, HR2'.out, HF2'.out, But.refl _ _, Int.le_refl _, by have := (mx_ge z R n).1; rw [HM.out] at this; exact this, fun j h1 h2 => by omega⟩
      case round =>
        clear HR2' HF2'
        obtain ⟨k, hk, hgk, rfl, cur2, cr, hR, hF, hB, z1, z2, z3⟩ := hrel
        by_cases hpos : 0 < k
        · obtain ⟨j, rfl⟩ : ∃ j, k = j + 1 := ⟨k - 1, by omega⟩
          have hlt : j < n := by omega
          have hbk : wr.cell? ⟨Bk2, j, none⟩ = some (.pointer (some ⟨cert2 j, 0, none⟩)) := (hR.bk j hlt).2.2
          obtain ⟨d0, d1, d2⟩ := HD.out.2.2 j hlt
          have hz0 := HD.out.1
          have hge := (mx_ge z R n).2 j hlt
          rw [HM.out] at hge
          have HK : Hid (Calls Try.prog 8 #[.pointer (some ⟨nb2, 0, none⟩), .pointer (some ⟨cert2 j, 0, none⟩)] wr fun e w' => e = .returned (.tuple #[]) ∧ Alk w' (kept wr nb2 (cert2 j) cr (R j))) :=
            keep_run hR hF (by omega) hlt d0 d1 (fun c => (d2 c).1)
          have HRR : Hid (Run (In wr hi1 hi2) nb2 cur2 C2 S2 Bk2 (M + 1) n cr R Q cert2 ∧ wr.frozen? ⟨nb2, 10, none⟩ = false ∧ But nb2 w3 wr ∧ R j ≤ M ∧ ∀ i, j + 1 ≤ i → i < n → R i ≤ cr) := ⟨hR, hF, hB, hge, z3⟩
          have hj1 : ((j + 1 : Nat) : Int) - 1 = (j : Int) := by omega
          rw [hj1]
          have hlt' : (j : Int) < (n : Int) := by omega
          clear hR hF hB d0 d1 d2 hz0 hge z3 hj1
          go_wp2_with fail
          refine HK.out.mono ?_
          rintro e w4 ⟨rfl, ha⟩
          have HA : Hid (Alk w4 (kept wr nb2 (cert2 j) cr (R j))) := ha
          clear ha HK hbk
          go_wp2
          go_roundg j
          case measure => omega
          case rel =>
            obtain ⟨hR, hF, hB, g1, g2⟩ := HRR.out
            obtain ⟨r1, r2⟩ := hR.kept hF hlt HA.out
            refine ⟨j, by omega, rfl, rfl, _, _, r1, r2, hB.trans (But.of_kept HA.out), by split <;> omega, by split <;> omega, fun i i1 i2 => ?_⟩
            by_cases e : i = j
            · subst e; split <;> omega
            · have := g2 i (by omega) i2
              split <;> omega
        · obtain rfl : k = 0 := by omega
          obtain ⟨w4, rfl⟩ : ∃ w4, w4 = wr := ⟨_, rfl⟩
          have hcr : cr = M := by
            have := mx_le z R cr z1 n (fun j hj => z3 j (by omega) hj)
            rw [HM.out] at this
            omega
          subst hcr
          have hR1 := HR1.out.but hB (by omega)
          have HB4 : Hid (Below w.heap.size w w4) := HB3.out.trans (hB.below (by omega))
          have hst := steps_below HS.out HB4.out
          have hc1 : w4.cell? ⟨nb, 10, none⟩ = some (.pointer (some ⟨curOf z R hq cert n, 0, none⟩)) := hR1.hi.2.2
          have hc2 : w4.cell? ⟨nb2, 10, none⟩ = some (.pointer (some ⟨cur2, 0, none⟩)) := hR.hi.2.2
          have HX1 : Hid (w4.cell? ⟨nb, 16, none⟩ = some (.slice (some ⟨C, 0, none⟩) (M + 1) (M + 1)) ∧ w4.cell? ⟨curOf z R hq cert n, 1, none⟩ = some (.int .i64 M) ∧ SameC w4 C S (M + 1)) := ⟨hR1.cm.2.2, hR1.hr.2.2, hR1.same⟩
          have HX2 : Hid (w4.cell? ⟨nb2, 16, none⟩ = some (.slice (some ⟨C2, 0, none⟩) (M + 1) (M + 1)) ∧ w4.cell? ⟨cur2, 1, none⟩ = some (.int .i64 M) ∧ SameC w4 C2 S2 (M + 1)) := ⟨hR.cm.2.2, hR.hr.2.2, hR.same⟩
          have HST : Hid (Steps w4 ao n R Q) := hst
          clear hR hF hB hR1 HB3 hst z1 z2 z3 HR1
          go_wp2_with fail
          refine (maxStep_any z ao n cap R Q _ HST.out).mono ?_
          rintro e w5 ⟨rfl, hw5⟩
          subst w5
          rw [HM.out]
          go_wp2_with fail
          refine (highCert_any _ _ _ hc1).mono ?_
          rintro e w5 ⟨rfl, hw5⟩
          subst w5
          go_wp2_with fail
          refine (blockRound_any _ _ _ HX1.out.2.1).mono ?_
          rintro e w5 ⟨rfl, hw5⟩
          subst w5
          go_wp2_with fail
          refine (highCert_any _ _ _ hc2).mono ?_
          rintro e w5 ⟨rfl, hw5⟩
          subst w5
          go_wp2_with fail
          refine (blockRound_any _ _ _ HX2.out.2.1).mono ?_
          rintro e w5 ⟨rfl, hw5⟩
          subst w5
          go_wp2_with fail
          refine (committed_any _ _ _ _ _ HX1.out.1).mono ?_
          rintro e w5 ⟨rfl, hw5⟩
          subst w5
          go_wp2_with fail
          refine (same_any _ _ _ _ _ _ (by omega) HX1.out.2.2).mono ?_
          rintro e w5 ⟨rfl, ha⟩
          have HA5 : Hid (Alk w5 w4) := ha
          have hc3 : w5.cell? ⟨nb2, 16, none⟩ = some (.slice (some ⟨C2, 0, none⟩) (M + 1) (M + 1)) := (ha.cell _).trans HX2.out.1
          have HX5 : Hid (SameC w5 C2 S2 (M + 1)) := by
            intro i hi
            obtain ⟨ca, sa, la, ka, ks, h1, h2, h3, h4⟩ := HX2.out.2.2 i hi
            refine ⟨ca, sa, la, ka, ks, (ha.cell _).trans h1, (ha.cell _).trans h2, h3, fun j hj => ?_⟩
            obtain ⟨c, s, x, e1, e2, e3, e4⟩ := h4 j hj
            exact ⟨c, s, x, e1, e2, (ha.cell _).trans e3, (ha.cell _).trans e4⟩
          clear ha
          go_wp2_with fail
          refine (committed_any _ _ _ _ _ hc3).mono ?_
          rintro e w6 ⟨rfl, hw6⟩
          subst w6
          go_wp2_with fail
          refine (same_any _ _ _ _ _ _ (by omega) HX5.out).mono ?_
          rintro e w6 ⟨rfl, hb6⟩
          have HA6 : Hid (Alk w6 w5) := hb6
          clear hb6
          go_wp2
          go_ret
          exact ⟨rfl, HB4.out.trans ((HA5.out.below _).trans (HA6.out.below _))⟩
end Go.Proofs.Qxb6618555a
