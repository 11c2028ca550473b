/-
  FnKeepCertKeepsFirstHighest, walked.
-/
import Derived.Test.Qxb6618555aRun
import Derived.Test.Qxb6618555aBuild
namespace Go.Proofs.Qxb6618555a
open Go.RowKit

theorem steps_below {w w' : World} {ao : Option Addr} {n : Nat} {R Q : Nat → Int} (h : Steps w ao n R Q) (hb : Below w.heap.size w w') : Steps w' ao n R Q := by
  refine ⟨h.1, fun i hi => ?_⟩
  obtain ⟨b, off, e, h0, h1⟩ := h.2 i hi
  have lb := lt_of_cell h0
  exact ⟨b, off, e, (hb.cell (p := ⟨b, off + i * 2, none⟩) lb).trans h0, (hb.cell (p := ⟨b, off + i * 2 + 1, none⟩) lb).trans h1⟩

set_option maxRecDepth 100000 in
set_option maxHeartbeats 2000000 in
theorem first_any (z : Int) (ao : Option Addr) (n cap : Nat) (R Q : Nat → Int) (w : World) (hs : Steps w ao n R Q) :
    Calls Try.prog 3 #[.int .i64 z, .slice ao n cap] w fun e w' => e = .returned (.bool true) ∧ Below w.heap.size w w' := by
  have HS : Hid (Steps w ao n R Q) := hs
  have hn := hs.1
  have hn' := hn
  unfold maxLen at hn'
  clear hs
  go_enter Try.func3, Try.ntmps3
  go_wp2_with fail
  refine (bytes5_any z ao n cap w hn).mono ?_
  rintro e w' ⟨⟨b, rfl, -⟩, hw⟩
  subst w'
  rcases b with _ | _
  · go_wp2
    go_ret
    exact ⟨rfl, Below.refl _ _⟩
  by_cases c1 : 65536 < n
  · go_wp2_with fail
    go_ret
    exact ⟨rfl, Below.refl _ _⟩
  go_wp2_with fail
  refine (domain_any z ao n cap R Q _ HS.out).mono ?_
  rintro e w' ⟨⟨b, rfl, hd⟩, hw⟩
  subst w'
  rcases b with _ | _
  · clear hd
    go_wp2
    go_ret
    exact ⟨rfl, Below.refl _ _⟩
  have hd := hd rfl
  have HD : Hid (Dom z R Q n) := hd
  obtain ⟨M, hM⟩ : ∃ M : Nat, mx z R n = M := ⟨(mx z R n).toNat, by have := (mx_ge z R n).1; have := hd.1; omega⟩
  have hM6 : M ≤ 65536 := by have := mx_le z R 65536 hd.2.1 n (fun k hk => (hd.2.2 k hk).2.1); omega
  have HM : Hid (mx z R n = M) := hM
  clear hd hM
  go_wp2_with fail
  refine (build_any z ao n cap R Q w HS.out HD.out (by omega) M HM.out hM6).mono ?_
  rintro e w1 ⟨nb, hq, C, S, Bk, cert, rfl, hbt, hbel⟩
  have HR : Hid (Run (In w1 w.heap.size w1.heap.size) nb hq C S Bk (M + 1) n z R Q cert) := Run.of_built hbt
  have HF : Hid (w1.frozen? ⟨nb, 10, none⟩ = false) := hbt.fz
  have hnb := hbt.hi.1
  have HB : Hid (Below w.heap.size w w1) := hbel
  obtain ⟨hi, hhi⟩ : ∃ hi, w1.heap.size = hi := ⟨_, rfl⟩
  rw [hhi] at HR
  clear hbt hbel hhi
  go_wp2_with fail
  go_loopg [9] n (fun gk i wr => ∃ k : Nat, k ≤ n ∧ gk = n - k ∧ i = .int .i64 k ∧ Run (In wr w.heap.size hi) nb (curOf z R hq cert k) C S Bk (M + 1) n (mx z R k) R Q cert ∧ wr.frozen? ⟨nb, 10, none⟩ = false ∧ Below w.heap.size w wr)
  case atStart => exact ⟨0, Nat.zero_le _, rfl, rfl, HR.out, HF.out, HB.out⟩
  case round =>
    clear HR HF HB
    obtain ⟨k, hk, hgk, rfl, hR, hF, hB⟩ := hrel
    by_cases hlt : k < n
    · have hbk : wr.cell? ⟨Bk, k, none⟩ = some (.pointer (some ⟨cert k, 0, none⟩)) := (hR.bk k hlt).2.2
      obtain ⟨d0, d1, d2⟩ := HD.out.2.2 k hlt
      have hmz := (mx_ge z R k).1
      have hz0 := HD.out.1
      have HK : Hid (Calls Try.prog 8 #[.pointer (some ⟨nb, 0, none⟩), .pointer (some ⟨cert k, 0, none⟩)] wr fun e w' => e = .returned (.tuple #[]) ∧ Alk w' (kept wr nb (cert k) (mx z R k) (R k))) :=
        keep_run hR hF (by omega) hlt d0 d1 (fun c => (d2 c).1)
      have HRR : Hid (Run (In wr w.heap.size hi) nb (curOf z R hq cert k) C S Bk (M + 1) n (mx z R k) R Q cert ∧ wr.frozen? ⟨nb, 10, none⟩ = false ∧ Below w.heap.size w wr) := ⟨hR, hF, hB⟩
      have hlt' : (k : Int) < (n : Int) := by omega
      clear hR hF hB d0 d1 d2 hmz hz0
      go_wp2_with fail
      refine HK.out.mono ?_
      rintro e w2 ⟨rfl, ha⟩
      have HA : Hid (Alk w2 (kept wr nb (cert k) (mx z R k) (R k))) := ha
      clear ha HK hbk
      go_wp2
      go_roundg (n - (k + 1))
      case measure => omega
      case rel =>
        obtain ⟨hR, hF, hB⟩ := HRR.out
        obtain ⟨r1, r2⟩ := hR.kept hF hlt HA.out
        exact ⟨k + 1, by omega, rfl, by go_num, r1, r2, hB.trans ((But.of_kept HA.out).below hnb)⟩
    · obtain rfl : n = k := by omega
      have hst := steps_below HS.out hB
      go_wp2_with fail
      refine (maxStep_any z ao n cap R Q wr hst).mono ?_
      rintro e w2 ⟨rfl, hw2⟩
      subst w2
      rw [HM.out]
      have HRR : Hid (Run (In wr w.heap.size hi) nb (curOf z R hq cert n) C S Bk (M + 1) n (mx z R n) R Q cert ∧ Below w.heap.size w wr) := ⟨hR, hB⟩
      have HST : Hid (Steps wr ao n R Q) := hst
      clear hR hF hB hst hgk
      obtain ⟨w3, rfl⟩ : ∃ w3, w3 = wr := ⟨_, rfl⟩
      go_upto_if 51 with fail
      go_cut [11] from 48 to 68 (fun wv wc => wv = .pointer (some ⟨curOf z R hq cert n, 0, none⟩) ∧ wc = w3)
      case first =>
        by_cases c : z < (M : Int)
        · go_wp2
          go_loopg [11, 12] n (fun gk wv i wx => ∃ k : Nat, k ≤ n ∧ gk = n - k ∧ i = .int .i64 k ∧ Hid (∀ j, j < k → R j ≠ M) ∧ wx = w3)
          case atStart => exact ⟨0, Nat.zero_le _, rfl, rfl, fun j hj => by omega, rfl⟩
          case round =>
            obtain ⟨k, hk, hgk, rfl, hne, hw⟩ := hrel
            subst wr
            by_cases hlt : k < n
            · have hbk : w3.cell? ⟨Bk, k, none⟩ = some (.pointer (some ⟨cert k, 0, none⟩)) := (HRR.out.1.bk k hlt).2.2
              obtain ⟨b, off, rfl, h0, h1⟩ := HST.out.2 k hlt
              have hlt' : (k : Int) < (n : Int) := by omega
              by_cases e : R k = (M : Int)
              · have E : Hid (R k = (M : Int)) := e
                have e' : (R k == (M : Int)) = true := by simpa using e
                clear e
                go_wp2
                go_meet
                case rel =>
                  refine ⟨?_, rfl⟩
                  rw [curOf_first z R hq cert n k hlt (by rw [HM.out]; exact E.out) (by rw [HM.out]; exact hne.out) (by rw [HM.out]; exact c)]
              · have E : Hid (¬ R k = (M : Int)) := e
                have e' : (R k == (M : Int)) = false := by simpa using e
                clear e
                go_wp2
                go_roundg (n - (k + 1))
                case measure => omega
                case rel =>
                  refine ⟨k + 1, by omega, rfl, by go_num, fun j hj => ?_, rfl⟩
                  by_cases ej : j = k
                  · rw [ej]; exact E.out
                  · exact hne.out j (by omega)
            · obtain ⟨j, j1, j2⟩ := mx_hit z R n (by rw [HM.out]; exact c)
              rw [HM.out] at j2
              exact absurd j2 (hne.out j (by omega))
        · go_wp2
          go_meet
          case rel =>
            refine ⟨?_, rfl⟩
            rw [curOf_none z R hq cert n (by rw [HM.out]; omega)]
      case rest =>
        obtain ⟨rfl, hw⟩ := hcut
        subst wc
        obtain ⟨hR, hB⟩ := HRR.out
        rw [HM.out] at hR
        have hc10 : w3.cell? ⟨nb, 10, none⟩ = some (.pointer (some ⟨curOf z R hq cert n, 0, none⟩)) := hR.hi.2.2
        have hsame := hR.same
        have he := eql_same ⟨curOf z R hq cert n, 0, none⟩
        have HX : Hid (w3.cell? ⟨nb, 16, none⟩ = some (.slice (some ⟨C, 0, none⟩) (M + 1) (M + 1)) ∧ w3.cell? ⟨curOf z R hq cert n, 1, none⟩ = some (.int .i64 M) ∧ SameC w3 C S (M + 1)) := ⟨hR.cm.2.2, hR.hr.2.2, hsame⟩
        have HB : Hid (Below w.heap.size w w3) := hB
        clear hR hB hsame HRR
        go_wp2_with (first
          | (go_at_call 10; refine (highCert_any _ _ _ hc10).mono ?_; rintro e w' ⟨rfl, rfl⟩)
          | (go_at_call 11; refine (blockRound_any _ _ _ HX.out.2.1).mono ?_; rintro e w' ⟨rfl, rfl⟩)
          | (go_at_call 13; refine (committed_any _ _ _ _ _ HX.out.1).mono ?_; rintro e w' ⟨rfl, rfl⟩)
          | (go_at_call 12; refine (same_any _ _ _ _ _ _ (by omega) HX.out.2.2).mono ?_; rintro e w5 ⟨rfl, ha⟩))
        go_ret
        exact ⟨rfl, HB.out.trans (ha.below _)⟩
end Go.Proofs.Qxb6618555a
