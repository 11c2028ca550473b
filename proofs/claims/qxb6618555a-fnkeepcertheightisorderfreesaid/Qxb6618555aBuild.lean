/-
  zzBuildNode, walked.
-/
import Derived.Test.Qxb6618555aCalls
import Derived.Test.Qxb6618555aReads
import Derived.Test.Qxb6618555aSnap
import Derived.Deep.QuietTactic
import Derived.BigQuiet
import Derived.Deep.OwnRows
import Derived.Deep.CutRange
import Derived.Deep.DeepCutAuto
import Derived.Deep.RegionLaw
import Derived.Deep.AppendLies
namespace Go.Proofs.Qxb6618555a
open Go.RowKit

theorem cell_al {w : World} {b o : Nat} {v : Value} (h : w.cell? ⟨b, o, none⟩ = some v) (ob : Obj) : (w.alloc ob).cell? ⟨b, o, none⟩ = some v :=
  (World.cell?_of_block (w := w) (a := ⟨b, o, none⟩) (Below.heap_alloc w ob b (lt_of_cell h))).trans h
theorem frozen_al {w : World} {b o : Nat} {v : Value} (h : w.cell? ⟨b, o, none⟩ = some v) (hf : w.frozen? ⟨b, o, none⟩ = false) (ob : Obj) : (w.alloc ob).frozen? ⟨b, o, none⟩ = false :=
  (World.frozen?_of_block (w := w) (a := ⟨b, o, none⟩) (Below.heap_alloc w ob b (lt_of_cell h))).trans hf

theorem info26 : (Try.prog.info? 26).map (fun i => (i.zero, i.size, i.bytes)) = some (some (.slice none 0 0), 1, 24) := by kernel_rfl
theorem info25 : (Try.prog.info? 25).map (fun i => (i.zero, i.size, i.bytes)) = some (some (.pointer none), 1, 8) := by kernel_rfl
theorem info4 : (Try.prog.info? 4).map (fun i => (i.zero, i.size, i.bytes)) = some (some (.bool false), 1, 1) := by kernel_rfl

def BuildPost (w : World) (z : Int) (R Q : Nat → Int) (n M : Nat) (e : Ending) (w' : World) : Prop :=
  ∃ nb hq C S Bk cert, e = .returned (.tuple #[.pointer (some ⟨nb, 0, none⟩), .pointer (some ⟨hq, 0, none⟩), .slice (some ⟨Bk, 0, none⟩) n n, .slice (some ⟨S, 0, none⟩) (M + 1) (M + 1)]) ∧
    Built w' w.heap.size nb hq C S Bk (M + 1) n z R Q cert ∧ Below w.heap.size w w'

/-- What 'committed[k]' holds, and how long it is. -/
theorem com_look {w wb : World} {M n : Nat} {z : Int} {R Q : Nat → Int} {hq Bk i : Nat} {par : Nat → Option Nat} {com : Nat → Option (Nat × Nat)} {hld : Nat → Bool} {cert : Nat → Nat} (hI : Inv w M n z R Q hq Bk i par com hld cert wb)
    {S N k : Nat} {wr : World} (hS : Snap wb w.heap.size (w.heap.size + 1) S N k wr) (hSb : wb.heap.size ≤ S) (k : Nat) (hk : k < M + 1) :
    ∃ ca la ka X, wr.cell? ⟨w.heap.size + 1, k, none⟩ = some (.slice ca la ka) ∧ la ≤ 1 ∧ ∀ j, j < la → ∃ c x, ca = some ⟨c, 0, none⟩ ∧ X = .pointer (some x) ∧ c ≠ S ∧ At wr w.heap.size c j X := by
  have hB := hI.1.of_block fun k hk => hS.1.block k hk
  have hc := hB.rC.cell hk
  rcases hx : com k with _ | ⟨c, cap⟩
  · rw [hx] at hc
    exact ⟨none, 0, 0, .pointer none, hc, by omega, fun j hj => by omega⟩
  · rw [hx] at hc
    obtain ⟨h1, q, h2, h3⟩ := hB.comOk _ _ _ hx
    have h4 := (hI.1.comOk _ _ _ hx).2
    obtain ⟨q', _, h5⟩ := h4
    have := h5.lt
    refine ⟨_, 1, cap, .pointer (some ⟨q, 0, none⟩), hc, by omega, fun j hj => ⟨c, _, rfl, rfl, by omega, ?_⟩⟩
    obtain rfl : j = 0 := by omega
    exact h3

set_option maxRecDepth 100000 in
set_option maxHeartbeats 2000000 in
theorem build_any (z : Int) (ao : Option Addr) (n cap : Nat) (R Q : Nat → Int) (w : World) (hs : Steps w ao n R Q) (hd : Dom z R Q n) (hn6 : n ≤ 65536) (M : Nat) (hM : mx z R n = M) (hM6 : M ≤ 65536) :
    Calls Try.prog 7 #[.int .i64 z, .slice ao n cap] w fun e w' => BuildPost w z R Q n M e w' := by
  obtain ⟨hn, hs⟩ := hs
  have HM : Hid (mx z R n = M) := hM
  clear hM
  have HS : Hid (∀ i, i < n → ∃ b off, ao = some ⟨b, off, none⟩ ∧ w.cell? ⟨b, off + i * 2, none⟩ = some (.int .i64 (R i)) ∧ w.cell? ⟨b, off + i * 2 + 1, none⟩ = some (.int .i64 (Q i))) := hs
  clear hs hn
  have HD : Hid (Dom z R Q n) := hd
  have hd0 := hd.1
  have hd1 := hd.2.1
  clear hd
  have mk27 : ∀ w, (Instr.makeSlice 27 (.int .i64 ((M : Int) + 1)) (.int .i64 ((M : Int) + 1))).run Try.prog w = .ok (.slice (some ⟨w.heap.size, 0, none⟩) (M + 1) (M + 1)) (w.alloc (.cells (madeCells #[(.slice none 0 0)] (M + 1)) 26)) := fun w => run_make_row' (P := Try.prog) 27 26 (.slice none 0 0) 24 Try.underlying27 info26 rfl .i64 .i64 (M + 1) (by omega) (by omega) w
  have mk26 : ∀ w, (Instr.makeSlice 26 (.int .i64 ((M : Int) + 1)) (.int .i64 ((M : Int) + 1))).run Try.prog w = .ok (.slice (some ⟨w.heap.size, 0, none⟩) (M + 1) (M + 1)) (w.alloc (.cells (madeCells #[(.pointer none)] (M + 1)) 25)) := fun w => run_make_row' (P := Try.prog) 26 25 (.pointer none) 8 Try.underlying26 info25 rfl .i64 .i64 (M + 1) (by omega) (by omega) w
  have mk39 : ∀ w, (Instr.makeSlice 39 (.int .i64 ((M : Int) + 1)) (.int .i64 ((M : Int) + 1))).run Try.prog w = .ok (.slice (some ⟨w.heap.size, 0, none⟩) (M + 1) (M + 1)) (w.alloc (.cells (madeCells #[(.bool false)] (M + 1)) 4)) := fun w => run_make_row' (P := Try.prog) 39 4 (.bool false) 1 Try.underlying39 info4 rfl .i64 .i64 (M + 1) (by omega) (by omega) w
  have mk26n := fun w => run_make_row' (P := Try.prog) 26 25 (.pointer none) 8 Try.underlying26 info25 rfl .i64 .i64 n (by omega) (by omega) w
  go_enter Try.func7, Try.ntmps7
  go_wp2
  go_loop [8, 9] (fun m i => ∃ k : Nat, k ≤ n ∧ i = .int .i64 k ∧ m = .int .i64 (mx z R k)) (fun _ i => n - (intOf i).toNat)
  case atStart => exact ⟨0, Nat.zero_le _, rfl, rfl⟩
  case round =>
    obtain ⟨k, hk, rfl, rfl⟩ := hrel
    by_cases hlt : k < n
    · obtain ⟨b, off, rfl, h0, h1⟩ := HS.out k hlt
      have HX : Hid (mx z R (k + 1) = if mx z R k < R k then R k else mx z R k) := rfl
      go_wp2
      all_goals
        go_round
        case rel => exact ⟨k + 1, by omega, by go_num, by rw [HX.out]; first | rw [if_pos ‹_›] | rw [if_neg (by omega)]⟩
        case measure => simp [intOf]; omega
    · obtain rfl : n = k := by omega
      rw [HM.out]
      have gm : ∀ z : Value, (madeCells #[z] (M + 1))[0]? = some z := fun z => made_get z _ _ (by omega)
      have gs : ∀ z : Value, (madeCells #[z] (M + 1)).size = M + 1 := fun z => made_size z _
      go_upto_if 61 with (go_at_call 15; refine (newBlock_any _ _ _ _).mono ?_; rintro e w' ⟨rfl, rfl⟩)
      go_cut [14] from 23 (fun hv wc => ∃ hq, hv = .pointer (some ⟨hq, 0, none⟩) ∧ Pre w ⟨#[48, 58, 103, 101, 110, 101, 115, 105, 115]⟩ M z hq wc)
      case first =>
        by_cases hh : 0 < z
        · go_wp2_with (go_at_call 15; refine (newBlock_any _ _ _ _).mono ?_; rintro e w' ⟨rfl, rfl⟩)
          go_meet
          case rel => exact ⟨_, rfl, pre_high w _ _ M z _⟩
        · go_wp2
          go_meet
          case rel =>
            obtain rfl : z = 0 := by omega
            exact ⟨_, rfl, pre_gen w _ M⟩
      case rest =>
        obtain ⟨hq, rfl, hpre⟩ := hcut
        go_wp2
        obtain ⟨Bk, hBk⟩ : ∃ Bk, wc.heap.size = Bk := ⟨_, rfl⟩
        have HI := inv_start (n := n) (R := R) (Q := Q) hpre
        have hal : Hid (∃ par com hld cert, Inv w M n z R Q hq Bk 0 par com hld cert (wc.alloc (.cells (madeCells #[.pointer none] n) 25))) := by rw [← hBk]; exact HI
        rw [hBk]
        clear HI hpre gm gs mk26 mk39
        go_loopg [16] n (fun gk i wr => ∃ k : Nat, k ≤ n ∧ gk = n - k ∧ i = .int .i64 k ∧ ∃ par com hld cert, Inv w M n z R Q hq Bk k par com hld cert wr)
        case atStart => exact ⟨0, Nat.zero_le _, rfl, rfl, hal.out⟩
        case round =>
          obtain ⟨k, hk, hgk, rfl, par, com, hld, cert, hI⟩ := hrel
          by_cases hlt : k < n
          · obtain ⟨b, off, rfl, h0, h1⟩ := HS.out k hlt
            have lb := lt_of_cell h0
            rw [← hI.2.2.2.cell (p := ⟨b, off + k * 2, none⟩) lb] at h0
            rw [← hI.2.2.2.cell (p := ⟨b, off + k * 2 + 1, none⟩) lb] at h1
            have hBc : wr.cell? ⟨Bk, k, none⟩ = some (.pointer none) := by
              have := hI.1.rB.cell hlt
              simpa using this
            have hBf := hI.1.rB.frozen k
            obtain ⟨hr0, hr1, hr2⟩ := HD.out.2.2 k hlt
            have hlt' : (k : Int) < (n : Int) := by omega
            have HInv : Hid (Inv w M n z R Q hq Bk k par com hld cert wr) := hI
            clear hI
            by_cases hz : R k = 0
            · have HZ : Hid (R k = 0) := hz
              rw [hz] at h0
              clear hr0 hr1 hr2 hz
              go_wp2
              go_roundg (n - (k + 1))
              case measure => omega
              case rel => exact ⟨k + 1, by omega, rfl, by go_num, _, _, _, _, inv_gen HInv.out HZ.out⟩
            · have hrp : 0 < R k := by omega
              obtain ⟨hq0, hq1⟩ := hr2 hrp
              obtain ⟨pr, hpr⟩ : ∃ pr : Nat, Q k = pr := ⟨(Q k).toNat, by omega⟩
              have HQ : Hid (Q k = pr) := hpr
              have hge := (mx_ge z R n).2 k hlt
              rw [HM.out] at hge
              rw [hpr] at h1 hq1 hq0
              clear hpr hr2 hz
              have hprM : pr < M + 1 := by omega
              have hprM' : (pr : Int) < (M : Int) + 1 := by omega
              have hPc := HInv.out.1.rP.cell hprM
              have hPf := HInv.out.1.rP.frozen pr
              obtain ⟨po, hpo⟩ : ∃ po, ptrV (par pr) = .pointer po := by cases par pr <;> exact ⟨_, rfl⟩
              rw [hpo] at hPc
              have HPO : Hid (ptrV (par pr) = .pointer po) := hpo
              clear hpo
              go_upto_if 94 with fail
              go_cut [] from 68 to 140 (fun wc => ∃ par com hld cert q, Inv w M n z R Q hq Bk k par com hld cert wc ∧ par pr = some q)
              case first =>
                rcases hp : par pr with _ | q
                · have HP : Hid (par pr = none) := hp
                  have hpo := HPO.out
                  rw [hp] at hpo
                  cases hpo
                  clear hp HPO
                  have hPca := cell_al hPc
                  have hPfa := frozen_al hPc hPf
                  go_wp2_with (go_at_call 15; refine (newBlock_any _ _ _ _).mono ?_; rintro e w' ⟨rfl, rfl⟩)
                  go_meet
                  case rel => exact ⟨_, _, _, _, _, inv_parent HInv.out HP.out _ _, upd_same _ _ _⟩
                · have HP : Hid (par pr = some q) := hp
                  have hpo := HPO.out
                  rw [hp] at hpo
                  cases hpo
                  clear hp HPO
                  go_wp2
                  go_meet
                  case rel => exact ⟨_, _, _, _, _, HInv.out, HP.out⟩
              case rest =>
                clear HPO hPc hPf hBc hBf h0 h1 HInv
                obtain ⟨par, com, hld, cert, q, hI, hp⟩ := hcut
                have hPc : wc.cell? ⟨w.heap.size + 1 + 1 + 1, pr, none⟩ = some (.pointer (some ⟨q, 0, none⟩)) := by
                  have := hI.1.rP.cell hprM
                  rw [hp] at this
                  exact this
                have hHc : wc.cell? ⟨w.heap.size + 1 + 1 + 1 + 1, pr, none⟩ = some (.bool (hld pr)) := hI.1.rH.cell hprM
                have hHf := hI.1.rH.frozen pr
                have hCf := hI.1.rC.frozen pr
                have hBc : wc.cell? ⟨Bk, k, none⟩ = some (.pointer none) := by
                  have := hI.1.rB.cell hlt
                  simpa using this
                have hBf := hI.1.rB.frozen k
                have hBca := cell_al hBc
                have hBfa := frozen_al hBc hBf
                have HInv : Hid (Inv w M n z R Q hq Bk k par com hld cert wc) := hI
                have HP : Hid (par pr = some q) := hp
                clear hI hp
                by_cases c1 : (pr : Int) = R k - 1
                · have c1' : ((pr : Int) == R k - 1) = true := by simpa using c1
                  have C1 : Hid ((pr : Int) = R k - 1) := c1
                  clear c1
                  by_cases c2 : (0 : Int) < (pr : Int)
                  · rcases hh : hld pr with _ | _
                    · rw [hh] at hHc
                      have hcn := (HInv.out.1.hldOk pr (by omega)).2 hh
                      have hCc : wc.cell? ⟨w.heap.size + 1, pr, none⟩ = some (.slice none 0 0) := by
                        have := HInv.out.1.rC.cell hprM
                        rw [hcn] at this
                        exact this
                      have HN : Hid (com pr = none) := hcn
                      clear hh hcn
                      go_wp2_with fail
                      have lC := lt_of_cell hCc
                      have hCfa := frozen_al hCc hCf
                      have hCca := cell_al hCc
                      obtain ⟨i0, hi0, hz0, hz1, hz2⟩ := info_parts info25
                      have hpr0 : (0 : Int) ≤ (pr : Int) := Int.natCast_nonneg _
                      go_cut [] from 68 to 140 (fun wd => ∃ c cap w1, wd = w1.setCell ⟨w.heap.size + 1, pr, none⟩ (.slice (some ⟨c, 0, none⟩) 1 cap) ∧ Inv w M n z R Q hq Bk k par com hld cert w1 ∧
                        Out (w.heap.size + 1) (w.heap.size + 1 + 1 + 1) (w.heap.size + 1 + 1 + 1 + 1) Bk c ∧ At w1 w.heap.size c 0 (ptrV (some q)))
                      case first =>
                        go_region_law
                          ((refine step_append_lies _ (by rfl) _ _ _ (by rfl) 0 25 i0 _ 1 8 Try.underlying26 hi0 hz0 hz1 hz2 rfl (by omega) (.slice none 0 0) 0 [] (by rfl) (World.ownsRow_nil _ _ _ _)
                              ⟨wc.heap.size, 0, none⟩ 1 1 [.pointer (some ⟨q, 0, none⟩)] (by rfl) (by rfl) (World.news_of_block (cs := #[.pointer (some ⟨q, 0, none⟩)]) (t := 25) (fr := (0, 0)) (heap_alloc_new wc _)) (by simp [Value.oneCell'])
                              (by omega) (by unfold maxLen; omega) (by omega) (by omega) (wc.heap.size + 1) (by simp) ?_; intro gg cap w1 hown1 hgrow hat hltg; have e1 := (hgrow.cell_far ⟨w.heap.size + 1, pr, none⟩ (by simp; omega) (by simp [Value.ownBlock])).trans (hCca _); have e2 := (hgrow.frozen_far ⟨w.heap.size + 1, pr, none⟩ (by simp; omega) (by simp [Value.ownBlock])).trans (hCfa _)))
                        all_goals
                          go_wp2_with fail
                          go_meet
                          case rel => exact ⟨gg, cap, w1, rfl, inv_append HInv.out hgrow hown1 hat⟩
                      case rest =>
                        clear hCc hCf hHc hHf hPc hBc hBf hBca hBfa lC hCfa hCca hpr0
                        obtain ⟨c, cap, w1, rfl, hI1, ho, hc0⟩ := hcut
                        have hHc : (w1.setCell ⟨w.heap.size + 1, pr, none⟩ (.slice (some ⟨c, 0, none⟩) 1 cap)).cell? ⟨w.heap.size + 1 + 1 + 1 + 1, pr, none⟩ = some (.bool (hld pr)) := (hI1.1.rH.setOther (Ne.symm hI1.1.nCH) _).cell hprM
                        have hHf : (w1.setCell ⟨w.heap.size + 1, pr, none⟩ (.slice (some ⟨c, 0, none⟩) 1 cap)).frozen? ⟨w.heap.size + 1 + 1 + 1 + 1, pr, none⟩ = false := (hI1.1.rH.setOther (Ne.symm hI1.1.nCH) _).frozen pr
                        have hI2 := inv_commit (cap := cap) hI1 (by omega) HP.out HN.out ho hc0
                        have hPc := hI2.1.rP.cell hprM
                        rw [HP.out] at hPc
                        have hBc := hI2.1.rB.cell hlt
                        rw [if_neg (by omega)] at hBc
                        have hBf := hI2.1.rB.frozen k
                        have hBca := cell_al hBc
                        have hBfa := frozen_al hBc hBf
                        have HI2 : Hid (Inv w M n z R Q hq Bk k par (upd com pr (some (c, cap))) (upd hld pr true) cert ((w1.setCell ⟨w.heap.size + 1, pr, none⟩ (.slice (some ⟨c, 0, none⟩) 1 cap)).setCell ⟨w.heap.size + 1 + 1 + 1 + 1, pr, none⟩ (.bool true))) := hI2
                        clear hI1 hI2 ho hc0
                        simp only [ptrV] at hPc
                        go_wp2_with (go_at_call 15; refine (newBlock_any _ _ _ _).mono ?_; rintro e w' ⟨rfl, rfl⟩)
                        go_roundg (n - (k + 1))
                        case measure => omega
                        case rel => exact ⟨k + 1, by omega, rfl, by go_num, _, _, _, _, inv_cert HI2.out HQ.out HP.out (fun _ => ⟨_, upd_same _ _ _⟩) _ _ (by simp [World.setCell])⟩
                    · rw [hh] at hHc
                      have HN : Hid (∃ x, com pr = some x) := (HInv.out.1.hldOk pr (by omega)).1 hh
                      clear hh
                      go_wp2_with (go_at_call 15; refine (newBlock_any _ _ _ _).mono ?_; rintro e w' ⟨rfl, rfl⟩)
                      go_roundg (n - (k + 1))
                      case measure => omega
                      case rel => exact ⟨k + 1, by omega, rfl, by go_num, _, _, _, _, inv_cert HInv.out HQ.out HP.out (fun _ => HN.out) _ _ rfl⟩
                  · have c2' : decide ((0 : Int) < (pr : Int)) = false := by simpa using c2
                    go_wp2_with (go_at_call 15; refine (newBlock_any _ _ _ _).mono ?_; rintro e w' ⟨rfl, rfl⟩)
                    go_roundg (n - (k + 1))
                    case measure => omega
                    case rel =>
                      obtain rfl : pr = 0 := by omega
                      exact ⟨k + 1, by omega, rfl, by go_num, _, _, _, _, inv_cert HInv.out HQ.out HP.out (fun _ => HInv.out.1.com0) _ _ rfl⟩
                · have c1' : ((pr : Int) == R k - 1) = false := by simpa using c1
                  have C1 : Hid (¬ (pr : Int) = R k - 1) := c1
                  clear c1
                  go_wp2_with (go_at_call 15; refine (newBlock_any _ _ _ _).mono ?_; rintro e w' ⟨rfl, rfl⟩)
                  go_roundg (n - (k + 1))
                  case measure => omega
                  case rel => exact ⟨k + 1, by omega, rfl, by go_num, _, _, _, _, inv_cert HInv.out HQ.out HP.out (fun e => absurd (HQ.out ▸ e) C1.out) _ _ rfl⟩
          · obtain rfl : n = k := by omega
            obtain ⟨wb, rfl⟩ : ∃ wb, wb = wr := ⟨_, rfl⟩
            have HInv : Hid (Inv w M n z R Q hq Bk n par com hld cert wb) := hI
            have hsz := hI.2.2.2.size
            have lC := hI.1.rC.lt
            clear hI hal
            go_wp2
            obtain ⟨S, hS⟩ : ∃ S, wb.heap.size = S := ⟨_, rfl⟩
            have HSn : Hid (Snap wb w.heap.size (w.heap.size + 1) S (M + 1) 0 (wb.alloc (.cells (madeCells #[.slice none 0 0] (M + 1)) 26))) := by
              rw [← hS]; exact snap_start wb _ _ _ hsz lC
            have hSb : wb.heap.size ≤ S := by omega
            rw [hS]
            clear mk27 hS mk26n
            go_loopg [20] (M + 1) (fun gk i w3 => ∃ k : Nat, k ≤ M + 1 ∧ gk = M + 1 - k ∧ i = .int .i64 k ∧ Snap wb w.heap.size (w.heap.size + 1) S (M + 1) k w3)
            case atStart => exact ⟨0, Nat.zero_le _, rfl, rfl, HSn.out⟩
            case round =>
              clear HSn
              obtain ⟨k, hk, hgk, rfl, hSn⟩ := hrel
              obtain ⟨w3, rfl⟩ : ∃ w3, w3 = wr := ⟨_, rfl⟩
              by_cases hlt : k < M + 1
              · obtain ⟨ca, la, ka, X, hCc, hla, hX⟩ := com_look HInv.out hSn hSb k hlt
                have mkla := fun w => run_make_row' (P := Try.prog) 26 25 (.pointer none) 8 Try.underlying26 info25 rfl .i64 .i64 la (by omega) (by omega) w
                have hltM : (k : Int) < (M : Int) + 1 := by omega
                have HX : Hid (∀ j, j < la → ∃ c x, ca = some ⟨c, 0, none⟩ ∧ X = .pointer (some x) ∧ c ≠ S ∧ At w3 w.heap.size c j X) := hX
                have HSn : Hid (Snap wb w.heap.size (w.heap.size + 1) S (M + 1) k w3) := hSn
                have hS3 := hSn.2.1
                have HC : Hid (w3.cell? ⟨w.heap.size + 1, k, none⟩ = some (.slice ca la ka)) := hCc
                have lC3 := lt_of_cell hCc
                clear hX hSn
                go_wp2
                obtain ⟨s, hs⟩ : ∃ s, w3.heap.size = s := ⟨_, rfl⟩
                have HR : Hid ((w3.alloc (.cells (madeCells #[.pointer none] la) 25)).rowIs s 25 la (fun j => if j < 0 then X else .pointer none)) := by
                  rw [← hs]; exact (World.rowIs_made w3 (.pointer none) la 25).congr fun i _ => by simp
                have HSz : Hid (w3.heap.size = s) := hs
                rw [hs]
                clear hs mkla hCc
                go_loopg [22] la (fun gk i wi => ∃ m : Nat, m ≤ la ∧ gk = la - m ∧ i = .int .i64 m ∧ Below w3.heap.size w3 wi ∧ wi.rowIs s 25 la (fun j => if j < m then X else .pointer none))
                case atStart => exact ⟨0, Nat.zero_le _, rfl, rfl, (Below.refl _ _).alloc (Nat.le_refl _) _, HR.out⟩
                case round =>
                  clear HR
                  obtain ⟨m, hm, hgm, rfl, hbel, hrow⟩ := hrel
                  have hCc : wr.cell? ⟨w.heap.size + 1, k, none⟩ = some (.slice ca la ka) := (hbel.cell (p := ⟨w.heap.size + 1, k, none⟩) lC3).trans HC.out
                  by_cases hltm : m < la
                  · obtain ⟨c, x, rfl, rfl, hcS, hcx⟩ := HX.out m hltm
                    have hcm : wr.cell? ⟨c, m, none⟩ = some (.pointer (some x)) := (hbel.cell (p := ⟨c, m, none⟩) hcx.lt).trans hcx.2
                    have hsm : wr.cell? ⟨s, m, none⟩ = some (.pointer none) := by
                      have := hrow.cell hltm
                      simpa using this
                    have hsf := hrow.frozen m
                    have HB : Hid (Below w3.heap.size w3 wr) := hbel
                    have HRow : Hid (wr.rowIs s 25 la (fun j => if j < m then .pointer (some x) else .pointer none)) := hrow
                    have hltm' : (m : Int) < (la : Int) := by omega
                    clear hbel hrow hcx
                    go_wp2
                    go_roundg (la - (m + 1))
                    case measure => omega
                    case rel =>
                      refine ⟨m + 1, by omega, rfl, by go_num, HB.out.setCell (by rw [HSz.out]; exact Nat.le_refl _) _, (HRow.out.set m _).congr fun j hj => ?_⟩
                      by_cases e : j = m
                      · subst e; simp
                      · by_cases e2 : j < m
                        · simp [e, e2, show j < m + 1 from by omega]
                        · simp [e, e2, show ¬ j < m + 1 from by omega]
                  · obtain rfl : m = la := by omega
                    obtain ⟨fS, hfS⟩ := HSn.out.2.2.2.2.1
                    have hSc := (hfS.of_block (hbel.block _ hS3)).cell hlt
                    have hSf := (hfS.of_block (hbel.block _ hS3)).frozen k
                    have HB : Hid (Below w3.heap.size w3 wr) := hbel
                    have HRow : Hid (wr.rowIs s 25 m (fun j => if j < m then X else .pointer none)) := hrow
                    clear hbel hrow hfS
                    go_wp2
                    go_roundg (M + 1 - (k + 1))
                    case measure => omega
                    case rel =>
                      refine ⟨k + 1, by omega, rfl, by go_num, snap_step HSn.out hlt HSz.out.symm HB.out hSb ⟨by omega, HC.out⟩ hla fun j hj => ?_⟩
                      obtain ⟨c, x, e1, e2, e3, e4⟩ := HX.out j hj
                      refine ⟨c, x, e1, e3, e2 ▸ e4, ?_⟩
                      have := HRow.out.cell hj
                      rw [if_pos hj, e2] at this
                      exact this
              · obtain rfl : k = M + 1 := by omega
                have HSn : Hid (Snap wb w.heap.size (w.heap.size + 1) S (M + 1) (M + 1) w3) := hSn
                clear hSn
                go_wp2_with (go_at_call 16; refine (newNode_any _ _ _ _ _).mono ?_; rintro e w' ⟨rfl, rfl⟩)
                have hge := (mx_ge z R n).2
                rw [HM.out] at hge
                obtain ⟨r1, r2⟩ := built_of HInv.out HSn.out HD.out hge
                exact bodyPost_ret (v := .tuple #[.pointer (some ⟨w3.heap.size, 0, none⟩), .pointer (some ⟨hq, 0, none⟩), .slice (some ⟨Bk, 0, none⟩) n n, .slice (some ⟨S, 0, none⟩) (M + 1) (M + 1)]) (by simp [results, Try.results7, go_sem]) rfl
                  ⟨_, _, _, _, _, _, rfl, r1, r2⟩
end Go.Proofs.Qxb6618555a
