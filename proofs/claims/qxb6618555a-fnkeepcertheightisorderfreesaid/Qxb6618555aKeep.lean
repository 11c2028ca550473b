import Derived.Test.Qxb6618555aCalls
import Derived.Test.Qxb6618555aAlk
import Derived.Deep.QuietTactic
import Derived.BigQuiet
import Derived.Deep.OwnRows
namespace Go.Proofs.Qxb6618555a
open Go.RowKit

set_option maxHeartbeats 400000 in
theorem commit_held (nb C N M q c cap n r : Nat) (w : World) (hn : 0 < n) (hr : r < N) (h16 : w.cell? ⟨nb, 16, none⟩ = some (.slice (some ⟨C, 0, none⟩) N M))
    (hq : w.cell? ⟨q, 1, none⟩ = some (.int .i64 r)) (hC : w.cell? ⟨C, r, none⟩ = some (.slice (some ⟨c, 0, none⟩) n cap)) (hc : w.cell? ⟨c, 0, none⟩ = some (.pointer (some ⟨q, 0, none⟩))) :
    Calls Try.prog 18 #[.pointer (some ⟨nb, 0, none⟩), .pointer (some ⟨q, 0, none⟩)] w fun e w' => e = .returned (.tuple #[]) ∧ Alk w' w := by
  have hr' : (r : Int) < (N : Int) := by omega
  go_enter Try.func18, Try.ntmps18
  go_wp2
  go_quiet ((go_at_call 19; exact Calls.quiet_of_same (contains_one _ _ _ _ _ hn (by simpa using hc))))
  go_wp2
  exact bodyPost_ret (v := .tuple #[]) (by simp [results, Try.results18, go_sem]) rfl ⟨rfl, rfl, rfl, rfl, rfl⟩

/-- keepCert: the world behind it is, but for draws, the old one, with the node's highest certificate turned where the block's round is higher. -/
def kept (w : World) (nb b : Nat) (hr r : Int) : World := if hr < r then w.setCell ⟨nb, 10, none⟩ (.pointer (some ⟨b, 0, none⟩)) else w

set_option maxHeartbeats 1000000 in
theorem keepCert_any (nb b h : Nat) (hr r pr : Int) (p : Nat) (w : World) (hh : w.cell? ⟨nb, 10, none⟩ = some (.pointer (some ⟨h, 0, none⟩))) (hf : w.frozen? ⟨nb, 10, none⟩ = false)
    (h1 : w.cell? ⟨h, 1, none⟩ = some (.int .i64 hr)) (hb1 : w.cell? ⟨b, 1, none⟩ = some (.int .i64 r)) (hb2 : 0 < r → w.cell? ⟨b, 2, none⟩ = some (.pointer (some ⟨p, 0, none⟩)))
    (hp1 : 0 < r → w.cell? ⟨p, 1, none⟩ = some (.int .i64 pr)) (hh0 : 0 ≤ hr) (hr0 : 0 ≤ r) (hrm : r ≤ 65536)
    (hcom : ∀ w' : World, Alk w' (kept w nb b hr r) → 0 < r → pr = r - 1 →
      Calls Try.prog 18 #[.pointer (some ⟨nb, 0, none⟩), .pointer (some ⟨p, 0, none⟩)] w' fun e w'' => e = .returned (.tuple #[]) ∧ Alk w'' w') :
    Calls Try.prog 17 #[.pointer (some ⟨nb, 0, none⟩), .pointer (some ⟨b, 0, none⟩)] w fun e w' => e = .returned (.tuple #[]) ∧ Alk w' (kept w nb b hr r) := by
  by_cases c1 : hr < r
  · have hk : kept w nb b hr r = w.setCell ⟨nb, 10, none⟩ (.pointer (some ⟨b, 0, none⟩)) := if_pos c1
    rw [hk] at hcom ⊢
    have c2 : 0 < r := by omega
    replace hb2 := hb2 c2
    replace hp1 := hp1 c2
    by_cases c3 : pr = r - 1
    · have HC : Hid (∀ w' : World, Alk w' (w.setCell ⟨nb, 10, none⟩ (.pointer (some ⟨b, 0, none⟩))) → 
        Calls Try.prog 18 #[.pointer (some ⟨nb, 0, none⟩), .pointer (some ⟨p, 0, none⟩)] w' fun e w'' => e = .returned (.tuple #[]) ∧ Alk w'' w') := fun w' hw' => hcom w' hw' c2 c3
      clear hcom hk
      have c3' : (pr == r - 1) = true := by simpa using c3
      clear c3
      go_enter Try.func17, Try.ntmps17
      go_wp2
      go_quiet (fail)
      go_wp2
      go_quiet (fail)
      go_wp2_with fail
      refine (HC.out _ ?_).mono ?_
      · exact (Alk.drewN _ _).trans ((Alk.drewN _ _).setCell _ _)
      · rintro e w' ⟨rfl, hw'⟩
        go_wp2
        go_end0
        exact ⟨rfl, hw'.trans ((Alk.drewN _ _).trans ((Alk.drewN _ _).setCell _ _))⟩
    · clear hcom hk
      have c3' : (pr == r - 1) = false := by simpa using c3
      clear c3
      go_enter Try.func17, Try.ntmps17
      go_wp2
      go_quiet (fail)
      go_wp2
      go_quiet (fail)
      go_wp2
      go_end0
      exact ⟨rfl, (Alk.drewN _ _).trans ((Alk.drewN _ _).setCell _ _)⟩
  · have hk : kept w nb b hr r = w := if_neg c1
    rw [hk] at hcom ⊢
    by_cases c2 : 0 < r
    · replace hb2 := hb2 c2
      replace hp1 := hp1 c2
      by_cases c3 : pr = r - 1
      · have HC : Hid (∀ w' : World, Alk w' w → 
          Calls Try.prog 18 #[.pointer (some ⟨nb, 0, none⟩), .pointer (some ⟨p, 0, none⟩)] w' fun e w'' => e = .returned (.tuple #[]) ∧ Alk w'' w') := fun w' hw' => hcom w' hw' c2 c3
        clear hcom hk
        have c3' : (pr == r - 1) = true := by simpa using c3
        clear c3
        go_enter Try.func17, Try.ntmps17
        go_wp2
        go_quiet (fail)
        go_wp2
        go_quiet (fail)
        go_wp2_with fail
        refine (HC.out _ ?_).mono ?_
        · exact ⟨rfl, rfl, rfl, rfl⟩
        · rintro e w' ⟨rfl, hw'⟩
          go_wp2
          go_end0
          exact ⟨rfl, hw'.trans (⟨rfl, rfl, rfl, rfl⟩)⟩
      · clear hcom hk
        have c3' : (pr == r - 1) = false := by simpa using c3
        clear c3
        go_enter Try.func17, Try.ntmps17
        go_wp2
        go_quiet (fail)
        go_wp2
        go_quiet (fail)
        go_wp2
        go_end0
        exact ⟨rfl, ⟨rfl, rfl, rfl, rfl⟩⟩
    · have c2' : decide (0 < r) = false := by simpa using c2
      clear hcom hk
      go_enter Try.func17, Try.ntmps17
      go_wp2
      go_quiet (fail)
      go_wp2
      go_quiet (fail)
      go_wp2
      go_end0
      exact ⟨rfl, ⟨rfl, rfl, rfl, rfl⟩⟩

set_option maxHeartbeats 400000 in
theorem zzKeepCert_any (nb b : Nat) (w v : World) (h : Calls Try.prog 17 #[.pointer (some ⟨nb, 0, none⟩), .pointer (some ⟨b, 0, none⟩)] w fun e w' => e = .returned (.tuple #[]) ∧ Alk w' v) :
    Calls Try.prog 8 #[.pointer (some ⟨nb, 0, none⟩), .pointer (some ⟨b, 0, none⟩)] w fun e w' => e = .returned (.tuple #[]) ∧ Alk w' v := by
  have H : Hid (Calls Try.prog 17 #[.pointer (some ⟨nb, 0, none⟩), .pointer (some ⟨b, 0, none⟩)] w fun e w' => e = .returned (.tuple #[]) ∧ Alk w' v) := h
  clear h
  go_enter Try.func8, Try.ntmps8
  go_wp2_with (go_at_call 17; refine H.out.mono ?_; rintro e w' ⟨rfl, hw'⟩)
  go_end0
  exact ⟨rfl, hw'⟩
end Go.Proofs.Qxb6618555a
