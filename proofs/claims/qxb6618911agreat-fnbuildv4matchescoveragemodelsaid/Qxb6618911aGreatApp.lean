/-
  append onto an owned row of one-celled elements; AppendUint32; frames by tags.
-/
import Derived.Test.Qxb6618911aGreatEvents
import Derived.Test.Qxb6618911aGreatDelOwn
import Derived.Laws.BytesArg
namespace Go.Proofs.Qxb6618911aGreat
open Go.RowKit Go.Lib

theorem appendOR (t e : TypeId) (z : Value) (bytes : Nat) (ht : Tryz.prog.underlying t = some (.slice e)) (hinfo : (Tryz.prog.info? e).map (fun i => (i.zero, i.size, i.bytes)) = some (some z, 1, bytes)) (hz1 : z.cells.size = 1) (hby : bytes ≤ 100)
    (base : Nat) (ao : Option Addr) (n cap : Nat) (xs : List Value) (w : World) (hown : OR w base e ao n cap xs) (nb : Nat) (m : Nat) (news : List Value) (hm : news.length = m) (h0 : 0 < m) (hnb : w.heap[nb]? = some (.cells news.toArray e)) (h1 : ∀ u ∈ news, u.oneCell' = true) (hn : n + m ≤ 1000000) (hbase : base ≤ w.heap.size) :
    ∃ g cap' w', (Builtin.append_ #[t, t] t #[.slice ao n cap, .slice (some ⟨nb, 0, none⟩) m m]).run Tryz.prog w = .ok (.slice (some ⟨g, 0, none⟩) (n + m) cap') w' ∧
      OR w' base e (some ⟨g, 0, none⟩) (n + m) cap' (xs ++ news) ∧ w.grownBy w' (blkOf ao) ∧ (blkOf ao = some g ∨ g = w.heap.size) := by
  obtain ⟨i, hi, hzz⟩ := Option.map_eq_some_iff.1 hinfo
  simp only [Prod.mk.injEq] at hzz
  obtain ⟨hz, hs, hb2⟩ := hzz
  have hbb : (n + m) * bytes ≤ 140737488355328 := by
    have : (n + m) * bytes ≤ 1000000 * 100 := Nat.mul_le_mul hn hby
    omega
  obtain ⟨g, cap', w', h2, h3, h4, h5, h6⟩ := run_append_lies (P := Tryz.prog) w t t base e i z 1 bytes ht hi hz hs hb2 hz1 (by omega) (.slice ao n cap) n xs hown.owns ⟨nb, 0, none⟩ m m news (by omega) (World.news_of_block (cs := news.toArray) hnb) h1 h0 (by unfold maxLen; omega) hbb hbase w.heap.size rfl
  obtain ⟨ao', cap'', e1, e2⟩ := OR.of_owns h3
  cases e1
  rw [blkOf_own] at h4 h5
  exact ⟨g, cap', w', h2, e2, h4, h5⟩

theorem info5 : (Tryz.prog.info? 5).map (fun i => (i.zero, i.size, i.bytes)) = some (some (.int .u8 0), 1, 1) := by kernel_rfl

/-- The four bytes, least first. -/
def le4 (x : Int) : List Int := [x % 256, x / 256 % 256, x / 65536 % 256, x / 16777216]

def ApPost (w : World) (base : Nat) (ao : Option Addr) (m : Nat) (xs : List Value) (x : Int) (e : Ending) (w' : World) : Prop :=
  ∃ g cap, e = .returned (.slice (some ⟨g, 0, none⟩) (m + 4) cap) ∧ OR w' base 5 (some ⟨g, 0, none⟩) (m + 4) cap (xs ++ (le4 x).map (.int .u8)) ∧ w.grownBy w' (blkOf ao) ∧ (blkOf ao = some g ∨ w.heap.size ≤ g)

set_option maxRecDepth 100000 in
set_option maxHeartbeats 2000000 in
theorem appendU32 (base : Nat) (ao : Option Addr) (m cap : Nat) (xs : List Value) (x : Int) (w : World) (h0 : 0 ≤ x) (hx : x < 4294967296) (hm : m ≤ 100000) (hown : OR w base 5 ao m cap xs) (hbase : base ≤ w.heap.size) :
    Calls Tryz.prog 77 #[.agg #[], .slice ao m cap, .int .u32 x] w fun e w' => ApPost w base ao m xs x e w' := by
  have hW : ∀ o, (w.alloc (.cells #[] 155)).grownBy ((w.alloc (.cells #[] 155)).alloc o) (blkOf ao) := fun o => World.grownBy_alloc _ _ _
  have hown2 : OR ((w.alloc (.cells #[] 155)).alloc (.cells #[.int .u8 (x % 256), .int .u8 (x / 256 % 256), .int .u8 (x / 65536 % 256), .int .u8 (x / 16777216)] 5)) base 5 ao m cap xs :=
    hown.of_block fun g _ hlt => by rw [Below.heap_alloc _ _ _ (by simp; omega), Below.heap_alloc _ _ _ hlt]
  obtain ⟨g, cap', w1, r1, o1, g1, at1⟩ := appendOR 102 5 (.int .u8 0) 1 Tryz.underlying102 info5 rfl (by omega) base ao m cap xs _ hown2 (w.heap.size + 1) 4 ((le4 x).map (.int .u8)) rfl (by omega)
    (by rw [show w.heap.size + 1 = (w.alloc (.cells #[] 155)).heap.size from by simp]; exact alloc_new _ _) (fun u hu => by simp [le4] at hu; rcases hu with rfl | rfl | rfl | rfl <;> rfl) (by omega) (by simp; omega)
  have H1 : Hid (OR w1 base 5 (some ⟨g, 0, none⟩) (m + 4) cap' (xs ++ (le4 x).map (.int .u8)) ∧ ((w.alloc (.cells #[] 155)).alloc (.cells #[.int .u8 (x % 256), .int .u8 (x / 256 % 256), .int .u8 (x / 65536 % 256), .int .u8 (x / 16777216)] 5)).grownBy w1 (blkOf ao)) := ⟨o1, g1⟩
  have A1 : Hid (blkOf ao = some g ∨ g = ((w.alloc (.cells #[] 155)).alloc (.cells #[.int .u8 (x % 256), .int .u8 (x / 256 % 256), .int .u8 (x / 65536 % 256), .int .u8 (x / 16777216)] 5)).heap.size) := at1
  clear o1 g1 at1 hown2 hown hW
  go_enter Tryz.func77, Tryz.ntmps77
  go_wp2_with (at_builtin; refine Lib.wpList_append_run _ rfl _ _ _ _ rfl _ _ rfl rfl _ _ r1 ?_)
  go_ret
  refine ⟨g, cap', rfl, H1.out.1, grownBy_trans (grownBy_trans (World.grownBy_alloc w _ _) (World.grownBy_alloc _ _ _)) H1.out.2, ?_⟩
  rcases A1.out with h | h
  · exact .inl h
  · right
    rw [h]
    simp
    omega
end Go.Proofs.Qxb6618911aGreat
