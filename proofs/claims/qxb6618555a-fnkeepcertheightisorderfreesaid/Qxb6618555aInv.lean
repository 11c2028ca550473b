/-
  The relations of zzBuildNode's loops and cuts, and the steps between them. No walk here.
-/
import Derived.Test.Qxb6618555aStart
import Derived.Test.Qxb6618555aReads
namespace Go.Proofs.Qxb6618555a
open Go.RowKit

theorem mx_ge (h : Int) (R : Nat → Int) : ∀ n, h ≤ mx h R n ∧ ∀ k, k < n → R k ≤ mx h R n
  | 0 => ⟨Int.le_refl _, fun k hk => by omega⟩
  | n + 1 => by
    obtain ⟨h1, h2⟩ := mx_ge h R n
    refine ⟨?_, fun k hk => ?_⟩
    · simp only [mx]; split <;> omega
    · simp only [mx]
      by_cases e : k = n
      · subst e; split <;> omega
      · have := h2 k (by omega)
        split <;> omega

theorem mx_le (h : Int) (R : Nat → Int) (B : Int) (hh : h ≤ B) : ∀ n, (∀ k, k < n → R k ≤ B) → mx h R n ≤ B
  | 0, _ => hh
  | n + 1, hr => by
    have := mx_le h R B hh n (fun k hk => hr k (by omega))
    have := hr n (by omega)
    simp only [mx]
    split <;> omega

theorem blk_cells {w : World} {b : Nat} {s : ByteArray} {r : Int} {p : Option Addr} (h : w.heap[b]? = some (blkObj s r p)) :
    w.cell? ⟨b, 1, none⟩ = some (.int .i64 r) ∧ w.cell? ⟨b, 2, none⟩ = some (.pointer p) := by
  unfold blkObj at h
  constructor <;> simp [World.cell?, h]

/-- Ahead of 'blocks := make(..)'. -/
def Pre (w : World) (s : ByteArray) (M : Nat) (h : Int) (hq : Nat) (wc : World) : Prop :=
  At wc w.heap.size hq 1 (.int .i64 h) ∧ w.heap.size + 5 ≤ wc.heap.size ∧ (∀ k, k < w.heap.size + 5 → wc.heap[k]? = (W5 w s M).heap[k]?) ∧ Below w.heap.size w wc ∧
    (hq = w.heap.size ∨ w.heap.size + 5 ≤ hq)

theorem pre_gen (w : World) (s : ByteArray) (M : Nat) : Pre w s M 0 w.heap.size (W5 w s M) :=
  ⟨⟨Nat.le_refl _, (blk_cells (W5_0 w s M)).1⟩, by rw [W5_size]; exact Nat.le_refl _, fun _ _ => rfl, W5_below w s M, .inl rfl⟩

theorem pre_high (w : World) (s s' : ByteArray) (M : Nat) (h : Int) (p : Option Addr) : Pre w s M h (w.heap.size + 5) ((W5 w s M).alloc (blkObj s' h p)) := by
  refine ⟨⟨by omega, ?_⟩, by simp [W5_size], fun k hk => Below.heap_alloc _ _ _ (by rw [W5_size]; exact hk), (W5_below w s M).alloc (by rw [W5_size]; omega) _, .inr (by omega)⟩
  have := alloc_new (W5 w s M) (blkObj s' h p)
  rw [W5_size] at this
  exact (blk_cells this).1

/-- What the second loop's rounds keep. -/
def Inv (w : World) (M n : Nat) (h : Int) (R Q : Nat → Int) (hq Bk : Nat) (k : Nat) (par : Nat → Option Nat) (com : Nat → Option (Nat × Nat)) (hld : Nat → Bool) (cert : Nat → Nat) (wr : World) : Prop :=
  Bld wr w.heap.size (w.heap.size + 1) (w.heap.size + 1 + 1 + 1) (w.heap.size + 1 + 1 + 1 + 1) Bk w.heap.size (M + 1) n k R Q par com hld cert ∧
    Out (w.heap.size + 1) (w.heap.size + 1 + 1 + 1) (w.heap.size + 1 + 1 + 1 + 1) Bk hq ∧ At wr w.heap.size hq 1 (.int .i64 h) ∧ Below w.heap.size w wr

section
variable {w : World} {M n : Nat} {h : Int} {R Q : Nat → Int} {hq Bk k : Nat} {par : Nat → Option Nat} {com : Nat → Option (Nat × Nat)} {hld : Nat → Bool} {cert : Nat → Nat} {wr : World}

theorem inv_start {s : ByteArray} {wc : World} (hp : Pre w s M h hq wc) :
    ∃ par com hld cert, Inv w M n h R Q hq wc.heap.size 0 par com hld cert (wc.alloc (.cells (madeCells #[.pointer none] n) 25)) := by
  obtain ⟨h1, h2, h3, h4, h5⟩ := hp
  refine ⟨_, _, _, fun _ => 0, bld_start w s M n R Q _ wc h3 h2, ?_, h1.of_block fun k hk => Below.heap_alloc _ _ _ hk, h4.alloc (by omega) _⟩
  have := h1.lt
  exact ⟨by omega, by omega, by omega, by omega⟩

theorem inv_alloc (hi : Inv w M n h R Q hq Bk k par com hld cert wr) (o : Obj) : Inv w M n h R Q hq Bk k par com hld cert (wr.alloc o) := by
  obtain ⟨h1, h2, h3, h4⟩ := hi
  have := h4.size
  exact ⟨h1.alloc o, h2, h3.of_block fun k hk => Below.heap_alloc _ _ _ hk, h4.alloc (by omega) _⟩

theorem inv_grown (hi : Inv w M n h R Q hq Bk k par com hld cert wr) {w' : World} (hg : wr.grownBy w' none) : Inv w M n h R Q hq Bk k par com hld cert w' := by
  obtain ⟨h1, h2, h3, h4⟩ := hi
  have e : ∀ k, k < wr.heap.size → w'.heap[k]? = wr.heap[k]? := fun k hk => hg.block k hk (by simp)
  have := h4.size
  exact ⟨h1.of_block e, h2, h3.of_block e, h4.grown hg (by omega) (by simp)⟩

theorem inv_drew (hi : Inv w M n h R Q hq Bk k par com hld cert wr) : Inv w M n h R Q hq Bk k par com hld cert wr.drew := by
  obtain ⟨h1, h2, h3, h4⟩ := hi
  exact ⟨h1.of_block fun _ _ => rfl, h2, h3.of_block fun _ _ => rfl, h4.drew⟩

/-- 'parentAt[pr] = ZZnewBlock("parent", pr, genesis)'. -/
theorem inv_parent (hi : Inv w M n h R Q hq Bk k par com hld cert wr) {pr : Nat} (hn : par pr = none) (s : ByteArray) (p : Option Addr) :
    Inv w M n h R Q hq Bk k (upd par pr (some wr.heap.size)) com hld cert ((wr.alloc (blkObj s (pr : Int) p)).setCell ⟨w.heap.size + 1 + 1 + 1, pr, none⟩ (.pointer (some ⟨wr.heap.size, 0, none⟩))) := by
  have ho := hi.1.fresh (Nat.le_refl wr.heap.size)
  have hs := hi.2.2.2.size
  obtain ⟨h1, h2, h3, h4⟩ := inv_alloc hi (blkObj s (pr : Int) p)
  refine ⟨h1.parent hn ho ⟨hs, ?_⟩, h2, h3.setOther h2.2.1 _, h4.setCell (by show w.heap.size ≤ w.heap.size + 1 + 1 + 1; omega) _⟩
  exact (blk_cells (alloc_new wr _)).1

/-- 'committed[pr] = append(committed[pr], parentAt[pr]); held[pr] = true'. -/
theorem inv_commit (hi : Inv w M n h R Q hq Bk k par com hld cert wr) {pr q c cap : Nat} (hp : 0 < pr) (hpar : par pr = some q) (hn : com pr = none) (hc : Out (w.heap.size + 1) (w.heap.size + 1 + 1 + 1) (w.heap.size + 1 + 1 + 1 + 1) Bk c)
    (hc0 : At wr w.heap.size c 0 (ptrV (some q))) :
    Inv w M n h R Q hq Bk k par (upd com pr (some (c, cap))) (upd hld pr true) cert
      ((wr.setCell ⟨w.heap.size + 1, pr, none⟩ (.slice (some ⟨c, 0, none⟩) 1 cap)).setCell ⟨w.heap.size + 1 + 1 + 1 + 1, pr, none⟩ (.bool true)) := by
  obtain ⟨h1, h2, h3, h4⟩ := hi
  exact ⟨h1.commit hp hpar hn hc hc0, h2, (h3.setOther h2.1 _).setOther h2.2.2.1 _, (h4.setCell (by show w.heap.size ≤ w.heap.size + 1; omega) _).setCell (by show w.heap.size ≤ w.heap.size + 1 + 1 + 1 + 1; omega) _⟩

/-- 'append(committed[pr], parentAt[pr])' onto nil: the new array. -/
theorem inv_append (hi : Inv w M n h R Q hq Bk k par com hld cert wr) {o : Obj} {w1 : World} {g cap q : Nat} (hg : ((wr.alloc o).drew).grownBy w1 (Value.slice none 0 0).ownBlock)
    (hown : w1.ownsRow 0 25 1 (.slice (some ⟨g, 0, none⟩) (0 + 1) cap) (0 + 1) ([] ++ [.pointer (some ⟨q, 0, none⟩)])) (hat : (Value.slice none 0 0).ownBlock = some g ∨ g = wr.heap.size + 1) : 
    Inv w M n h R Q hq Bk k par com hld cert w1 ∧ Out (w.heap.size + 1) (w.heap.size + 1 + 1 + 1) (w.heap.size + 1 + 1 + 1 + 1) Bk g ∧ At w1 w.heap.size g 0 (ptrV (some q)) := by
  have hgg : g = wr.heap.size + 1 := by
    rcases hat with h | h
    · simp [Value.ownBlock] at h
    · exact h
  have hs := hi.2.2.2.size
  refine ⟨inv_grown (inv_drew (inv_alloc hi o)) hg, hi.1.fresh (by omega), by omega, ?_⟩
  rcases hown.2 with ⟨h, _⟩ | ⟨g', cap', cur, hv, _, hb, _, _, _, hx⟩
  · simp at h
  · simp only [Value.slice.injEq, Option.some.injEq, Addr.mk.injEq] at hv
    obtain ⟨⟨rfl, _⟩, _⟩ := hv
    have h0 : cur.toList[0]? = some (.pointer (some ⟨q, 0, none⟩)) := by
      have : (cur.toList.take 1)[0]? = some (.pointer (some ⟨q, 0, none⟩)) := by
        have e : cur.toList.take 1 = [.pointer (some ⟨q, 0, none⟩)] := by simpa using hx
        rw [e]; rfl
      rw [List.getElem?_take] at this
      simpa using this
    simp [World.cell?, hb, ptrV]
    simpa using h0

/-- 'blocks[i] = genesis'. -/
theorem inv_gen (hi : Inv w M n h R Q hq Bk k par com hld cert wr) (hr : R k = 0) :
    Inv w M n h R Q hq Bk (k + 1) par com hld (upd cert k w.heap.size) (wr.setCell ⟨Bk, k, none⟩ (.pointer (some ⟨w.heap.size, 0, none⟩))) := by
  obtain ⟨h1, h2, h3, h4⟩ := hi
  obtain ⟨g1, g2⟩ := h1.parOk 0 _ h1.par0
  refine ⟨h1.add g1 (by rw [hr]; exact g2) (fun h => by omega), h2, h3.setOther h2.2.2.2 _, h4.setCell h1.lB _⟩

/-- 'blocks[i] = ZZnewBlock("cert", r, parentAt[pr])'. -/
theorem inv_cert (hi : Inv w M n h R Q hq Bk k par com hld cert wr) {pr q : Nat} (hQ : Q k = (pr : Int)) (hpar : par pr = some q) (hcom : Q k = R k - 1 → ∃ y, com pr = some y) (s : ByteArray) (K : Nat) (hK : wr.heap.size = K) :
    Inv w M n h R Q hq Bk (k + 1) par com hld (upd cert k K) ((wr.alloc (blkObj s (R k) (some ⟨q, 0, none⟩))).setCell ⟨Bk, k, none⟩ (.pointer (some ⟨K, 0, none⟩))) := by
  subst hK
  have ho := hi.1.fresh (Nat.le_refl wr.heap.size)
  have hs := hi.2.2.2.size
  obtain ⟨h1, h2, h3, h4⟩ := inv_alloc hi (blkObj s (R k) (some ⟨q, 0, none⟩))
  refine ⟨h1.add ho ⟨hs, ?_⟩ (fun _ => ⟨q, ⟨hs, ?_⟩, ?_, ?_⟩), h2, h3.setOther h2.2.2.2 _, h4.setCell h1.lB _⟩
  · exact (blk_cells (alloc_new wr _)).1
  · exact (blk_cells (alloc_new wr _)).2
  · rw [hQ]; exact hpar
  · intro e; rw [show (Q k).toNat = pr from by rw [hQ]; rfl]; exact hcom e

end
end Go.Proofs.Qxb6618555a
