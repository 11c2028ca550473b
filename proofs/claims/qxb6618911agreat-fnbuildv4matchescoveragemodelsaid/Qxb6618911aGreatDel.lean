/-
  slices.Delete at []int32. (After the guide's worked text, turned to this program.)
-/
import Derived.Test.Qxb6618911aGreatOwn
import Derived.Shelf.SlicesE.Delete
import Derived.Lib.RowBridge
import Derived.Deep.RegionLaw
namespace Go.Proofs.Qxb6618911aGreat
open Go.Shelf Go.RowKit Go.Lib Go.Sort

def encS (x : Int) : Value := .int .i32 x
theorem h1 : OneCell encS := fun _ => rfl

set_option maxHeartbeats 4000000 in
set_option maxRecDepth 1000000 in
/-- slices.Delete: "Delete modifies s in place by removing the elements s[i:j], and returns the modified slice. .. Delete zeroes the elements s[len(s)-(j-i):len(s)].": FOR i ≤ j ≤ len(s) IT RETURNS THE SLICE CUT TO len(s) - (j - i) ELEMENTS; ITS CELLS HOLD what stood ahead of i, what stood from j on, then j - i zero values ('zr': the element whose 'encS' is the type's zero value). -/
theorem delete_cells (i0 : TypeInfo) (hi0 : Tryz.prog.info? 21 = some i0) (hz1 : i0.size = 1) (blk off cap i j : Nat) (d : Array Int) (w : World) (hH : Holds encS w blk off d) (hcap : d.size ≤ cap) (hm : cap ≤ 9223372036854775807) (hij : i ≤ j) (hj : j ≤ d.size) :
    Calls Tryz.prog 62 #[.slice (some ⟨blk, off, none⟩) d.size cap, .int .i64 i, .int .i64 j] w fun e w' => e = .returned (.slice (some ⟨blk, off, none⟩) (d.size - (j - i)) cap) ∧ ∃ q, w' = putRow encS (Sort.ahead w q) blk off (d.toList.take i ++ d.toList.drop j ++ List.replicate (j - i) 0).toArray := by
  have t22 := Tryz.underlying24
  have v23 := Tryz.zeroValue21
  by_cases heq : i = j
  · subst heq
    have h0 : Calls Tryz.prog 62 #[.slice (some ⟨blk, off, none⟩) d.size cap, .int .i64 i, .int .i64 i] w fun e w' => e = .returned (.slice (some ⟨blk, off, none⟩) d.size cap) ∧ w' = w := by
      clear hH
      go_enter Tryz.func62, Tryz.ntmps62
      go_wp2
      all_goals (go_ret; exact ⟨rfl, rfl⟩)
    refine h0.mono ?_
    rintro e w' ⟨rfl, rfl⟩
    have e : (d.toList.take i ++ d.toList.drop i ++ List.replicate (i - i) 0).toArray = d := by simp
    refine ⟨by rw [Nat.sub_self, Nat.sub_zero], 0, ?_⟩
    rw [e]
    exact (putRow_self encS (Sort.ahead w' 0) blk off d hH).symm
  · have hlt : i < j := by omega
    -- the cells that are moved to the left
    obtain ⟨news, hnews⟩ : ∃ news, news = (d.toList.drop j).map encS := ⟨_, rfl⟩
    have hlen : news.length = d.size - j := by rw [hnews]; simp
    have hget : ∀ t, t < d.size - j → news[t]? = some (encS d[j + t]!) := by
      intro t ht
      rw [hnews, List.getElem?_map, List.getElem?_drop, Array.getElem?_toList, getElem!_pos d (j + t) (by omega), Array.getElem?_eq_getElem (by omega)]
      rfl
    obtain ⟨A, hA, hsrc⟩ : ∃ A : Addr, (if cap = j then some (⟨blk, off, none⟩ : Addr) else some ⟨blk, off + j, none⟩) = some A ∧ Hid (∀ t u, news[t]? = some u → w.drew.cell? (A.add t) = some u) := by
      by_cases h : cap = j
      · refine ⟨⟨blk, off, none⟩, by simp [h], fun t u hu => ?_⟩
        have h0 : news.length = 0 := by rw [hlen]; omega
        rw [List.length_eq_zero_iff.1 h0] at hu
        simp at hu
      · refine ⟨⟨blk, off + j, none⟩, by simp [h], fun t u hu => ?_⟩
        have ht : t < d.size - j := by
          have := (List.getElem?_eq_some_iff.1 hu).1
          rwa [hlen] at this
        rw [hget t ht] at hu
        rw [Addr.add_lit, show off + j + t = off + (j + t) by omega]
        exact (hH (j + t) (by omega)).1.trans hu
    have s1 : Hid (news.length = (d.size - j) * 1) := by rw [Nat.mul_one]; exact hlen
    have s2 : Hid (∀ u ∈ news, u.oneCell' = true) := by
      intro u hu
      rw [hnews] at hu
      obtain ⟨x, _, rfl⟩ := List.mem_map.1 hu
      exact h1 x
    have s3 : Hid (∀ t, t < news.length → (w.drew.cell? ⟨blk, off + i * 1 + t, none⟩).isSome = true ∧ w.drew.frozen? ⟨blk, off + i * 1 + t, none⟩ = false) := by
      intro t ht
      rw [hlen] at ht
      rw [Nat.mul_one, Nat.add_assoc]
      exact ⟨by show (w.cell? _).isSome = true; rw [(hH (i + t) (by omega)).1]; rfl, (hH (i + t) (by omega)).2⟩
    -- the world behind the append, behind a name
    obtain ⟨W1, hW1⟩ : ∃ W1, W1 = w.drew.setCells blk (off + i * 1) news := ⟨_, rfl⟩
    have hW1' : W1 = putRow encS (Sort.ahead w 1) blk off (lay d i (d.toList.drop j)) := by
      rw [hW1, hnews, Nat.mul_one, ← putRow_setCells encS (Sort.ahead w 1) blk off _ d i (by simp; omega), putRow_self encS (Sort.ahead w 1) blk off d (holds_ahead encS w 1 blk off d hH)]
      rfl
    have hH1 : Holds encS W1 blk off (lay d i (d.toList.drop j)) := by rw [hW1']; exact holds_putRow encS _ blk off d _ (holds_ahead encS w 1 blk off d hH) (lay_size _ _ _)
    have hcl : ∀ ty, (Builtin.clear_ #[24] ty #[.slice (some ⟨blk, off + (i + (d.size - j)), none⟩) (d.size - (i + (d.size - j))) (cap - (i + (d.size - j)))]).run Tryz.prog W1 = .ok (.tuple #[]) (W1.setCells blk (off + (i + (d.size - j))) (List.replicate (d.size - (i + (d.size - j))) (encS 0))) :=
      fun ty => Lib.run_clear_slice W1 _ _ ty _ t22 v23 (h1.cells 0) (h1 0) blk (off + (i + (d.size - j))) _ _ (by omega) (fun t ht => by rw [show off + (i + (d.size - j)) + t = off + (i + (d.size - j) + t) by omega, (hH1 _ (by rw [lay_size]; omega)).1]; rfl) (fun t ht => by rw [show off + (i + (d.size - j)) + t = off + (i + (d.size - j) + t) by omega]; exact (hH1 _ (by rw [lay_size]; omega)).2)
    have X : Aside (W1 = putRow encS (Sort.ahead w 1) blk off (lay d i (d.toList.drop j))) := hW1'
    have hW : Hid (W1 = w.drew.setCells blk (off + i * 1) news) := hW1
    have hic : i ≤ cap := by omega
    have hjc : j ≤ cap := by omega
    clear hW1 hW1' hH1 hH hget hnews hlen
    go_enter Tryz.func62, Tryz.ntmps62
    go_wp2_with fail
    go_region_law (refine step_append_room rfl (.tmp 22) (.tmp 25) 24 rfl 21 i0 1 t22 hi0 hz1 blk off i cap (by simp [Act.eval, Act.put]) A (d.size - j) (cap - j) news (by simp [Act.eval, Act.put]) s1.out hsrc.out s2.out (by omega) s3.out ?_; rw [← hW.out])
    go_wp2
    go_ret
    refine ⟨by rw [show d.size - (j - i) = i + (d.size - j) by omega]; rfl, 1, ?_⟩
    rw [← delete_arr d i j 0 hij hj, ← putRow_setCells encS _ blk off _ _ (i + (d.size - j)) (by rw [lay_size]; simp; omega), ← X.out, List.map_replicate, show d.size - (i + (d.size - j)) = j - i by omega]



end Go.Proofs.Qxb6618911aGreat
