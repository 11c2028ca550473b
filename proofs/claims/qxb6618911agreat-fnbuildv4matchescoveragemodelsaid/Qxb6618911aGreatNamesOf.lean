/-
  zzNamesOf.
-/
import Derived.Test.Qxb6618911aGreatCov
import Derived.Sort.Walk0
namespace Go.Proofs.Qxb6618911aGreat
open Go.RowKit Go.Lib

/-- The order of the names: by their bytes. -/
def leB (a b : ByteArray) : Prop := a.data.toList ≤ b.data.toList

theorem leB_dec (a b : ByteArray) : (Op.bytesLess a.toList b.toList || a.toList == b.toList) = decide (a.data.toList ≤ b.data.toList) := by
  rw [ByteArray.toList_eq, ByteArray.toList_eq, bytesLess_eq]
  rcases h : decide (a.data.toList ≤ b.data.toList) with _ | _
  · have h' := of_decide_eq_false h
    have h2 : b.data.toList < a.data.toList := List.not_le.1 h'
    have h3 : ¬ a.data.toList < b.data.toList := fun c => List.lt_irrefl _ (List.lt_trans h2 c)
    have h4 : ¬ a.data.toList = b.data.toList := fun c => by rw [c] at h2; exact List.lt_irrefl _ h2
    simp [h3]
    exact fun e => h4 (by rw [e])
  · have h' := of_decide_eq_true h
    rcases List.le_iff_lt_or_eq.1 h' with c | c
    · simp [c]
    · simp [c]

theorem leB_trans {a b c : ByteArray} (h : leB a b) (k : leB b c) : leB a c := List.le_trans h k
theorem leB_total (a b : ByteArray) : leB a b ∨ leB b a := List.le_total _ _

/-- L: the names of the ids zs, in order. -/
def NmIs (nm : Nat → ByteArray) (zs : List Int) (L : List ByteArray) : Prop := L.Pairwise leB ∧ L.Perm (zs.map fun z => nm z.toNat)

theorem NmIs.eq {nm : Nat → ByteArray} {zs : List Int} {L : List ByteArray} (h : NmIs nm zs L) : L.map (fun a => a.data.toList) = srtN nm zs := by
  refine List.Perm.eq_of_pairwise (le := fun x y : List UInt8 => x ≤ y) (fun a b _ _ h1 h2 => List.le_antisymm h1 h2) ?_ ?_ ?_
  · exact List.pairwise_map.2 h.1
  · have := List.pairwise_mergeSort (le := fun x y : List UInt8 => decide (x ≤ y)) (fun a b c h1 h2 => decide_eq_true (List.le_trans (of_decide_eq_true h1) (of_decide_eq_true h2))) (fun a b => by
      rcases List.le_total a b with h | h
      · simp [h]
      · simp [h]) (zs.map fun z => (nm z.toNat).data.toList)
    exact this.imp fun {x y} hxy => of_decide_eq_true hxy
  · have h1 := h.2.map (fun a : ByteArray => a.data.toList)
    rw [List.map_map] at h1
    exact h1.trans (List.mergeSort_perm _ _).symm

theorem NmIs.snoc {nm : Nat → ByteArray} {zs : List Int} {L : List ByteArray} {z : Int} {j : Nat} (h : NmIs nm zs L) (h1 : ∀ i x, i < j → L[i]? = some x → leB x (nm z.toNat)) (h2 : ∀ i x, j ≤ i → L[i]? = some x → leB (nm z.toNat) x) : NmIs nm (zs ++ [z]) (insF L j (nm z.toNat)) := by
  refine ⟨pair_insF h.1 h1 h2, (perm_insF L j _).trans ?_⟩
  rw [List.map_append]
  exact (List.Perm.cons _ h.2).trans (List.perm_append_comm (l₁ := [nm z.toNat]))

/-- Behind zzNamesOf. -/
def NmPost (w : World) (nm : Nat → ByteArray) (zs : List Int) (e : Ending) (w' : World) : Prop :=
  ∃ (ao : Option Addr) (cap : Nat), e = .returned (.slice ao zs.length cap) ∧ Row w' 0 w'.heap.size ao zs.length (fun i => .string ⟨⟨(srtN nm zs)[i]!⟩⟩) ∧ Gr w w'

set_option maxRecDepth 100000 in
set_option maxHeartbeats 4000000 in
theorem namesOf_any (ia : Option Addr) (ic : Nat) (zs : List Int) (nao : Option Addr) (nn ncap : Nat) (nm : Nat → ByteArray) (w : World) (hn : zs.length ≤ 4096) (h1 : Row w 0 w.heap.size ia zs.length (fun i => .int .i32 zs[i]!)) (h2 : Row w 0 w.heap.size nao nn (fun i => .string (nm i))) (h3 : ∀ z ∈ zs, 0 ≤ z ∧ z < nn) :
    Calls Tryz.prog 22 #[.slice ia zs.length ic, .slice nao nn ncap] w fun e w' => NmPost w nm zs e w' := by
  have H : Hid (Row w 0 w.heap.size ia zs.length (fun i => .int .i32 zs[i]!) ∧ Row w 0 w.heap.size nao nn (fun i => .string (nm i)) ∧ ∀ z ∈ zs, 0 ≤ z ∧ z < nn) := ⟨h1, h2, h3⟩
  clear h1 h2 h3
  have mk : ∀ w : World, (Instr.makeSlice 22 (.int .i64 0) (.int .i64 zs.length)).run Tryz.prog w = .ok (.slice (some ⟨w.heap.size, 0, none⟩) 0 zs.length) (w.alloc (.cells (madeCells #[.string ⟨#[]⟩] zs.length) 9)) := fun w => by
    have := makeK 22 9 (.string ⟨#[]⟩) 1 16 Tryz.underlying22 info9 0 zs.length (by omega) (by omega) (by omega) w
    rw [Nat.mul_one] at this
    exact this
  go_enter Tryz.func22, Tryz.ntmps22
  go_wp2
  clear mk
  go_loopg [5, 7, 8, 9, 15] zs.length (fun gk x5 x7 x8 x9 x15 wr => ∃ (i : Nat) (ao : Option Addr) (cap : Nat) (L : List ByteArray), i ≤ zs.length ∧ gk = zs.length - i ∧ L.length = i ∧ x5 = .slice ao L.length cap ∧ x15 = .int .i64 i ∧ Hid (NmIs nm (zs.take i) L ∧ OR wr w.heap.size 9 ao L.length cap (L.map .string) ∧ Gr w wr))
  case atStart =>
    refine ⟨0, some ⟨w.heap.size, 0, none⟩, zs.length, [], by omega, rfl, rfl, rfl, rfl, ⟨.nil, by simp⟩, ⟨rfl, .inr ⟨w.heap.size, fun _ => .string ⟨#[]⟩, rfl, Nat.le_refl _, Nat.zero_le _, by unfold maxLen; omega, World.rowIs_made w (.string ⟨#[]⟩) zs.length 9, fun j hj => by simp at hj⟩⟩, Gr.of_none (World.grownBy_alloc _ _ _)⟩
  case round =>
    obtain ⟨i, ao, cap, L, hi, hgk, hL, rfl, rfl, HX⟩ := hrel
    by_cases hlt : i < zs.length
    · have hlt' : (i : Int) < (zs.length : Int) := by omega
      obtain ⟨b1, o1, hia, d1⟩ := (HX.out.2.2.row H.out.1).cell (i := i) hlt
      obtain ⟨z, hz⟩ : ∃ z, zs[i]? = some z := ⟨zs[i], List.getElem?_eq_getElem _⟩
      have hzi : zs[i]! = z := by rw [getL _ hlt]; rw [List.getElem?_eq_getElem hlt] at hz; exact Option.some.inj hz
      rw [hzi] at d1
      have hzb := H.out.2.2 z (List.mem_of_getElem? hz)
      obtain ⟨zN, hzN⟩ : ∃ zN : Nat, (zN : Int) = z := ⟨z.toNat, by omega⟩
      have hzn : zN < nn := by omega
      have hzn' : (zN : Int) < (nn : Int) := by omega
      obtain ⟨b2, o2, hna, d2⟩ := (HX.out.2.2.row H.out.2.1).cell (i := zN) hzn
      rw [← hzN] at d1
      obtain ⟨s, hs⟩ : ∃ s, s = nm zN := ⟨_, rfl⟩
      rw [← hs] at d2
      have hsz : s = nm z.toNat := by rw [hs, ← hzN]; rfl
      have hown2 : OR (wr.alloc (.cells #[.string s] 9)) w.heap.size 9 ao L.length cap (L.map .string) := HX.out.2.1.of_block fun g _ hlt => Below.heap_alloc _ _ _ hlt
      have hgs := HX.out.2.2.size
      obtain ⟨g, cap', w5, r5, o5, g5, at5⟩ := appendOR 22 9 (.string ⟨#[]⟩) 16 Tryz.underlying22 info9 rfl (by omega) w.heap.size ao L.length cap _ _ hown2 wr.heap.size 1 [.string s] rfl (by omega) (alloc_new _ _) (fun u hu => by simp at hu; subst hu; rfl) (by omega) (by simp; omega)
      have O5 : Hid (OR w5 w.heap.size 9 (some ⟨g, 0, none⟩) (L.length + 1) cap' (L.map .string ++ [.string s]) ∧ Gr w w5) := ⟨o5, (HX.out.2.2.trans (Gr.of_none (World.grownBy_alloc _ _ _))).own hown2 g5⟩
      have NX : Hid (NmIs nm (zs.take i) L ∧ s = nm z.toNat ∧ zs.take (i + 1) = zs.take i ++ [z]) := ⟨HX.out.1, hsz, by rw [List.take_add_one, hz]; rfl⟩
      have hLb : L.length ≤ 4096 := by omega
      have HLi := Hid.intro hL
      clear hL o5 g5 at5 hown2 hs hsz hz hzi hzb hzN HX hgs
      subst hia
      subst hna
      go_upto_block 2 with (at_builtin; refine Lib.wpList_append_run _ rfl _ _ _ _ rfl _ _ rfl rfl _ _ r5 ?_)
      clear r5 d1 d2
      go_cut [9] (fun x9 wx => ∃ j : Nat, j ≤ L.length ∧ x9 = .int .i64 j ∧ Hid (OR wx w.heap.size 9 (some ⟨g, 0, none⟩) (L.length + 1) cap' (shF (L.map Value.string ++ [.string s]) L.length j) ∧ Gr w wx ∧ (∀ i x, i < j → L[i]? = some x → leB x s) ∧ (∀ i x, j ≤ i → L[i]? = some x → leB s x)))
      case first =>
        go_wp2
        go_loopg [9] L.length (fun gk x9 wq => ∃ j : Nat, j ≤ L.length ∧ gk = j ∧ x9 = .int .i64 j ∧ Hid (OR wq w.heap.size 9 (some ⟨g, 0, none⟩) (L.length + 1) cap' (shF (L.map Value.string ++ [.string s]) L.length j) ∧ Gr w wq ∧ (∀ i x, j ≤ i → L[i]? = some x → leB s x)))
        case atStart => exact ⟨L.length, by omega, rfl, rfl, by rw [shF_start _ (by simp)]; exact O5.out.1, O5.out.2, fun i x hi hx => by rw [List.getElem?_eq_none hi] at hx; cases hx⟩
        case round =>
          clear O5
          obtain ⟨j, hj, hgj, rfl, HO⟩ := hrel
          rcases Nat.eq_zero_or_pos j with h0 | h0
          · subst h0
            go_wp2
            go_meet
            exact ⟨0, by omega, rfl, HO.out.1, HO.out.2.1, fun i x hi => by omega, HO.out.2.2⟩
          · obtain ⟨j', rfl⟩ : ∃ j', j = j' + 1 := ⟨j - 1, by omega⟩
            obtain ⟨y, hy⟩ : ∃ y, L[j']? = some y := ⟨L[j'], List.getElem?_eq_getElem _⟩
            have ey : (L.map Value.string ++ [.string s])[j']! = .string y := by
              rw [getL _ (by simp; omega), List.getElem_append_left (by simp; omega), List.getElem_map]
              rw [List.getElem?_eq_getElem (by omega)] at hy
              rw [Option.some.inj hy]
            have c1 : wr.cell? ⟨g, j', none⟩ = some (.string y) := HO.out.1.at (by rw [shF_get _ (by omega), if_pos (by omega), ey])
            obtain ⟨u, c2⟩ : ∃ u, wr.cell? ⟨g, j' + 1, none⟩ = some u := ⟨_, HO.out.1.at (shF_get _ (by omega))⟩
            have f2 := HO.out.1.frozen (j' + 1)
            have hp : (0 : Int) < (j' : Int) + 1 := by omega
            have hj3 : (j' : Int) < (L.length : Int) + 1 := by omega
            have hj4 : (j' : Int) + 1 < (L.length : Int) + 1 := by omega
            rcases hc : decide (y.data.toList ≤ s.data.toList) with _ | _
            · have hc' : (Op.bytesLess y.toList s.toList || y.toList == s.toList) = false := by rw [leB_dec]; exact hc
              have LE : Hid (leB s y) := by
                rcases leB_total s y with h | h
                · exact h
                · have hc2 : ¬ y.data.toList ≤ s.data.toList := of_decide_eq_false hc
                  exact absurd h hc2
              have OS : Hid (OR (wr.setCell ⟨g, j' + 1, none⟩ (.string y)) w.heap.size 9 (some ⟨g, 0, none⟩) (L.length + 1) cap' (shF (L.map Value.string ++ [.string s]) L.length j') ∧ Gr w (wr.setCell ⟨g, j' + 1, none⟩ (.string y)) ∧ (∀ i x, j' ≤ i → L[i]? = some x → leB s x)) := by
                refine ⟨?_, HO.out.2.1.own HO.out.1 (setCell_grown _ _ _ _), fun i x hi hx => ?_⟩
                · have := shF_step (L.map Value.string ++ [.string s]) (n := L.length) (m := j' + 1) (by omega) hj
                  rw [show j' + 1 - 1 = j' from rfl, ey] at this
                  rw [← this]
                  exact HO.out.1.setAt (by omega) _
                · by_cases e : i = j'
                  · subst e; rw [hy] at hx; cases hx; exact LE.out
                  · exact HO.out.2.2 i x (by omega) hx
              clear hc hy ey HO LE
              go_wp2
              go_roundg j'
              case measure => omega
              case rel => exact ⟨j', by omega, rfl, by go_num, OS⟩
            · have hc' : (Op.bytesLess y.toList s.toList || y.toList == s.toList) = true := by rw [leB_dec]; exact hc
              have LE : Hid (∀ i x, i < j' + 1 → L[i]? = some x → leB x s) := fun i x hi hx => by
                have hc2 : y.data.toList ≤ s.data.toList := of_decide_eq_true hc
                have h1 : leB y s := hc2
                by_cases e : i = j'
                · subst e; rw [hy] at hx; cases hx; exact h1
                · have hi2 : i < L.length := by omega
                  have hj5 : j' < L.length := by omega
                  have h2 := List.pairwise_iff_getElem.1 NX.out.1.1 i j' hi2 hj5 (by omega)
                  rw [List.getElem?_eq_getElem hi2] at hx
                  rw [List.getElem?_eq_getElem hj5] at hy
                  rw [Option.some.inj hx, Option.some.inj hy] at h2
                  exact leB_trans h2 h1
              clear hc hy ey
              go_wp2
              go_meet
              exact ⟨j' + 1, hj, by go_num, HO.out.1, HO.out.2.1, LE.out, HO.out.2.2⟩
      case rest =>
        obtain ⟨j, hj, rfl, HO⟩ := hcut
        obtain ⟨u, c2⟩ : ∃ u, wc.cell? ⟨g, j, none⟩ = some u := ⟨_, HO.out.1.at (shF_get _ (by omega))⟩
        have f2 := HO.out.1.frozen j
        have hj4 : (j : Int) < (L.length : Int) + 1 := by omega
        have FIN : Hid (NmIs nm (zs.take (i + 1)) (insF L j s) ∧ OR (wc.setCell ⟨g, j, none⟩ (.string s)) w.heap.size 9 (some ⟨g, 0, none⟩) (L.length + 1) cap' ((insF L j s).map .string) ∧ Gr w (wc.setCell ⟨g, j, none⟩ (.string s)) ∧ (insF L j s).length = L.length + 1) := by
          refine ⟨?_, ?_, HO.out.2.1.own HO.out.1 (setCell_grown _ _ _ _), insF_len L s hj⟩
          · rw [NX.out.2.2]
            have e := NX.out.2.1
            rw [e]
            exact NX.out.1.snoc (by rw [← e]; exact HO.out.2.2.1) (by rw [← e]; exact HO.out.2.2.2)
          · have hm : (insF L j s).map Value.string = insF (L.map Value.string) j (Value.string s) := by simp [insF, List.map_take, List.map_drop]
            rw [hm, ← shF_end (n := L.length) _ (.string s) _ (by simp) hj]
            exact HO.out.1.setAt (by omega) _
        clear HO O5 NX
        go_wp2
        go_roundg (zs.length - (i + 1))
        case measure => omega
        case rel => exact ⟨i + 1, some ⟨g, 0, none⟩, cap', insF L j s, by omega, rfl, by rw [FIN.out.2.2.2, HLi.out], by rw [FIN.out.2.2.2], by go_num, FIN.out.1, by rw [FIN.out.2.2.2]; exact FIN.out.2.1, FIN.out.2.2.1⟩
    · obtain rfl : zs.length = i := by omega
      go_wp2
      go_ret
      rw [hL]
      refine ⟨ao, cap, rfl, ?_, HX.out.2.2⟩
      have ho := HX.out.2.1.rowOf
      rw [hL] at ho
      refine ho.congr fun k hk => ?_
      have hk2 : k < L.length := by omega
      have he := HX.out.1.eq
      rw [List.take_length] at he
      rw [getL _ (by simpa using hk2), List.getElem_map, ← he, getL _ (by simpa using hk2), List.getElem_map]
end Go.Proofs.Qxb6618911aGreat
