/-
  WALKS, NINTH PART: zzs4705csendsok; checkNode, newHighestWishes, NewBroadcastBased.
-/
import Derived.Test.YbulkcskmFmtWg
namespace Go.Proofs.YbulkcskmFmt
open Go.RowKit Go.Lib
attribute [local go_sem ↓] Go.wp_at_zero Go.wp_at_succ

theorem sendCells_len (to V : Int) (sg : Value) : (sendCells to V sg).length = 7 := rfl
theorem sentTo_len (self : Nat) (V : Int) (sg : Value) (k : Nat) : (sentTo self V sg k).length = (others self k).length * 7 := by
  unfold sentTo
  generalize others self k = l
  induction l with
  | nil => rfl
  | cons a l ih => simp [List.flatMap_cons, ih, sendCells_len]; omega
theorem sentTo_split {self V} {sg : Value} : ∀ {n i : Nat}, i < n → i ≠ self → ∃ rest, sentTo self V sg n = sentTo self V sg i ++ (sendCells i V sg ++ rest)
  | 0, i, h, _ => by omega
  | n + 1, i, h, hne => by
    by_cases hin : i = n
    · subst hin
      exact ⟨[], by rw [sentTo_succ V sg hne]; simp⟩
    · obtain ⟨rest, hr⟩ := sentTo_split (self := self) (V := V) (sg := sg) (n := n) (i := i) (by omega) hne
      by_cases hs : n = self
      · subst hs
        exact ⟨rest, by rw [sentTo_self]; exact hr⟩
      · exact ⟨rest ++ sendCells n V sg, by rw [sentTo_succ V sg hs, hr]; simp⟩
theorem sentTo_at {self n i start : Nat} {V : Int} {sg : Value} {xs1 xs2 : List Value} (h1 : xs1.length = start * 7) (hi : i < n) (hne : i ≠ self) (j : Nat) (hj : j < 7) :
    (xs1 ++ sentTo self V sg n ++ xs2)[(start + (others self i).length) * 7 + j]? = (sendCells i V sg)[j]? := by
  obtain ⟨rest, hr⟩ := sentTo_split (self := self) (V := V) (sg := sg) hi hne
  have hl := sentTo_len self V sg i
  have hc := sendCells_len i V sg
  rw [hr]
  rw [List.append_assoc, List.getElem?_append_right (by omega)]
  rw [List.append_assoc, List.getElem?_append_right (by omega)]
  rw [List.append_assoc, List.getElem?_append_left (by omega)]
  congr 1
  omega

theorem sig_cells {w : World} {g : Nat} {tag a m : Int} (h : w.heap[g]? = some (.cells #[.int .u8 tag, .int .u8 a, .int .u8 m] 5 (0,0))) :
    ∀ i, i < [tag, a, m].length → w.cell? ⟨g, 0 + i, none⟩ = some (.int .u8 ([tag, a, m].getD i 0)) := by
  intro i hi
  rw [Nat.zero_add, cell_at h]
  match i, hi with
  | 0, _ => rfl
  | 1, _ => rfl
  | 2, _ => rfl

set_option maxRecDepth 100000 in
set_option maxHeartbeats 4000000 in
theorem sendsok_any (B hb start nn self total gg sq c2 : Nat) (V tag m : Int) (w : World) (sends prop x y : Value) (xs1 xs2 : List Value)
    (hh : w.heap[hb]? = some (.cells #[sends, prop, x, y] 29 (0,0))) (hsends : w.ownsRow B 71 7 sends total (xs1 ++ sentTo self V (.slice (some ⟨gg, 0, none⟩) 3 3) nn ++ xs2)) (h1 : xs1.length = start * 7)
    (hsig : w.heap[gg]? = some (.cells #[.int .u8 tag, .int .u8 35, .int .u8 m] 5 (0,0))) (hsq : w.heap[sq]? = some (.cells #[.int .u8 tag, .int .u8 35, .int .u8 m] 5 (0,0))) (hst : start ≤ 1000) (hnn : nn ≤ 1000) :
    Calls Ybaf.prog 8 #[.pointer (some ⟨hb, 0, none⟩), .int .i64 start, .int .i64 nn, .int .i64 self, .int .u64 V, .slice (some ⟨sq, 0, none⟩) 3 c2] w
      fun e w' => e = .returned (.bool true) ∧ Upd [] w w' := by
  have hat := fun (i : Nat) (hi : i < nn) (hne : i ≠ self) => sentTo_at (V := V) (sg := .slice (some ⟨gg, 0, none⟩) 3 3) (xs2 := xs2) h1 hi hne
  have Hat : Hid (∀ (i : Nat), i < nn → i ≠ self → ∀ j, j < 7 → (xs1 ++ sentTo self V (.slice (some ⟨gg, 0, none⟩) 3 3) nn ++ xs2)[(start + (others self i).length) * 7 + j]? = (sendCells i V (.slice (some ⟨gg, 0, none⟩) 3 3))[j]?) := hat
  have hlen := hsends.1
  have Hlen : Hid ((xs1 ++ sentTo self V (.slice (some ⟨gg, 0, none⟩) 3 3) nn ++ xs2).length = total * 7) := hlen
  clear hat hlen
  have Hsends : Hid (w.ownsRow B 71 7 sends total (xs1 ++ sentTo self V (.slice (some ⟨gg, 0, none⟩) 3 3) nn ++ xs2)) := hsends
  have Hh : Hid (w.heap[hb]? = some (.cells #[sends, prop, x, y] 29 (0,0))) := hh
  have Hsig : Hid (w.heap[gg]? = some (.cells #[.int .u8 tag, .int .u8 35, .int .u8 m] 5 (0,0))) := hsig
  have Hsq : Hid (w.heap[sq]? = some (.cells #[.int .u8 tag, .int .u8 35, .int .u8 m] 5 (0,0))) := hsq
  clear hsends hh hsig hsq h1
  go_enter Ybaf.func8, Ybaf.ntmps8
  go_wp2_with fail
  go_loopw [13, 14] (fun kk i wr => ∃ (j : Nat), j ≤ nn ∧ i = .int .i64 j ∧ kk = .int .i64 ((start + (others self j).length : Nat) : Int) ∧ Hid (Upd [] w wr)) (fun _ i _ => nn - (intOf i).toNat)
  case atStart => exact ⟨0, by omega, rfl, by simp [others], Upd.refl _ _⟩
  case round =>
    obtain ⟨i, hi, rfl, rfl, hur⟩ := hrel
    have hol := others_len self i
    by_cases hlt' : i < nn
    · by_cases hks : i = self
      · subst hks
        have hne : ((i : Int) == (i : Int)) = true := by simp
        go_wp2
        go_roundw
        case rel => exact ⟨i + 1, by omega, by go_num, (by rw [others_self]), hur⟩
        case measure => simp [intOf]; omega
      · have hne : ((i : Int) == (self : Int)) = false := by simp; omega
        have hcells := Hat.out i hlt' hks
        have htot : (start + (others self i).length) < total := by
          have h0 := hcells 6 (by omega)
          have h2 : (start + (others self i).length) * 7 + 6 < total * 7 := by
            rw [← Hlen.out]
            exact (List.getElem?_eq_some_iff.1 (h0.trans rfl)).1
          omega
        obtain ⟨sg, cap, hsv, _, _⟩ := Hsends.out.form (by omega)
        obtain ⟨k, hk⟩ : ∃ k, k = start + (others self i).length := ⟨_, rfl⟩
        have HK : Hid (k = start + (others self i).length) := hk
        rw [← hk] at hcells htot
        rw [← hk]
        have hkb : k ≤ 2000 := by omega
        clear hk
        have hown := Hsends.out
        rw [hsv] at hown
        have hc : ∀ j u, j < 7 → (sendCells i V (.slice (some ⟨gg, 0, none⟩) 3 3))[j]? = some u → wr.cell? ⟨sg, k * 7 + j, none⟩ = some u := by
          intro j u hj hu
          refine hur.out.cell ?_ (by simp)
          rw [hown.cellAt (k * 7 + j) (by omega), hcells j hj]
          exact hu
        have a0 : wr.cell? ⟨sg, k * 7, none⟩ = some (.int .i64 i) := hc 0 _ (by omega) rfl
        have a1 : wr.cell? ⟨sg, k * 7 + 1, none⟩ = some (.int .u8 1) := hc 1 _ (by omega) rfl
        have a2 : wr.cell? ⟨sg, k * 7 + 2, none⟩ = some (.int .u64 V) := hc 2 _ (by omega) rfl
        have a3 : wr.cell? ⟨sg, k * 7 + 3, none⟩ = some (.int .u64 0) := hc 3 _ (by omega) rfl
        have a4 : wr.cell? ⟨sg, k * 7 + 4, none⟩ = some (.slice none 0 0) := hc 4 _ (by omega) rfl
        have a5 : wr.cell? ⟨sg, k * 7 + 5, none⟩ = some (.bool false) := hc 5 _ (by omega) rfl
        have a6 : wr.cell? ⟨sg, k * 7 + 6, none⟩ = some (.slice (some ⟨gg, 0, none⟩) 3 3) := hc 6 _ (by omega) rfl
        have hhr : wr.cell? ⟨hb, 0, none⟩ = some (.slice (some ⟨sg, 0, none⟩) total cap) := by rw [cell_at (hur.out.keep Hh.out (by simp)), hsv]; rfl
        clear hc hcells hown hsv
        have b1 : (0 : Int) ≤ (k : Int) := by omega
        have b2 : (k : Int) < (total : Int) := by omega
        go_wp2_with fail
        have hg2 := hur.out.keep Hsig.out (by simp)
        have hq2 := hur.out.keep Hsq.out (by simp)
        have q1 := sig_cells (heap_past hg2 (.cells #[.int .i64 i, .int .u8 1, .int .u64 V, .int .u64 0, .slice none 0 0, .bool false, .slice (some ⟨gg, 0, none⟩) 3 3] 71))
        have q2 := sig_cells (heap_past hq2 (.cells #[.int .i64 i, .int .u8 1, .int .u64 V, .int .u64 0, .slice none 0 0, .bool false, .slice (some ⟨gg, 0, none⟩) 3 3] 71))
        refine (beq_true gg 0 3 sq 0 c2 [tag, 35, m] _ (by simp) q1 q2).mono ?_
        rintro e wn ⟨rfl, nd, rfl⟩
        clear q1 q2 hg2 hq2 a0 a1 a2 a3 a4 a5 a6 hhr
        go_wp2
        go_roundw
        case rel => exact ⟨i + 1, by omega, by go_num, (by rw [others_succ hks, List.length_append, ← Nat.add_assoc, ← HK.out]; go_num), (Upd.alloc hur.out _).drewN _⟩
        case measure => simp [intOf]; omega
    · go_wp2
      go_ret
      exact ⟨rfl, hur.out⟩

set_option maxRecDepth 100000 in
set_option maxHeartbeats 1000000 in
theorem newHighest_any (n : Nat) (w : World) (hn : n ≤ 1000) :
    Calls Ybaf.prog 12 #[.int .i64 n] w
      fun e w' => ∃ gh, e = .returned (.agg #[.slice (some ⟨gh, 0, none⟩) n n, .slice none 0 0]) ∧ w.heap.size ≤ gh ∧ (∃ harr : Array Value, w'.heap[gh]? = some (.cells harr 37 (0,0)) ∧ harr.size = n ∧ ∀ i, i < n → harr[i]? = some (.int .u64 0)) ∧ Upd [] w w' := by
  obtain ⟨i0, hi, hz0, hz1, hz2⟩ := info_parts Ybaf.info37
  have tok1 : True := trivial
  go_enter Ybaf.func12, Ybaf.ntmps12
  go_wp2_with (at_make; clear tok1; go_must (refine wpList_make_full _ (by rfl) _ _ _ (by rfl) 0 37 i0 _ 1 Ybaf.underlying27 hi hz0 hz1 .i64 .i64 _ _ n (by rfl) (by rfl) (by rfl) (by rfl) (by rw [hz2]; omega) (by unfold maxLen; omega) (Nat.zero_le _) ?_); intro w1 hown1 hgrow1; have hc1 : w1.heap[w.heap.size]? = some (.cells #[.slice none 0 0, .slice none 0 0] 49 (0,0)) := (hgrow1.block _ (by simp) (by simp)).trans (heap_last w _ _ rfl); have q0 : w1.cell? ⟨w.heap.size, 0, none⟩ = some (.slice none 0 0) := cell_at hc1 0; have q1 : w1.cell? ⟨w.heap.size, 1, none⟩ = some (.slice none 0 0) := cell_at hc1 1; have f0 := free_at hc1 0; have f1 := free_at hc1 1; have Hc1 : Hid (w1.heap[w.heap.size]? = some (.cells #[.slice none 0 0, .slice none 0 0] 49 (0,0))) := hc1; clear hc1)
  refine bodyPost_ret (v := .agg #[.slice (some ⟨w.heap.size + 1, 0, none⟩) n n, .slice none 0 0]) (by simp [results, Ybaf.results12, go_sem, q0, q1]) rfl ?_
  simp only [World.size_alloc] at hown1
  obtain ⟨cur, hcur, hcs, _, _, hct, _⟩ := owns_open hown1
  have hU : Upd [w.heap.size] w1 ((w1.setCell ⟨w.heap.size, 0, none⟩ (.slice (some ⟨w.heap.size + 1, 0, none⟩) n n)).setCell ⟨w.heap.size, 1, none⟩ (.slice none 0 0)) := Upd.setCell (Upd.setCell (Upd.refl _ w1) (.inl (by simp)) _) (.inl (by simp)) _
  refine ⟨w.heap.size + 1, rfl, by omega, ⟨cur, hU.keep hcur (by simp), by omega, ?_⟩, ?_⟩
  · intro i hi'
    have h1 : (cur.toList.take (n * 1))[i]? = (List.replicate n (Value.int .u64 0))[i]? := by
      rw [hct]
      show (madeCells #[Value.int .u64 0] (n * 1)).toList[i]? = _
      rw [toList_madeCells_one, Nat.mul_one]
    rw [List.getElem?_take, if_pos (by omega), List.getElem?_replicate, if_pos hi'] at h1
    simpa using h1
  · exact Upd.transTo (Upd.grown (Upd.alloc (Upd.refl [] w) _) hgrow1 (by simp)) hU (by intro j hj; simp at hj; exact .inr (by omega))

set_option maxRecDepth 100000 in
set_option maxHeartbeats 1000000 in
theorem checkNode_any (gb : Nat) (s : ByteArray) (self n f : Int) (w : World) (h0 : 0 ≤ self) (h1 : self < n) (h2 : 0 ≤ f) (h3 : f ≤ (n - 1) / 2) (hn : n ≤ 1000) :
    Calls Ybaf.prog 11 #[.string s, .iface 30 (.pointer (some ⟨gb, 0, none⟩)), .int .i64 self, .int .i64 n, .int .i64 f] w
      fun e w' => e = .returned (.tuple #[]) ∧ w' = w := by
  have g1 : ¬ self < 0 := by omega
  have g2 : ¬ n ≤ self := by omega
  have g3 : ¬ f < 0 := by omega
  have g4 : ¬ (n - 1) / 2 < f := by omega
  have hn1 : 1 ≤ n := by omega
  go_enter Ybaf.func11, Ybaf.ntmps11
  go_wp2
  go_end0
  exact ⟨rfl, rfl⟩

set_option maxRecDepth 100000 in
set_option maxHeartbeats 1000000 in
theorem new_any (hb gb n : Nat) (self f : Int) (w : World) (h0 : 0 ≤ self) (h1 : self < n) (h2 : 0 ≤ f) (h3 : f ≤ ((n : Int) - 1) / 2) (hn : n ≤ 1000) :
    Calls Ybaf.prog 5 #[.iface 25 (.pointer (some ⟨hb, 0, none⟩)), .iface 30 (.pointer (some ⟨gb, 0, none⟩)), .int .i64 self, .int .i64 n, .int .i64 f] w
      fun e w' => ∃ sb gh, e = .returned (.pointer (some ⟨sb, 0, none⟩)) ∧ w'.heap[sb]? = some (.cells (sCells hb gb (.slice none 0 0) self n f 0 (.slice (some ⟨gh, 0, none⟩) n n) (.slice none 0 0)) 51 (0,0)) ∧
        w.heap.size ≤ sb ∧ w.heap.size ≤ gh ∧ (∃ harr : Array Value, w'.heap[gh]? = some (.cells harr 37 (0,0)) ∧ harr.size = n ∧ ∀ i, i < n → harr[i]? = some (.int .u64 0)) ∧ Upd [] w w' := by
  go_enter Ybaf.func5, Ybaf.ntmps5
  go_wp2_with fail
  refine (checkNode_any gb _ self n f w h0 h1 h2 h3 (by omega)).mono ?_
  rintro e w1 ⟨rfl, rfl⟩
  go_wp2_with fail
  refine (newHighest_any n w1 hn).mono ?_
  rintro e w2 ⟨gh, rfl, hgh, ⟨harr, hh, hhs, hha⟩, hu⟩
  have Hh : Hid (w2.heap[gh]? = some (.cells harr 37 (0,0)) ∧ harr.size = n ∧ ∀ i, i < n → harr[i]? = some (.int .u64 0)) := ⟨hh, hhs, hha⟩
  clear hh hhs hha
  go_wp2
  go_ret
  exact ⟨w2.heap.size, gh, rfl, heap_last w2 _ _ rfl, hu.size, hgh, ⟨harr, heap_past Hh.out.1 _, Hh.out.2.1, Hh.out.2.2⟩, Upd.alloc hu _⟩
end Go.Proofs.YbulkcskmFmt
