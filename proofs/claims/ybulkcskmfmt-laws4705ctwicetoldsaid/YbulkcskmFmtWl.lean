/-
  WALKS, TWELFTH PART: the law LawS4705CTwice.
-/
import Derived.Test.YbulkcskmFmtWk
namespace Go.Proofs.YbulkcskmFmt
open Go.RowKit Go.Lib
attribute [local go_sem ↓] Go.wp_at_zero Go.wp_at_succ

set_option maxRecDepth 100000 in
set_option maxHeartbeats 2000000 in
theorem twice_any (N Self F V1 V2 Tag : Int) (w : World) (hN : 0 ≤ N) (hN2 : N ≤ 65535) (hS : 0 ≤ Self) (hS2 : Self ≤ 65535) (hF : 0 ≤ F) (hF2 : F ≤ 65535) (hV : 0 ≤ V1) (hV2 : V1 ≤ 18446744073709551615) (hW : 0 ≤ V2) (hW2 : V2 ≤ 18446744073709551615) :
    Calls Ybaf.prog 4 #[.int .u16 N, .int .u16 Self, .int .u16 F, .int .u64 V1, .int .u64 V2, .int .u8 Tag] w
      fun e w' => e = .returned (.bool true) ∧ Below w.heap.size w w' := by
  have d1 : ((N % 510 + 3) == 0) = false := by simp; omega
  have d2 : (((N % 510 + 3 - 1) / 2) == 0) = false := by simp; omega
  have d3 : ((N % 510 + 3 - 1) / 2) = N % 510 / 2 + 1 := by omega
  obtain ⟨nn, hnn⟩ : ∃ nn : Nat, N % 510 + 3 = (nn : Int) := ⟨(N % 510 + 3).toNat, by omega⟩
  have hn1 : 3 ≤ nn := by omega
  have hn2 : nn ≤ 512 := by omega
  have hme0 := Int.emod_nonneg Self (show N % 510 + 3 ≠ 0 by omega)
  have hme1 := Int.emod_lt_of_pos Self (show 0 < N % 510 + 3 by omega)
  obtain ⟨me, hme⟩ : ∃ me : Nat, Self % (N % 510 + 3) = (me : Int) := ⟨(Self % (N % 510 + 3)).toNat, by omega⟩
  have hf0 := Int.emod_nonneg F (show N % 510 / 2 + 1 ≠ 0 by omega)
  have hf1 := Int.emod_lt_of_pos F (show 0 < N % 510 / 2 + 1 by omega)
  obtain ⟨ff, hff⟩ : ∃ ff : Int, 1 + F % (N % 510 / 2 + 1) = ff := ⟨_, rfl⟩
  have hmn : me < nn := by omega
  have hffb : ff ≤ ((nn : Int) - 1) / 2 := by omega
  have hff1 : 1 ≤ ff := by omega
  have hff2 : ff ≤ 1000 := by omega
  have E1 : Hid (N % 510 + 3 = (nn : Int)) := hnn
  have E2 : Hid (Self % (N % 510 + 3) = (me : Int)) := hme
  have E3 : Hid (1 + F % (N % 510 / 2 + 1) = ff) := hff
  clear hnn hme hff hme0 hme1
  go_enter Ybaf.func4, Ybaf.ntmps4
  go_wp2_with fail
  rw [E2.out, E3.out, E1.out]
  clear d1 d2 d3 hf0 hf1
  generalize hw0 : ((w.alloc (.cells #[.slice none 0 0, .slice none 0 0, .int .i64 0, .int .i64 0] 29)).alloc (.cells #[.int .u8 Tag, .slice none 0 0, .int .i64 0] 33)) = w0
  have hh0 : w0.heap[w.heap.size]? = some (.cells #[.slice none 0 0, .slice none 0 0, .int .i64 0, .int .i64 0] 29 (0,0)) := by rw [← hw0]; exact heap_past (heap_last w _ _ rfl) _
  have hg0 : w0.heap[w.heap.size + 1]? = some (.cells #[.int .u8 Tag, .slice none 0 0, .int .i64 0] 33 (0,0)) := by rw [← hw0]; exact heap_last (w.alloc _) _ _ (by simp)
  have hU0 : Upd [] w w0 := by rw [← hw0]; exact Upd.alloc (Upd.alloc (Upd.refl [] w) _) _
  have hz0 : w0.heap.size = w.heap.size + 2 := by rw [← hw0]; simp
  clear hw0
  obtain ⟨hb, hhb⟩ : ∃ hb, w.heap.size = hb := ⟨_, rfl⟩
  rw [hhb] at hh0 hg0 hz0 ⊢
  have Ehb : Hid (w.heap.size = hb) := hhb
  have hhb2 : hb ≤ w.heap.size := by omega
  clear hhb
  have Hh0 : Hid (w0.heap[hb]? = some (.cells #[.slice none 0 0, .slice none 0 0, .int .i64 0, .int .i64 0] 29 (0,0))) := hh0
  have Hg0 : Hid (w0.heap[hb + 1]? = some (.cells #[.int .u8 Tag, .slice none 0 0, .int .i64 0] 33 (0,0))) := hg0
  have HU0 : Hid (Upd [] w w0) := hU0
  clear hh0 hg0 hU0
  refine (new_any hb (hb + 1) nn me ff w0 (by omega) (by omega) (by omega) hffb (by omega)).mono ?_
  rintro e w1 ⟨sb, gh, rfl, hs1, hsb, hgh, ⟨harr, hha, hhs, hh00⟩, hu1⟩
  have HN0 : Hid (Nd hb hb (hb + 1) sb gh me nn Tag ff 0 0 0 0 [] [] [] w1 (.slice none 0 0) (.slice none 0 0) (.slice none 0 0) (.slice none 0 0) 0 [] harr) :=
    ⟨hs1, hu1.keep Hg0.out (by simp), hu1.keep Hh0.out (by simp), World.ownsRow_nil _ _ _ _, World.ownsRow_nil _ _ _ _, World.ownsRow_nil _ _ _ _, hha, hhs, hh00 me hmn, .inl ⟨rfl, rfl⟩, by simp⟩
  have B1 : Hid (Below hb w w1) := (HU0.out.transTo hu1 (by simp)).below hhb2 (by simp)
  have hsz1 : hb ≤ w1.heap.size := by have := hu1.size; omega
  have hsb' : hb ≤ sb := by omega
  have hgh' : hb ≤ gh := by omega
  clear hs1 hha hhs hh00 hu1 Hh0 Hg0 HU0 hsb hgh
  go_wp2_with fail
  refine (wish_top hb hb (hb + 1) sb gh me nn Tag ff 0 V1 0 0 0 [] [] [] w1 _ _ _ _ 0 [] harr HN0.out hsz1 hsb' (by omega) (Nat.le_refl _) hgh' hff1 hff2 hV hV2 (Int.le_refl _) hmn hn2 (by omega) (by omega)).mono ?_
  rintro e w2 ⟨rfl, gg1, cb1, pv1, sends1, pays1, lv1, bs1, harr1, HN1, hc1, hg1, _, hB2⟩
  have et : (if (0 : Int) < V1 then V1 else 0) = V1 := by by_cases h : 0 < V1 <;> simp [h]; omega
  rw [et] at HN1
  have HN1' : Hid (Nd hb hb (hb + 1) sb gh me nn Tag ff V1 (0 + (others me nn).length) (0 + 1) (if (0 : Int) < V1 then gg1 else 0) ([] ++ sentTo me V1 (.slice (some ⟨gg1, 0, none⟩) 3 3) nn) ([] ++ [.slice (some ⟨cb1, 0, none⟩) 35 35]) [cb1, gg1] w2 pv1 sends1 pays1 lv1 35 bs1 harr1) := HN1
  have Hc1 : Hid (w2.heap[cb1]? = some (.cells (payCells V1).toArray 5 (0,0))) := hc1
  have Hg1 : Hid (w2.heap[gg1]? = some (.cells #[.int .u8 Tag, .int .u8 35, .int .u8 0] 5 (0,0))) := hg1
  have B2 : Hid (Below hb w w2) := B1.out.trans hB2
  have hsz2 : hb ≤ w2.heap.size := by have := hB2.size; omega
  have hol := others_len me nn
  have Hol : Hid ((others me nn).length ≤ nn) := hol
  clear HN1 hc1 hg1 hB2 HN0 B1 et hol
  go_wp2_with fail
  refine (wish_top hb hb (hb + 1) sb gh me nn Tag ff V1 V2 _ _ _ _ _ [cb1, gg1] w2 pv1 sends1 pays1 lv1 35 bs1 harr1 HN1'.out hsz2 hsb' (by omega) (Nat.le_refl _) hgh' hff1 hff2 hW hW2 hV hmn hn2 (by omega) (by have := Hol.out; omega)).mono ?_
  rintro e w3 ⟨rfl, gg2, cb2, pv2, sends2, pays2, lv2, bs2, harr2, HN2, hc2, hg2, hk2, hB3⟩
  have Hs3 : Hid (w3.heap[sb]? = some (.cells (sCells hb (hb + 1) pv2 me nn ff 0 (.slice (some ⟨gh, 0, none⟩) nn nn) lv2) 51 (0,0))) := HN2.s
  have Hg3 : Hid (w3.heap[hb + 1]? = some (.cells #[.int .u8 Tag, pays2, .int .i64 0] 33 (0,0))) := HN2.g
  have Hh3 : Hid (w3.heap[hb]? = some (.cells #[sends2, .slice none 0 0, .int .i64 0, .int .i64 0] 29 (0,0))) := HN2.h
  have Hpays : Hid (w3.ownsRow hb 39 1 pays2 2 [.slice (some ⟨cb1, 0, none⟩) 35 35, .slice (some ⟨cb2, 0, none⟩) 35 35]) := HN2.pays
  have Hsent := HN2.sent
  have Hhi : Hid (w3.heap[gh]? = some (.cells harr2 37 (0,0))) := HN2.hi
  have Hht : Hid (harr2[me]? = some (.int .u64 (if V1 < V2 then V2 else V1))) := HN2.hit
  have Hlv : Hid (Lv hb me (if V1 < V2 then gg2 else if (0 : Int) < V1 then gg1 else 0) (if V1 < V2 then V2 else V1) lv2 w3) := HN2.lvl
  have Hc31 : Hid (w3.heap[cb1]? = some (.cells (payCells V1).toArray 5 (0,0))) := hk2 cb1 (by simp) _ Hc1.out
  have Hg31 : Hid (w3.heap[gg1]? = some (.cells #[.int .u8 Tag, .int .u8 35, .int .u8 0] 5 (0,0))) := hk2 gg1 (by simp) _ Hg1.out
  have Hc32 : Hid (w3.heap[cb2]? = some (.cells (payCells V2).toArray 5 (0,0))) := hc2
  have Hg32 : Hid (w3.heap[gg2]? = some (.cells #[.int .u8 Tag, .int .u8 35, .int .u8 1] 5 (0,0))) := hg2
  have B3 : Hid (Below hb w w3) := B2.out.trans hB3
  have hcnt := others_count hmn
  obtain ⟨tt, htt⟩ : ∃ tt, (others me nn).length = tt := ⟨_, rfl⟩
  have Htt : Hid ((others me nn).length = tt) := htt
  rw [htt] at hcnt Hsent
  obtain ⟨sa, sc, hsv, _⟩ := owns_slice Hsent
  subst hsv
  have Hsent3 : Hid (w3.ownsRow hb 71 7 (.slice sa (0 + tt + tt) sc) (0 + tt + tt) (sentTo me V1 (.slice (some ⟨gg1, 0, none⟩) 3 3) nn ++ sentTo me V2 (.slice (some ⟨gg2, 0, none⟩) 3 3) nn)) := by
    have h := Hsent
    show w3.ownsRow _ _ _ _ _ _
    simpa using h
  obtain ⟨yb, yc, hyv, _, _⟩ := Hpays.out.form (by omega)
  subst hyv
  clear HN2 hc2 hg2 hk2 hB3 HN1' Hc1 Hg1 B2 Hsent htt
  have t0 : 0 + tt + tt = 2 * tt := by omega
  rw [t0] at Hsent3 Hh3
  clear t0
  have y1 : w3.cell? ⟨hb + 1, 1, none⟩ = some (.slice (some ⟨yb, 0, none⟩) 2 yc) := cell_at Hg3.out 1
  have y2 : w3.cell? ⟨hb + 1, 2, none⟩ = some (.int .i64 0) := cell_at Hg3.out 2
  have y3 : w3.cell? ⟨yb, 0, none⟩ = some (.slice (some ⟨cb1, 0, none⟩) 35 35) := Hpays.out.cellAt 0 (by omega)
  go_wp2_with fail
  refine (pok_any cb1 35 V1 w3 hV hV2 Hc31.out).mono ?_
  rintro e w4 ⟨rfl, hu4⟩
  clear y1 y2 y3
  have y1 : w4.cell? ⟨hb + 1, 1, none⟩ = some (.slice (some ⟨yb, 0, none⟩) 2 yc) := cell_at (hu4.keep Hg3.out (by simp)) 1
  have y3 : w4.cell? ⟨yb, 1, none⟩ = some (.slice (some ⟨cb2, 0, none⟩) 35 35) := (hu4.owns Hpays.out (by simp)).cellAt 1 (by omega)
  go_wp2_with fail
  refine (pok_any cb2 35 V2 w4 hW hW2 (hu4.keep Hc32.out (by simp))).mono ?_
  rintro e w5 ⟨rfl, hu5'⟩
  clear y1 y3
  have hu5 : Hid (Upd [] w3 w5) := hu4.transTo hu5' (by simp)
  clear hu4 hu5'
  have hh5 : Hid (w5.heap[hb]? = some (.cells #[.slice sa (2 * tt) sc, .slice none 0 0, .int .i64 0, .int .i64 0] 29 (0,0))) := hu5.out.keep Hh3.out (by simp)
  have z0 : w5.cell? ⟨hb, 0, none⟩ = some (.slice sa (2 * tt) sc) := cell_at hh5.out 0
  have z1 : w5.cell? ⟨hb, 1, none⟩ = some (.slice none 0 0) := cell_at hh5.out 1
  have z5 : w5.cell? ⟨sb, 6, none⟩ = some (.int .u64 0) := cell_at (hu5.out.keep Hs3.out (by simp)) 6
  have zl : hb < w5.heap.size := lt_of_heap hh5.out
  have zs : sb < w5.heap.size := lt_of_heap (hu5.out.keep Hs3.out (by simp))
  have t1 : (tt : Int) = (nn : Int) - 1 := by omega
  go_wp2_with fail
  have hsz5 : hb ≤ w5.heap.size := by omega
  have hsent5 : Hid (w5.ownsRow hb 71 7 (.slice sa (2 * tt) sc) (2 * tt) (([] : List Value) ++ sentTo me V1 (.slice (some ⟨gg1, 0, none⟩) 3 3) nn ++ sentTo me V2 (.slice (some ⟨gg2, 0, none⟩) 3 3) nn)) := hu5.out.owns Hsent3.out (by simp)
  clear z0 z1 z5
  refine (sendsok_any hb hb 0 nn me (2 * tt) gg1 w5.heap.size 3 V1 Tag 0 _ (.slice sa (2 * tt) sc) _ _ _ [] _ (heap_past (heap_past hh5.out _) _) ((hsent5.out.alloc _).alloc _) rfl (heap_past (heap_past (hu5.out.keep Hg31.out (by simp)) _) _) (heap_past (heap_last w5 _ _ rfl) _) (by omega) (by omega)).mono ?_
  rintro e w6 ⟨rfl, hu6⟩
  have U6 : Hid (Upd [] w5 w6) := (Upd.alloc (Upd.alloc (Upd.refl _ _) _) _).transTo hu6 (by simp)
  have Hq1 : Hid (w6.heap[w5.heap.size]? = some (.cells #[.int .u8 Tag, .int .u8 35, .int .u8 0] 5 (0,0))) := hu6.keep (heap_past (heap_last w5 _ _ rfl) _) (by simp)
  have Hq2 : Hid (w6.heap[w5.heap.size + 1]? = some (.cells #[.int .u8 Tag, .int .u8 35, .int .u8 1] 5 (0,0))) := hu6.keep (heap_last (w5.alloc _) _ _ (by simp)) (by simp)
  generalize w5.heap.size = qb at *
  have U36 : Hid (Upd [] w3 w6) := hu5.out.transTo U6.out (by simp)
  have hh6 : Hid (w6.heap[hb]? = some (.cells #[.slice sa (2 * tt) sc, .slice none 0 0, .int .i64 0, .int .i64 0] 29 (0,0))) := U6.out.keep hh5.out (by simp)
  have hsent6 : Hid (w6.ownsRow hb 71 7 (.slice sa (2 * tt) sc) (2 * tt) (sentTo me V1 (.slice (some ⟨gg1, 0, none⟩) 3 3) nn ++ sentTo me V2 (.slice (some ⟨gg2, 0, none⟩) 3 3) nn ++ [])) := by
    have h := U6.out.owns hsent5.out (by simp)
    show w6.ownsRow _ _ _ _ _ _
    simpa using h
  clear hu5 hu6 hh5 hsent5 U6
  have t2 : (nn : Int) - 1 = (tt : Int) := by omega
  clear t1
  go_wp2_with fail
  refine (sendsok_any hb hb tt nn me (2 * tt) gg2 (qb + 1) 3 V2 Tag 1 w6 (.slice sa (2 * tt) sc) _ _ _ (sentTo me V1 (.slice (some ⟨gg1, 0, none⟩) 3 3) nn) [] hh6.out hsent6.out (by rw [sentTo_len, Htt.out]) (U36.out.keep Hg32.out (by simp)) Hq2.out (by omega) (by omega)).mono ?_
  rintro e w7 ⟨rfl, hu7⟩
  have U37 : Hid (Upd [] w3 w7) := U36.out.transTo hu7 (by simp)
  have Hr1 : Hid (w7.heap[qb]? = some (.cells #[.int .u8 Tag, .int .u8 35, .int .u8 0] 5 (0,0))) := hu7.keep Hq1.out (by simp)
  have Hr2 : Hid (w7.heap[qb + 1]? = some (.cells #[.int .u8 Tag, .int .u8 35, .int .u8 1] 5 (0,0))) := hu7.keep Hq2.out (by simp)
  have B7 : Hid (Below hb w w7) := B3.out.trans (U37.out.below (by have := B3.out.size; omega) (by simp))
  have hs7 : Hid (w7.heap[sb]? = some (.cells (sCells hb (hb + 1) pv2 me nn ff 0 (.slice (some ⟨gh, 0, none⟩) nn nn) lv2) 51 (0,0))) := U37.out.keep Hs3.out (by simp)
  have hhi7 : Hid (w7.heap[gh]? = some (.cells harr2 37 (0,0))) := U37.out.keep Hhi.out (by simp)
  have hlv7 : Hid (Lv hb me (if V1 < V2 then gg2 else if (0 : Int) < V1 then gg1 else 0) (if V1 < V2 then V2 else V1) lv2 w7) := Hlv.out.keep U37.out (by simp)
  have Hg71 : Hid (w7.heap[gg1]? = some (.cells #[.int .u8 Tag, .int .u8 35, .int .u8 0] 5 (0,0))) := U37.out.keep Hg31.out (by simp)
  have Hg72 : Hid (w7.heap[gg2]? = some (.cells #[.int .u8 Tag, .int .u8 35, .int .u8 1] 5 (0,0))) := U37.out.keep Hg32.out (by simp)
  clear hu7 U36 U37 Hq1 Hq2 hh6 hsent6 Hs3 Hg3 Hh3 Hpays Hhi Hlv Hc31 Hg31 Hc32 Hg32 B3 Hsent3
  by_cases hc : V1 < V2
  · rw [if_pos hc] at Hht
    have hl := hlv7.out
    rw [if_pos hc, if_pos hc] at hl
    rcases hl with ⟨h0, _⟩ | ⟨h0, lb, lc, wb, wc, rfl, l1, l2⟩
    · omega
    go_wp2_with fail
    refine (of_any hb (hb + 1) sb gh nn me nn ff 0 V2 me w7 _ _ harr2 nn hs7.out hhi7.out hmn Hht.out).mono ?_
    rintro e w8 ⟨rfl, rfl⟩
    have p8 : w8.cell? ⟨sb, 8, none⟩ = some (.slice (some ⟨lb, 0, none⟩) 1 lc) := cell_at hs7.out 8
    have q0 : w8.cell? ⟨lb, 0, none⟩ = some (.int .u64 V2) := l1.cellAt 0 (by omega)
    have q1 : w8.cell? ⟨lb, 1, none⟩ = some (.slice (some ⟨wb, 0, none⟩) 1 wc) := l1.cellAt 1 (by omega)
    have q2 : w8.cell? ⟨wb, 0, none⟩ = some (.int .i64 me) := l2.cellAt 0 (by omega)
    have q3 : w8.cell? ⟨wb, 1, none⟩ = some (.slice (some ⟨gg2, 0, none⟩) 3 3) := l2.cellAt 1 (by omega)
    have v1 : (V2 == 0) = false := by simp; omega
    clear l1 l2
    go_wp2_with fail
    have r1 := sig_cells (heap_past Hg72.out (.cells #[.int .i64 me, .slice (some ⟨gg2, 0, none⟩) 3 3] 57))
    have r2 := sig_cells (heap_past Hr2.out (.cells #[.int .i64 me, .slice (some ⟨gg2, 0, none⟩) 3 3] 57))
    refine (beq_true gg2 0 3 (qb + 1) 0 3 [Tag, 35, 1] _ (by simp) r1 r2).mono ?_
    rintro e w9 ⟨rfl, nd, rfl⟩
    clear r1 r2 p8 q0 q1 q2 q3
    go_wp2
    go_ret
    refine ⟨rfl, ?_⟩
    rw [Ehb.out]
    exact B7.out.trans (Upd.below (S := []) ((Upd.alloc (Upd.refl _ _) _).drewN _) (by have := B7.out.size; omega) (by simp))
  · rw [if_neg hc] at Hht
    have hl := hlv7.out
    rw [if_neg hc, if_neg hc] at hl
    rcases hl with ⟨h0, rfl⟩ | ⟨h0, lb, lc, wb, wc, rfl, l1, l2⟩
    · go_wp2_with fail
      refine (of_any hb (hb + 1) sb gh nn me nn ff 0 V1 me w7 _ _ harr2 nn hs7.out hhi7.out hmn Hht.out).mono ?_
      rintro e w8 ⟨rfl, rfl⟩
      have p8 : w8.cell? ⟨sb, 8, none⟩ = some (.slice none 0 0) := cell_at hs7.out 8
      have v1 : (V1 == 0) = true := by simp; exact h0
      clear h0
      go_wp2
      go_ret
      refine ⟨rfl, ?_⟩
      rw [Ehb.out]
      exact B7.out
    · rw [if_pos h0] at l2
      go_wp2_with fail
      refine (of_any hb (hb + 1) sb gh nn me nn ff 0 V1 me w7 _ _ harr2 nn hs7.out hhi7.out hmn Hht.out).mono ?_
      rintro e w8 ⟨rfl, rfl⟩
      have p8 : w8.cell? ⟨sb, 8, none⟩ = some (.slice (some ⟨lb, 0, none⟩) 1 lc) := cell_at hs7.out 8
      have q0 : w8.cell? ⟨lb, 0, none⟩ = some (.int .u64 V1) := l1.cellAt 0 (by omega)
      have q1 : w8.cell? ⟨lb, 1, none⟩ = some (.slice (some ⟨wb, 0, none⟩) 1 wc) := l1.cellAt 1 (by omega)
      have q2 : w8.cell? ⟨wb, 0, none⟩ = some (.int .i64 me) := l2.cellAt 0 (by omega)
      have q3 : w8.cell? ⟨wb, 1, none⟩ = some (.slice (some ⟨gg1, 0, none⟩) 3 3) := l2.cellAt 1 (by omega)
      have v1 : (V1 == 0) = false := by simp; omega
      clear l1 l2
      go_wp2_with fail
      have r1 := sig_cells (heap_past Hg71.out (.cells #[.int .i64 me, .slice (some ⟨gg1, 0, none⟩) 3 3] 57))
      have r2 := sig_cells (heap_past Hr1.out (.cells #[.int .i64 me, .slice (some ⟨gg1, 0, none⟩) 3 3] 57))
      refine (beq_true gg1 0 3 (qb) 0 3 [Tag, 35, 0] _ (by simp) r1 r2).mono ?_
      rintro e w9 ⟨rfl, nd, rfl⟩
      clear r1 r2 p8 q0 q1 q2 q3
      go_wp2
      go_ret
      refine ⟨rfl, ?_⟩
      rw [Ehb.out]
      exact B7.out.trans (Upd.below (S := []) ((Upd.alloc (Upd.refl _ _) _).drewN _) (by have := B7.out.size; omega) (by simp))

end Go.Proofs.YbulkcskmFmt
