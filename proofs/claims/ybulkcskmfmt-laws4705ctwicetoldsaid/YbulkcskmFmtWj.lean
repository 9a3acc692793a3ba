/-
  WALKS, TENTH PART: LawS4705CFresh, in three cases: V = 0; f = 0; both above 0.
-/
import Derived.Test.YbulkcskmFmtWi
import Derived.Test.YbulkcskmFmtWh
namespace Go.Proofs.YbulkcskmFmt
open Go.RowKit Go.Lib
attribute [local go_sem ↓] Go.wp_at_zero Go.wp_at_succ

theorem others_count {self : Nat} : ∀ {n : Nat}, self < n → (others self n).length + 1 = n
  | 0, h => by omega
  | n + 1, h => by
    by_cases hn : n = self
    · subst hn
      rw [others_self]
      have : others n n = List.range n := by
        unfold others
        rw [List.filter_eq_self]
        intro a ha
        simp at ha ⊢
        omega
      rw [this]
      simp
    · rw [others_succ hn, List.length_append]
      have := others_count (self := self) (n := n) (by omega)
      simp
      omega

set_option maxRecDepth 100000 in
set_option maxHeartbeats 4000000 in
theorem fresh_zero (N Self F V Tag : Int) (w : World) (hN : 0 ≤ N) (hN2 : N ≤ 65535) (hS : 0 ≤ Self) (hS2 : Self ≤ 65535) (hF : 0 ≤ F) (hF2 : F ≤ 65535) (hV : 0 ≤ V) (hV2 : V ≤ 18446744073709551615) (hcz : V ≤ 0) :
    Calls Ybaf.prog 3 #[.int .u16 N, .int .u16 Self, .int .u16 F, .int .u64 V, .int .u8 Tag] w
      fun e w' => e = .returned (.bool true) ∧ Upd [] w w' := by
  have d1 : ((N % 512 + 1) == 0) = false := by simp; omega
  have d2 : (((N % 512 + 1 - 1) / 2 + 1) == 0) = false := by simp; omega
  have i1 : (Ybaf.prog.info? 39).map (fun i => (i.zero, i.size, i.bytes)) = some (some (.slice none 0 0), 1, 24) := Ybaf.info39
  obtain ⟨nn, hnn⟩ : ∃ nn : Nat, N % 512 + 1 = (nn : Int) := ⟨(N % 512 + 1).toNat, by omega⟩
  have hn1 : 1 ≤ nn := by omega
  have hn2 : nn ≤ 512 := by omega
  have hme0 := Int.emod_nonneg Self (show N % 512 + 1 ≠ 0 by omega)
  have hme1 := Int.emod_lt_of_pos Self (show 0 < N % 512 + 1 by omega)
  obtain ⟨me, hme⟩ : ∃ me : Nat, Self % (N % 512 + 1) = (me : Int) := ⟨(Self % (N % 512 + 1)).toNat, by omega⟩
  have hf0 := Int.emod_nonneg F (show N % 512 / 2 + 1 ≠ 0 by omega)
  have hf1 := Int.emod_lt_of_pos F (show 0 < N % 512 / 2 + 1 by omega)
  obtain ⟨ff, hff⟩ : ∃ ff : Int, F % (N % 512 / 2 + 1) = ff := ⟨_, rfl⟩
  have hmn : me < nn := by omega
  have hffb : ff ≤ ((nn : Int) - 1) / 2 := by omega
  have hff0 : 0 ≤ ff := by omega
  have E1 : Hid (N % 512 + 1 = (nn : Int)) := hnn
  have E2 : Hid (Self % (N % 512 + 1) = (me : Int)) := hme
  have E3 : Hid (F % (N % 512 / 2 + 1) = ff) := hff
  clear hnn hme hff hme0 hme1 hf0 hf1
  go_enter Ybaf.func3, Ybaf.ntmps3
  go_wp2_with fail
  rw [E2.out, E3.out, E1.out]
  clear d1 d2 i1
  generalize hw0 : ((w.alloc (.cells #[.slice none 0 0, .slice none 0 0, .int .i64 0, .int .i64 0] 29)).alloc (.cells #[.int .u8 Tag, .slice none 0 0, .int .i64 0] 33)) = w0
  have hh0 : w0.heap[w.heap.size]? = some (.cells #[.slice none 0 0, .slice none 0 0, .int .i64 0, .int .i64 0] 29 (0,0)) := by rw [← hw0]; exact heap_past (heap_last w _ _ rfl) _
  have hg0 : w0.heap[w.heap.size + 1]? = some (.cells #[.int .u8 Tag, .slice none 0 0, .int .i64 0] 33 (0,0)) := by rw [← hw0]; exact heap_last (w.alloc _) _ _ (by simp)
  have hU0 : Upd [] w w0 := by rw [← hw0]; exact Upd.alloc (Upd.alloc (Upd.refl [] w) _) _
  have hz0 : w0.heap.size = w.heap.size + 2 := by rw [← hw0]; simp
  clear hw0
  obtain ⟨hb, hhb⟩ : ∃ hb, w.heap.size = hb := ⟨_, rfl⟩
  rw [hhb] at hh0 hg0 hz0 ⊢
  have Ehb : Hid (w.heap.size = hb) := hhb
  have hhb1 : w.heap.size ≤ hb := by omega
  have hhb2 : hb ≤ w.heap.size := by omega
  clear hhb
  have Hh0 : Hid (w0.heap[hb]? = some (.cells #[.slice none 0 0, .slice none 0 0, .int .i64 0, .int .i64 0] 29 (0,0))) := hh0
  have Hg0 : Hid (w0.heap[hb + 1]? = some (.cells #[.int .u8 Tag, .slice none 0 0, .int .i64 0] 33 (0,0))) := hg0
  have HU0 : Hid (Upd [] w w0) := hU0
  clear hh0 hg0 hU0
  refine (new_any hb (hb + 1) nn me ff w0 (by omega) (by omega) hff0 hffb (by omega)).mono ?_
  rintro e w1 ⟨sb, gh, rfl, hs1, hsb, hgh, ⟨harr, hha, hhs, hh00⟩, hu1⟩
  have Hs1 : Hid (w1.heap[sb]? = some (.cells (sCells hb (hb + 1) (.slice none 0 0) me nn ff 0 (.slice (some ⟨gh, 0, none⟩) nn nn) (.slice none 0 0)) 51 (0,0))) := hs1
  have Hha : Hid (w1.heap[gh]? = some (.cells harr 37 (0,0))) := hha
  have Hha0 : Hid (harr.size = nn ∧ harr[me]? = some (.int .u64 0)) := ⟨hhs, hh00 me hmn⟩
  have HU1 : Hid (Upd [] w w1) := HU0.out.transTo hu1 (by simp)
  have Hh1 : Hid (w1.heap[hb]? = some (.cells #[.slice none 0 0, .slice none 0 0, .int .i64 0, .int .i64 0] 29 (0,0))) := hu1.keep Hh0.out (by simp)
  have Hg1 : Hid (w1.heap[hb + 1]? = some (.cells #[.int .u8 Tag, .slice none 0 0, .int .i64 0] 33 (0,0))) := hu1.keep Hg0.out (by simp)
  have n1 : gh ≠ sb := ne_elem hha hs1 (by decide)
  have n2 : gh ≠ hb := ne_elem hha Hh1.out (by decide)
  have n3 : gh ≠ hb + 1 := ne_elem hha Hg1.out (by decide)
  have hsz1 : hb ≤ w1.heap.size := by have := HU1.out.size; omega
  clear hs1 hha hhs hh00 hu1 Hh0 Hg0 HU0
  have hgh3 : Hid (∀ w3, Upd (sb :: (hb + 1) :: hb :: ((Value.slice none 0 0).ownBlock.toList ++ (Value.slice none 0 0).ownBlock.toList ++ (Value.slice none 0 0).ownBlock.toList)) w1 w3 → w3.heap[gh]? = some (.cells harr 37 (0,0))) := by
    intro w3 h
    exact h.keep Hha.out (by simp [Value.ownBlock]; exact ⟨n1, n3, n2⟩)
  go_wp2_with fail
  refine (wish_any hb hb (hb + 1) sb gh me nn 0 0 0 Tag V ff 0 w1 (.slice none 0 0) (.slice none 0 0) (.slice none 0 0) (.int .i64 0) (.int .i64 0) (.slice (some ⟨gh, 0, none⟩) nn nn) (.slice none 0 0) (.slice none 0 0) (.int .i64 0) [] [] [] hsz1 hV hV2 Hs1.out Hg1.out Hh1.out (World.ownsRow_nil _ _ _ _) (World.ownsRow_nil _ _ _ _) (by omega) (World.ownsRow_nil _ _ _ _) (by omega) (by omega)
    (fun w3 w4 _ _ _ _ => Upd [] w3 w4) (fun w3 gg cb pg pc sends' pays' hW => hold_stale hb (hb + 1) sb gh nn nn me 3 3 nn ff 0 V 0 (some ⟨gg, 0, none⟩) w3 _ _ harr hW.f_s (hgh3.out w3 hW.f_upd) hmn Hha0.out.2 (by omega))).mono ?_
  rintro e w4 ⟨rfl, w3, gg, cb, pg, pc, sends', pays', hW, hpost⟩
  have hu4 : Upd [] w3 w4 := hpost
  have nT : ∀ k, k ∉ ([] : List Nat) := by simp
  have hgh3' := hgh3.out w3 hW.f_upd
  have keep : ∀ (b : Nat) (c : Array Value) (ty : TypeId) (f : Nat × Nat), w3.heap[b]? = some (.cells c ty f) → ty ≠ 51 → ty ≠ 37 → ty ≠ 29 → b ∉ ([] : List Nat) := by
    intro b c ty f hb1 t1 t2 t3
    have m1 : b ≠ sb := ne_elem hb1 hW.f_s t1
    have m2 : b ≠ gh := ne_elem hb1 hgh3' t2
    have m3 : b ≠ hb := ne_elem hb1 hW.f_h t3
    simp
    try exact ⟨m1, m2⟩
    try exact ⟨m1, m2, m3⟩
  have hg4 : Hid (w4.heap[hb + 1]? = some (.cells #[.int .u8 Tag, pays', .int .i64 0] 33 (0,0))) := hu4.keep hW.f_g (keep _ _ _ _ hW.f_g (by decide) (by decide) (by decide))
  have hcopy4 : Hid (w4.heap[cb]? = some (.cells (payCells V).toArray 5 (0,0))) := hu4.keep hW.f_copy (keep _ _ _ _ hW.f_copy (by decide) (by decide) (by decide))
  have hsig4 : Hid (w4.heap[gg]? = some (.cells #[.int .u8 Tag, .int .u8 35, .int .u8 0] 5 (0,0))) := hu4.keep hW.f_sig (keep _ _ _ _ hW.f_sig (by decide) (by decide) (by decide))
  have hpays4 : Hid (w4.ownsRow hb 39 1 pays' 1 [.slice (some ⟨cb, 0, none⟩) 35 35]) := hu4.owns hW.f_pays (by
    intro g hgo
    obtain ⟨_, h1, _⟩ := owns_block hW.f_pays hgo
    exact keep _ _ _ _ h1 (by decide) (by decide) (by decide))
  have hsent4 : Hid (w4.ownsRow hb 71 7 sends' (0 + (others me nn).length) ([] ++ sentTo me V (.slice (some ⟨gg, 0, none⟩) 3 3) nn)) := hu4.owns hW.f_sent (by
    intro g hgo
    obtain ⟨_, h1, _⟩ := owns_block hW.f_sent hgo
    exact keep _ _ _ _ h1 (by decide) (by decide) (by decide))
  have U4 : Hid (Upd [] w w4) := by
    refine Upd.transTo (HU1.out.transTo hW.f_upd ?_) hu4 ?_
    · intro j hj
      simp [Value.ownBlock] at hj
      right
      omega
    · intro j hj
      simp at hj
      try (right; omega)
  have hs4 : Hid (w4.heap[sb]? = some (.cells (sCells hb (hb + 1) (.slice (some ⟨pg, 0, none⟩) 35 pc) me nn ff 0 (.slice (some ⟨gh, 0, none⟩) nn nn) (.slice none 0 0)) 51 (0,0))) := hu4.keep hW.f_s (by simp)
  have hgh4 : Hid (w4.heap[gh]? = some (.cells harr 37 (0,0))) := hu4.keep hgh3' (by simp)
  have hh4 : Hid (w4.heap[hb]? = some (.cells #[sends', .slice none 0 0, .int .i64 0, .int .i64 0] 29 (0,0))) := hu4.keep hW.f_h (by simp)
  have hof : Hid (harr[me]? = some (.int .u64 V)) := by rw [show V = 0 by omega]; exact Hha0.out.2
  clear hW hgh3' keep hu4 hgh3 Hs1 Hha HU1 Hh1 Hg1
  obtain ⟨yb, yc, hyv, _, _⟩ := hpays4.out.form (by omega)
  subst hyv
  have y1 : w4.cell? ⟨hb + 1, 1, none⟩ = some (.slice (some ⟨yb, 0, none⟩) 1 yc) := cell_at hg4.out 1
  have y2 : w4.cell? ⟨hb + 1, 2, none⟩ = some (.int .i64 0) := cell_at hg4.out 2
  have y3 : w4.cell? ⟨yb, 0, none⟩ = some (.slice (some ⟨cb, 0, none⟩) 35 35) := hpays4.out.cellAt 0 (by omega)
  go_wp2_with fail
  refine (pok_any cb 35 V w4 hV hV2 hcopy4.out).mono ?_
  rintro e w5 ⟨rfl, hu5⟩
  clear y1 y2 y3
  have hcnt := others_count hmn
  obtain ⟨sa, sc, hsv, _⟩ := owns_slice hsent4.out
  obtain ⟨tt, htt⟩ : ∃ tt, (others me nn).length = tt := ⟨_, rfl⟩
  rw [htt] at hcnt hsv
  have Htt : Hid ((others me nn).length = tt) := htt
  clear htt
  rw [Nat.zero_add] at hsv
  subst hsv
  have hsent5 : Hid (w5.ownsRow hb 71 7 (.slice sa tt sc) tt (([] : List Value) ++ sentTo me V (.slice (some ⟨gg, 0, none⟩) 3 3) nn ++ [])) := by
    have h := hu5.owns hsent4.out (by simp)
    rw [Htt.out] at h
    show w5.ownsRow _ _ _ _ _ _
    simpa using h
  have hh5 : Hid (w5.heap[hb]? = some (.cells #[.slice sa tt sc, (.slice none 0 0), .int .i64 0, .int .i64 0] 29 (0,0))) := hu5.keep hh4.out (by simp)
  have hsig5 : Hid (w5.heap[gg]? = some (.cells #[.int .u8 Tag, .int .u8 35, .int .u8 0] 5 (0,0))) := hu5.keep hsig4.out (by simp)
  have z0 : w5.cell? ⟨hb, 0, none⟩ = some (.slice sa tt sc) := cell_at hh5.out 0
  have z2 : w5.cell? ⟨hb, 2, none⟩ = some (.int .i64 0) := cell_at hh5.out 2
  have z3 : w5.cell? ⟨hb, 3, none⟩ = some (.int .i64 0) := cell_at hh5.out 3
  have t1 : (tt : Int) ≤ (nn : Int) - 1 := by omega
  have t2 : (nn : Int) - 1 ≤ (tt : Int) := by omega
  have zl : hb < w5.heap.size := lt_of_heap hh5.out
  go_wp2_with fail
  refine (sendsok_any hb hb 0 nn me tt gg w5.heap.size 3 V Tag 0 _ (.slice sa tt sc) _ _ _ [] [] (heap_past hh5.out _) (hsent5.out.alloc _) rfl (heap_past hsig5.out _) (heap_last w5 _ _ rfl) (by omega) (by omega)).mono ?_
  rintro e w6 ⟨rfl, hu6⟩
  clear z0 z2 z3
  have U56 : Hid (Upd [] w4 w6) := (Upd.alloc hu5 _).transTo hu6 (by simp)
  have hsigl : Hid (w6.heap[w5.heap.size]? = some (.cells #[.int .u8 Tag, .int .u8 35, .int .u8 0] 5 (0,0))) := hu6.keep (heap_last w5 _ _ rfl) (by simp)
  clear hu5 hu6 hsent5 hh5 hsig5
  have hs6 : Hid (w6.heap[sb]? = some (.cells (sCells hb (hb + 1) (.slice (some ⟨pg, 0, none⟩) 35 pc) me nn ff 0 (.slice (some ⟨gh, 0, none⟩) nn nn) (.slice none 0 0)) 51 (0,0))) := U56.out.keep hs4.out (by simp)
  have hgh6 : Hid (w6.heap[gh]? = some (.cells (harr) 37 (0,0))) := U56.out.keep hgh4.out (by simp)
  have hh6 : Hid (w6.heap[hb]? = some (.cells #[.slice sa tt sc, (.slice none 0 0), .int .i64 0, .int .i64 0] 29 (0,0))) := U56.out.keep hh4.out (by simp)
  go_wp2_with fail
  refine (of_any hb (hb + 1) sb gh nn me nn ff 0 V me w6 _ _ _ nn hs6.out hgh6.out hmn hof.out).mono ?_
  rintro e w7 ⟨rfl, rfl⟩
  have p1 : w7.cell? ⟨hb, 1, none⟩ = some (.slice none 0 0) := cell_at hh6.out 1
  have p6 : w7.cell? ⟨sb, 6, none⟩ = some (.int .u64 0) := cell_at hs6.out 6
  have p8 : w7.cell? ⟨sb, 8, none⟩ = some (.slice none 0 0) := cell_at hs6.out 8
  have v1 : (V == 0) = true := by simp; omega
  have v2 : ¬ 0 < V := by omega
  by_cases hz : ff = 0
  · have z1 : (ff == 0) = true := by simp [hz]
    clear hz
    go_wp2
    go_ret
    exact ⟨rfl, U4.out.transTo U56.out (by simp)⟩
  · have z1 : (ff == 0) = false := by simp [hz]
    clear hz
    go_wp2
    go_ret
    exact ⟨rfl, U4.out.transTo U56.out (by simp)⟩

set_option maxRecDepth 100000 in
set_option maxHeartbeats 4000000 in
theorem fresh_enter (N Self F V Tag : Int) (w : World) (hN : 0 ≤ N) (hN2 : N ≤ 65535) (hS : 0 ≤ Self) (hS2 : Self ≤ 65535) (hF : 0 ≤ F) (hF2 : F ≤ 65535) (hV : 0 ≤ V) (hV2 : V ≤ 18446744073709551615) (hc : 0 < V) (hcf : F % (N % 512 / 2 + 1) = 0) :
    Calls Ybaf.prog 3 #[.int .u16 N, .int .u16 Self, .int .u16 F, .int .u64 V, .int .u8 Tag] w
      fun e w' => e = .returned (.bool true) ∧ Upd [] w w' := by
  have d1 : ((N % 512 + 1) == 0) = false := by simp; omega
  have d2 : (((N % 512 + 1 - 1) / 2 + 1) == 0) = false := by simp; omega
  have i1 : (Ybaf.prog.info? 39).map (fun i => (i.zero, i.size, i.bytes)) = some (some (.slice none 0 0), 1, 24) := Ybaf.info39
  obtain ⟨nn, hnn⟩ : ∃ nn : Nat, N % 512 + 1 = (nn : Int) := ⟨(N % 512 + 1).toNat, by omega⟩
  have hn1 : 1 ≤ nn := by omega
  have hn2 : nn ≤ 512 := by omega
  have hme0 := Int.emod_nonneg Self (show N % 512 + 1 ≠ 0 by omega)
  have hme1 := Int.emod_lt_of_pos Self (show 0 < N % 512 + 1 by omega)
  obtain ⟨me, hme⟩ : ∃ me : Nat, Self % (N % 512 + 1) = (me : Int) := ⟨(Self % (N % 512 + 1)).toNat, by omega⟩
  have hf0 := Int.emod_nonneg F (show N % 512 / 2 + 1 ≠ 0 by omega)
  have hf1 := Int.emod_lt_of_pos F (show 0 < N % 512 / 2 + 1 by omega)
  obtain ⟨ff, hff⟩ : ∃ ff : Int, F % (N % 512 / 2 + 1) = ff := ⟨_, rfl⟩
  have hmn : me < nn := by omega
  have hffb : ff ≤ ((nn : Int) - 1) / 2 := by omega
  have hff0 : 0 ≤ ff := by omega
  have hffz : ff = 0 := by omega
  subst hffz
  clear hcf
  have E1 : Hid (N % 512 + 1 = (nn : Int)) := hnn
  have E2 : Hid (Self % (N % 512 + 1) = (me : Int)) := hme
  have E3 : Hid (F % (N % 512 / 2 + 1) = 0) := hff
  clear hnn hme hff hme0 hme1 hf0 hf1
  go_enter Ybaf.func3, Ybaf.ntmps3
  go_wp2_with fail
  rw [E2.out, E3.out, E1.out]
  clear d1 d2 i1
  generalize hw0 : ((w.alloc (.cells #[.slice none 0 0, .slice none 0 0, .int .i64 0, .int .i64 0] 29)).alloc (.cells #[.int .u8 Tag, .slice none 0 0, .int .i64 0] 33)) = w0
  have hh0 : w0.heap[w.heap.size]? = some (.cells #[.slice none 0 0, .slice none 0 0, .int .i64 0, .int .i64 0] 29 (0,0)) := by rw [← hw0]; exact heap_past (heap_last w _ _ rfl) _
  have hg0 : w0.heap[w.heap.size + 1]? = some (.cells #[.int .u8 Tag, .slice none 0 0, .int .i64 0] 33 (0,0)) := by rw [← hw0]; exact heap_last (w.alloc _) _ _ (by simp)
  have hU0 : Upd [] w w0 := by rw [← hw0]; exact Upd.alloc (Upd.alloc (Upd.refl [] w) _) _
  have hz0 : w0.heap.size = w.heap.size + 2 := by rw [← hw0]; simp
  clear hw0
  obtain ⟨hb, hhb⟩ : ∃ hb, w.heap.size = hb := ⟨_, rfl⟩
  rw [hhb] at hh0 hg0 hz0 ⊢
  have Ehb : Hid (w.heap.size = hb) := hhb
  have hhb1 : w.heap.size ≤ hb := by omega
  have hhb2 : hb ≤ w.heap.size := by omega
  clear hhb
  have Hh0 : Hid (w0.heap[hb]? = some (.cells #[.slice none 0 0, .slice none 0 0, .int .i64 0, .int .i64 0] 29 (0,0))) := hh0
  have Hg0 : Hid (w0.heap[hb + 1]? = some (.cells #[.int .u8 Tag, .slice none 0 0, .int .i64 0] 33 (0,0))) := hg0
  have HU0 : Hid (Upd [] w w0) := hU0
  clear hh0 hg0 hU0
  refine (new_any hb (hb + 1) nn me 0 w0 (by omega) (by omega) hff0 hffb (by omega)).mono ?_
  rintro e w1 ⟨sb, gh, rfl, hs1, hsb, hgh, ⟨harr, hha, hhs, hh00⟩, hu1⟩
  have Hs1 : Hid (w1.heap[sb]? = some (.cells (sCells hb (hb + 1) (.slice none 0 0) me nn 0 0 (.slice (some ⟨gh, 0, none⟩) nn nn) (.slice none 0 0)) 51 (0,0))) := hs1
  have Hha : Hid (w1.heap[gh]? = some (.cells harr 37 (0,0))) := hha
  have Hha0 : Hid (harr.size = nn ∧ harr[me]? = some (.int .u64 0)) := ⟨hhs, hh00 me hmn⟩
  have HU1 : Hid (Upd [] w w1) := HU0.out.transTo hu1 (by simp)
  have Hh1 : Hid (w1.heap[hb]? = some (.cells #[.slice none 0 0, .slice none 0 0, .int .i64 0, .int .i64 0] 29 (0,0))) := hu1.keep Hh0.out (by simp)
  have Hg1 : Hid (w1.heap[hb + 1]? = some (.cells #[.int .u8 Tag, .slice none 0 0, .int .i64 0] 33 (0,0))) := hu1.keep Hg0.out (by simp)
  have n1 : gh ≠ sb := ne_elem hha hs1 (by decide)
  have n2 : gh ≠ hb := ne_elem hha Hh1.out (by decide)
  have n3 : gh ≠ hb + 1 := ne_elem hha Hg1.out (by decide)
  have hsz1 : hb ≤ w1.heap.size := by have := HU1.out.size; omega
  clear hs1 hha hhs hh00 hu1 Hh0 Hg0 HU0
  have hgh3 : Hid (∀ w3, Upd (sb :: (hb + 1) :: hb :: ((Value.slice none 0 0).ownBlock.toList ++ (Value.slice none 0 0).ownBlock.toList ++ (Value.slice none 0 0).ownBlock.toList)) w1 w3 → w3.heap[gh]? = some (.cells harr 37 (0,0))) := by
    intro w3 h
    exact h.keep Hha.out (by simp [Value.ownBlock]; exact ⟨n1, n3, n2⟩)
  go_wp2_with fail
  refine (wish_any hb hb (hb + 1) sb gh me nn 0 0 0 Tag V 0 0 w1 (.slice none 0 0) (.slice none 0 0) (.slice none 0 0) (.int .i64 0) (.int .i64 0) (.slice (some ⟨gh, 0, none⟩) nn nn) (.slice none 0 0) (.slice none 0 0) (.int .i64 0) [] [] [] hsz1 hV hV2 Hs1.out Hg1.out Hh1.out (World.ownsRow_nil _ _ _ _) (World.ownsRow_nil _ _ _ _) (by omega) (World.ownsRow_nil _ _ _ _) (by omega) (by omega)
    (fun w3 w4 gg pg pc sends' => ∃ lb lc prop', w4.heap[sb]? = some (.cells (sCells hb (hb + 1) (.slice (some ⟨pg, 0, none⟩) 35 pc) me nn 0 V (.slice (some ⟨gh, 0, none⟩) nn nn) (.slice (some ⟨lb, 0, none⟩) 0 lc)) 51 (0,0)) ∧
       w4.heap[gh]? = some (.cells (harr.setIfInBounds me (.int .u64 V)) 37 (0,0)) ∧ w4.heap[hb]? = some (.cells #[sends', prop', .int .i64 0, .int .i64 0] 29 (0,0)) ∧ w4.ownsRow hb 37 1 prop' (0 + 1) ([] ++ [.int .u64 V]) ∧
       Upd (sb :: gh :: hb :: ((Value.slice none 0 0).ownBlock.toList ++ (Value.slice none 0 0).ownBlock.toList)) w3 w4) (fun w3 gg cb pg pc sends' pays' hW => hold_enter hb hb (hb + 1) sb gh nn nn me 3 3 0 nn V (some ⟨gg, 0, none⟩) w3 _ (.slice none 0 0) sends' (.slice none 0 0) (.int .i64 0) (.int .i64 0) harr [] (by have := hW.f_upd.size; omega) hW.f_s (hgh3.out w3 hW.f_upd) hmn Hha0.out.1 Hha0.out.2 hc (World.ownsRow_nil _ _ _ _) hW.f_h (World.ownsRow_nil _ _ _ _) (by omega) (by simp [Value.ownBlock]))).mono ?_
  rintro e w4 ⟨rfl, w3, gg, cb, pg, pc, sends', pays', hW, hpost⟩
  obtain ⟨lb, lc, prop', hs4', hgh4', hh4', hp4', hu4'⟩ := hpost
  have hu4 : Upd [sb, gh, hb] w3 w4 := hu4'
  have hgh3' := hgh3.out w3 hW.f_upd
  have keep : ∀ (b : Nat) (c : Array Value) (ty : TypeId) (f : Nat × Nat), w3.heap[b]? = some (.cells c ty f) → ty ≠ 51 → ty ≠ 37 → ty ≠ 29 → b ∉ ([sb, gh, hb] : List Nat) := by
    intro b c ty f hb1 t1 t2 t3
    have m1 : b ≠ sb := ne_elem hb1 hW.f_s t1
    have m2 : b ≠ gh := ne_elem hb1 hgh3' t2
    have m3 : b ≠ hb := ne_elem hb1 hW.f_h t3
    simp
    try exact ⟨m1, m2⟩
    try exact ⟨m1, m2, m3⟩
  have hg4 : Hid (w4.heap[hb + 1]? = some (.cells #[.int .u8 Tag, pays', .int .i64 0] 33 (0,0))) := hu4.keep hW.f_g (keep _ _ _ _ hW.f_g (by decide) (by decide) (by decide))
  have hcopy4 : Hid (w4.heap[cb]? = some (.cells (payCells V).toArray 5 (0,0))) := hu4.keep hW.f_copy (keep _ _ _ _ hW.f_copy (by decide) (by decide) (by decide))
  have hsig4 : Hid (w4.heap[gg]? = some (.cells #[.int .u8 Tag, .int .u8 35, .int .u8 0] 5 (0,0))) := hu4.keep hW.f_sig (keep _ _ _ _ hW.f_sig (by decide) (by decide) (by decide))
  have hpays4 : Hid (w4.ownsRow hb 39 1 pays' 1 [.slice (some ⟨cb, 0, none⟩) 35 35]) := hu4.owns hW.f_pays (by
    intro g hgo
    obtain ⟨_, h1, _⟩ := owns_block hW.f_pays hgo
    exact keep _ _ _ _ h1 (by decide) (by decide) (by decide))
  have hsent4 : Hid (w4.ownsRow hb 71 7 sends' (0 + (others me nn).length) ([] ++ sentTo me V (.slice (some ⟨gg, 0, none⟩) 3 3) nn)) := hu4.owns hW.f_sent (by
    intro g hgo
    obtain ⟨_, h1, _⟩ := owns_block hW.f_sent hgo
    exact keep _ _ _ _ h1 (by decide) (by decide) (by decide))
  have U4 : Hid (Upd [] w w4) := by
    refine Upd.transTo (HU1.out.transTo hW.f_upd ?_) hu4 ?_
    · intro j hj
      simp [Value.ownBlock] at hj
      right
      omega
    · intro j hj
      simp at hj
      try (right; omega)
  have hs4 : Hid (w4.heap[sb]? = some (.cells (sCells hb (hb + 1) (.slice (some ⟨pg, 0, none⟩) 35 pc) me nn 0 V (.slice (some ⟨gh, 0, none⟩) nn nn) (.slice (some ⟨lb, 0, none⟩) 0 lc)) 51 (0,0))) := hs4'
  have hgh4 : Hid (w4.heap[gh]? = some (.cells (harr.setIfInBounds me (.int .u64 V)) 37 (0,0))) := hgh4'
  have hh4 : Hid (w4.heap[hb]? = some (.cells #[sends', prop', .int .i64 0, .int .i64 0] 29 (0,0))) := hh4'
  have hp4 : Hid (w4.ownsRow hb 37 1 prop' 1 [.int .u64 V]) := hp4'
  have hof : Hid ((harr.setIfInBounds me (.int .u64 V))[me]? = some (.int .u64 V)) := by show _ = _; rw [Array.getElem?_setIfInBounds_self_of_lt (by rw [Hha0.out.1]; exact hmn)]
  clear hs4' hgh4' hh4' hp4' hu4'
  clear hW hgh3' keep hu4 hgh3 Hs1 Hha HU1 Hh1 Hg1
  obtain ⟨yb, yc, hyv, _, _⟩ := hpays4.out.form (by omega)
  subst hyv
  have y1 : w4.cell? ⟨hb + 1, 1, none⟩ = some (.slice (some ⟨yb, 0, none⟩) 1 yc) := cell_at hg4.out 1
  have y2 : w4.cell? ⟨hb + 1, 2, none⟩ = some (.int .i64 0) := cell_at hg4.out 2
  have y3 : w4.cell? ⟨yb, 0, none⟩ = some (.slice (some ⟨cb, 0, none⟩) 35 35) := hpays4.out.cellAt 0 (by omega)
  go_wp2_with fail
  refine (pok_any cb 35 V w4 hV hV2 hcopy4.out).mono ?_
  rintro e w5 ⟨rfl, hu5⟩
  clear y1 y2 y3
  have hcnt := others_count hmn
  obtain ⟨sa, sc, hsv, _⟩ := owns_slice hsent4.out
  obtain ⟨tt, htt⟩ : ∃ tt, (others me nn).length = tt := ⟨_, rfl⟩
  rw [htt] at hcnt hsv
  have Htt : Hid ((others me nn).length = tt) := htt
  clear htt
  rw [Nat.zero_add] at hsv
  subst hsv
  have hsent5 : Hid (w5.ownsRow hb 71 7 (.slice sa tt sc) tt (([] : List Value) ++ sentTo me V (.slice (some ⟨gg, 0, none⟩) 3 3) nn ++ [])) := by
    have h := hu5.owns hsent4.out (by simp)
    rw [Htt.out] at h
    show w5.ownsRow _ _ _ _ _ _
    simpa using h
  have hh5 : Hid (w5.heap[hb]? = some (.cells #[.slice sa tt sc, prop', .int .i64 0, .int .i64 0] 29 (0,0))) := hu5.keep hh4.out (by simp)
  have hsig5 : Hid (w5.heap[gg]? = some (.cells #[.int .u8 Tag, .int .u8 35, .int .u8 0] 5 (0,0))) := hu5.keep hsig4.out (by simp)
  have z0 : w5.cell? ⟨hb, 0, none⟩ = some (.slice sa tt sc) := cell_at hh5.out 0
  have z2 : w5.cell? ⟨hb, 2, none⟩ = some (.int .i64 0) := cell_at hh5.out 2
  have z3 : w5.cell? ⟨hb, 3, none⟩ = some (.int .i64 0) := cell_at hh5.out 3
  have t1 : (tt : Int) ≤ (nn : Int) - 1 := by omega
  have t2 : (nn : Int) - 1 ≤ (tt : Int) := by omega
  have zl : hb < w5.heap.size := lt_of_heap hh5.out
  go_wp2_with fail
  refine (sendsok_any hb hb 0 nn me tt gg w5.heap.size 3 V Tag 0 _ (.slice sa tt sc) _ _ _ [] [] (heap_past hh5.out _) (hsent5.out.alloc _) rfl (heap_past hsig5.out _) (heap_last w5 _ _ rfl) (by omega) (by omega)).mono ?_
  rintro e w6 ⟨rfl, hu6⟩
  clear z0 z2 z3
  have U56 : Hid (Upd [] w4 w6) := (Upd.alloc hu5 _).transTo hu6 (by simp)
  have hsigl : Hid (w6.heap[w5.heap.size]? = some (.cells #[.int .u8 Tag, .int .u8 35, .int .u8 0] 5 (0,0))) := hu6.keep (heap_last w5 _ _ rfl) (by simp)
  clear hu5 hu6 hsent5 hh5 hsig5
  have hs6 : Hid (w6.heap[sb]? = some (.cells (sCells hb (hb + 1) (.slice (some ⟨pg, 0, none⟩) 35 pc) me nn 0 V (.slice (some ⟨gh, 0, none⟩) nn nn) (.slice (some ⟨lb, 0, none⟩) 0 lc)) 51 (0,0))) := U56.out.keep hs4.out (by simp)
  have hgh6 : Hid (w6.heap[gh]? = some (.cells (harr.setIfInBounds me (.int .u64 V)) 37 (0,0))) := U56.out.keep hgh4.out (by simp)
  have hh6 : Hid (w6.heap[hb]? = some (.cells #[.slice sa tt sc, prop', .int .i64 0, .int .i64 0] 29 (0,0))) := U56.out.keep hh4.out (by simp)
  go_wp2_with fail
  refine (of_any hb (hb + 1) sb gh nn me nn 0 V V me w6 _ _ _ nn hs6.out hgh6.out hmn hof.out).mono ?_
  rintro e w7 ⟨rfl, rfl⟩
  obtain ⟨qb, qc, hqv, _, _⟩ := hp4.out.form (by omega)
  subst hqv
  have p1 : w7.cell? ⟨hb, 1, none⟩ = some (.slice (some ⟨qb, 0, none⟩) 1 qc) := cell_at hh6.out 1
  have p6 : w7.cell? ⟨sb, 6, none⟩ = some (.int .u64 V) := cell_at hs6.out 6
  have p8 : w7.cell? ⟨sb, 8, none⟩ = some (.slice (some ⟨lb, 0, none⟩) 0 lc) := cell_at hs6.out 8
  have q0 : w7.cell? ⟨qb, 0, none⟩ = some (.int .u64 V) := (U56.out.owns hp4.out (by simp)).cellAt 0 (by omega)
  have v1 : (V == 0) = false := by simp; omega
  go_wp2
  go_ret
  exact ⟨rfl, U4.out.transTo U56.out (by simp)⟩

set_option maxRecDepth 100000 in
set_option maxHeartbeats 4000000 in
theorem fresh_keep (N Self F V Tag : Int) (w : World) (hN : 0 ≤ N) (hN2 : N ≤ 65535) (hS : 0 ≤ Self) (hS2 : Self ≤ 65535) (hF : 0 ≤ F) (hF2 : F ≤ 65535) (hV : 0 ≤ V) (hV2 : V ≤ 18446744073709551615) (hc : 0 < V) (hcf : 0 < F % (N % 512 / 2 + 1)) :
    Calls Ybaf.prog 3 #[.int .u16 N, .int .u16 Self, .int .u16 F, .int .u64 V, .int .u8 Tag] w
      fun e w' => e = .returned (.bool true) ∧ Upd [] w w' := by
  have d1 : ((N % 512 + 1) == 0) = false := by simp; omega
  have d2 : (((N % 512 + 1 - 1) / 2 + 1) == 0) = false := by simp; omega
  have i1 : (Ybaf.prog.info? 39).map (fun i => (i.zero, i.size, i.bytes)) = some (some (.slice none 0 0), 1, 24) := Ybaf.info39
  obtain ⟨nn, hnn⟩ : ∃ nn : Nat, N % 512 + 1 = (nn : Int) := ⟨(N % 512 + 1).toNat, by omega⟩
  have hn1 : 1 ≤ nn := by omega
  have hn2 : nn ≤ 512 := by omega
  have hme0 := Int.emod_nonneg Self (show N % 512 + 1 ≠ 0 by omega)
  have hme1 := Int.emod_lt_of_pos Self (show 0 < N % 512 + 1 by omega)
  obtain ⟨me, hme⟩ : ∃ me : Nat, Self % (N % 512 + 1) = (me : Int) := ⟨(Self % (N % 512 + 1)).toNat, by omega⟩
  have hf0 := Int.emod_nonneg F (show N % 512 / 2 + 1 ≠ 0 by omega)
  have hf1 := Int.emod_lt_of_pos F (show 0 < N % 512 / 2 + 1 by omega)
  obtain ⟨ff, hff⟩ : ∃ ff : Int, F % (N % 512 / 2 + 1) = ff := ⟨_, rfl⟩
  have hmn : me < nn := by omega
  have hffb : ff ≤ ((nn : Int) - 1) / 2 := by omega
  have hff0 : 0 ≤ ff := by omega
  have hff1 : 1 ≤ ff := by omega
  have hff2 : ff ≤ 1000 := by omega
  clear hcf
  have E1 : Hid (N % 512 + 1 = (nn : Int)) := hnn
  have E2 : Hid (Self % (N % 512 + 1) = (me : Int)) := hme
  have E3 : Hid (F % (N % 512 / 2 + 1) = ff) := hff
  clear hnn hme hff hme0 hme1 hf0 hf1
  go_enter Ybaf.func3, Ybaf.ntmps3
  go_wp2_with fail
  rw [E2.out, E3.out, E1.out]
  clear d1 d2 i1
  generalize hw0 : ((w.alloc (.cells #[.slice none 0 0, .slice none 0 0, .int .i64 0, .int .i64 0] 29)).alloc (.cells #[.int .u8 Tag, .slice none 0 0, .int .i64 0] 33)) = w0
  have hh0 : w0.heap[w.heap.size]? = some (.cells #[.slice none 0 0, .slice none 0 0, .int .i64 0, .int .i64 0] 29 (0,0)) := by rw [← hw0]; exact heap_past (heap_last w _ _ rfl) _
  have hg0 : w0.heap[w.heap.size + 1]? = some (.cells #[.int .u8 Tag, .slice none 0 0, .int .i64 0] 33 (0,0)) := by rw [← hw0]; exact heap_last (w.alloc _) _ _ (by simp)
  have hU0 : Upd [] w w0 := by rw [← hw0]; exact Upd.alloc (Upd.alloc (Upd.refl [] w) _) _
  have hz0 : w0.heap.size = w.heap.size + 2 := by rw [← hw0]; simp
  clear hw0
  obtain ⟨hb, hhb⟩ : ∃ hb, w.heap.size = hb := ⟨_, rfl⟩
  rw [hhb] at hh0 hg0 hz0 ⊢
  have Ehb : Hid (w.heap.size = hb) := hhb
  have hhb1 : w.heap.size ≤ hb := by omega
  have hhb2 : hb ≤ w.heap.size := by omega
  clear hhb
  have Hh0 : Hid (w0.heap[hb]? = some (.cells #[.slice none 0 0, .slice none 0 0, .int .i64 0, .int .i64 0] 29 (0,0))) := hh0
  have Hg0 : Hid (w0.heap[hb + 1]? = some (.cells #[.int .u8 Tag, .slice none 0 0, .int .i64 0] 33 (0,0))) := hg0
  have HU0 : Hid (Upd [] w w0) := hU0
  clear hh0 hg0 hU0
  refine (new_any hb (hb + 1) nn me ff w0 (by omega) (by omega) hff0 hffb (by omega)).mono ?_
  rintro e w1 ⟨sb, gh, rfl, hs1, hsb, hgh, ⟨harr, hha, hhs, hh00⟩, hu1⟩
  have Hs1 : Hid (w1.heap[sb]? = some (.cells (sCells hb (hb + 1) (.slice none 0 0) me nn ff 0 (.slice (some ⟨gh, 0, none⟩) nn nn) (.slice none 0 0)) 51 (0,0))) := hs1
  have Hha : Hid (w1.heap[gh]? = some (.cells harr 37 (0,0))) := hha
  have Hha0 : Hid (harr.size = nn ∧ harr[me]? = some (.int .u64 0)) := ⟨hhs, hh00 me hmn⟩
  have HU1 : Hid (Upd [] w w1) := HU0.out.transTo hu1 (by simp)
  have Hh1 : Hid (w1.heap[hb]? = some (.cells #[.slice none 0 0, .slice none 0 0, .int .i64 0, .int .i64 0] 29 (0,0))) := hu1.keep Hh0.out (by simp)
  have Hg1 : Hid (w1.heap[hb + 1]? = some (.cells #[.int .u8 Tag, .slice none 0 0, .int .i64 0] 33 (0,0))) := hu1.keep Hg0.out (by simp)
  have n1 : gh ≠ sb := ne_elem hha hs1 (by decide)
  have n2 : gh ≠ hb := ne_elem hha Hh1.out (by decide)
  have n3 : gh ≠ hb + 1 := ne_elem hha Hg1.out (by decide)
  have hsz1 : hb ≤ w1.heap.size := by have := HU1.out.size; omega
  clear hs1 hha hhs hh00 hu1 Hh0 Hg0 HU0
  have hgh3 : Hid (∀ w3, Upd (sb :: (hb + 1) :: hb :: ((Value.slice none 0 0).ownBlock.toList ++ (Value.slice none 0 0).ownBlock.toList ++ (Value.slice none 0 0).ownBlock.toList)) w1 w3 → w3.heap[gh]? = some (.cells harr 37 (0,0))) := by
    intro w3 h
    exact h.keep Hha.out (by simp [Value.ownBlock]; exact ⟨n1, n3, n2⟩)
  go_wp2_with fail
  refine (wish_any hb hb (hb + 1) sb gh me nn 0 0 0 Tag V ff 0 w1 (.slice none 0 0) (.slice none 0 0) (.slice none 0 0) (.int .i64 0) (.int .i64 0) (.slice (some ⟨gh, 0, none⟩) nn nn) (.slice none 0 0) (.slice none 0 0) (.int .i64 0) [] [] [] hsz1 hV hV2 Hs1.out Hg1.out Hh1.out (World.ownsRow_nil _ _ _ _) (World.ownsRow_nil _ _ _ _) (by omega) (World.ownsRow_nil _ _ _ _) (by omega) (by omega)
    (fun w3 w4 gg pg pc sends' => ∃ lb lc wb wc, w4.heap[sb]? = some (.cells (sCells hb (hb + 1) (.slice (some ⟨pg, 0, none⟩) 35 pc) me nn ff 0 (.slice (some ⟨gh, 0, none⟩) nn nn) (.slice (some ⟨lb, 0, none⟩) 1 lc)) 51 (0,0)) ∧
       w4.heap[gh]? = some (.cells (harr.setIfInBounds me (.int .u64 V)) 37 (0,0)) ∧ w4.ownsRow hb 55 2 (.slice (some ⟨lb, 0, none⟩) 1 lc) 1 [.int .u64 V, .slice (some ⟨wb, 0, none⟩) 1 wc] ∧
       w4.ownsRow hb 57 2 (.slice (some ⟨wb, 0, none⟩) 1 wc) 1 [.int .i64 me, .slice (some ⟨gg, 0, none⟩) 3 3] ∧ Upd (sb :: gh :: (Value.slice none 0 0).ownBlock.toList) w3 w4 ∧ ((Value.slice none 0 0).ownBlock = some lb ∨ w3.heap.size ≤ lb) ∧ w3.heap.size ≤ wb) (fun w3 gg cb pg pc sends' pays' hW => hold_first hb hb (hb + 1) sb gh nn nn me 3 3 nn ff 0 V (some ⟨gg, 0, none⟩) w3 _ (.slice none 0 0) harr (by have := hW.f_upd.size; omega) hW.f_s (hgh3.out w3 hW.f_upd) hmn Hha0.out.2 hc (World.ownsRow_nil _ _ _ _) hff1 hff2)).mono ?_
  rintro e w4 ⟨rfl, w3, gg, cb, pg, pc, sends', pays', hW, hpost⟩
  obtain ⟨lb, lc, wb, wc, hs4', hgh4', hl4', hw4', hu4', hlbA, hwbA⟩ := hpost
  have hu4 : Upd [sb, gh] w3 w4 := hu4'
  have hgh3' := hgh3.out w3 hW.f_upd
  have keep : ∀ (b : Nat) (c : Array Value) (ty : TypeId) (f : Nat × Nat), w3.heap[b]? = some (.cells c ty f) → ty ≠ 51 → ty ≠ 37 → ty ≠ 29 → b ∉ ([sb, gh] : List Nat) := by
    intro b c ty f hb1 t1 t2 t3
    have m1 : b ≠ sb := ne_elem hb1 hW.f_s t1
    have m2 : b ≠ gh := ne_elem hb1 hgh3' t2
    have m3 : b ≠ hb := ne_elem hb1 hW.f_h t3
    simp
    try exact ⟨m1, m2⟩
    try exact ⟨m1, m2, m3⟩
  have hg4 : Hid (w4.heap[hb + 1]? = some (.cells #[.int .u8 Tag, pays', .int .i64 0] 33 (0,0))) := hu4.keep hW.f_g (keep _ _ _ _ hW.f_g (by decide) (by decide) (by decide))
  have hcopy4 : Hid (w4.heap[cb]? = some (.cells (payCells V).toArray 5 (0,0))) := hu4.keep hW.f_copy (keep _ _ _ _ hW.f_copy (by decide) (by decide) (by decide))
  have hsig4 : Hid (w4.heap[gg]? = some (.cells #[.int .u8 Tag, .int .u8 35, .int .u8 0] 5 (0,0))) := hu4.keep hW.f_sig (keep _ _ _ _ hW.f_sig (by decide) (by decide) (by decide))
  have hpays4 : Hid (w4.ownsRow hb 39 1 pays' 1 [.slice (some ⟨cb, 0, none⟩) 35 35]) := hu4.owns hW.f_pays (by
    intro g hgo
    obtain ⟨_, h1, _⟩ := owns_block hW.f_pays hgo
    exact keep _ _ _ _ h1 (by decide) (by decide) (by decide))
  have hsent4 : Hid (w4.ownsRow hb 71 7 sends' (0 + (others me nn).length) ([] ++ sentTo me V (.slice (some ⟨gg, 0, none⟩) 3 3) nn)) := hu4.owns hW.f_sent (by
    intro g hgo
    obtain ⟨_, h1, _⟩ := owns_block hW.f_sent hgo
    exact keep _ _ _ _ h1 (by decide) (by decide) (by decide))
  have U4 : Hid (Upd [] w w4) := by
    refine Upd.transTo (HU1.out.transTo hW.f_upd ?_) hu4 ?_
    · intro j hj
      simp [Value.ownBlock] at hj
      right
      omega
    · intro j hj
      simp at hj
      try (right; omega)
  have hs4 : Hid (w4.heap[sb]? = some (.cells (sCells hb (hb + 1) (.slice (some ⟨pg, 0, none⟩) 35 pc) me nn ff 0 (.slice (some ⟨gh, 0, none⟩) nn nn) (.slice (some ⟨lb, 0, none⟩) 1 lc)) 51 (0,0))) := hs4'
  have hgh4 : Hid (w4.heap[gh]? = some (.cells (harr.setIfInBounds me (.int .u64 V)) 37 (0,0))) := hgh4'
  have hh4 : Hid (w4.heap[hb]? = some (.cells #[sends', .slice none 0 0, .int .i64 0, .int .i64 0] 29 (0,0))) := hu4.keep hW.f_h (by simp; exact ⟨by omega, Ne.symm n2⟩)
  have hl4 : Hid (w4.ownsRow hb 55 2 (.slice (some ⟨lb, 0, none⟩) 1 lc) 1 [.int .u64 V, .slice (some ⟨wb, 0, none⟩) 1 wc]) := hl4'
  have hw4 : Hid (w4.ownsRow hb 57 2 (.slice (some ⟨wb, 0, none⟩) 1 wc) 1 [.int .i64 me, .slice (some ⟨gg, 0, none⟩) 3 3]) := hw4'
  have hof : Hid ((harr.setIfInBounds me (.int .u64 V))[me]? = some (.int .u64 V)) := by show _ = _; rw [Array.getElem?_setIfInBounds_self_of_lt (by rw [Hha0.out.1]; exact hmn)]
  clear hs4' hgh4' hl4' hw4' hu4' hlbA hwbA
  clear hW hgh3' keep hu4 hgh3 Hs1 Hha HU1 Hh1 Hg1
  obtain ⟨yb, yc, hyv, _, _⟩ := hpays4.out.form (by omega)
  subst hyv
  have y1 : w4.cell? ⟨hb + 1, 1, none⟩ = some (.slice (some ⟨yb, 0, none⟩) 1 yc) := cell_at hg4.out 1
  have y2 : w4.cell? ⟨hb + 1, 2, none⟩ = some (.int .i64 0) := cell_at hg4.out 2
  have y3 : w4.cell? ⟨yb, 0, none⟩ = some (.slice (some ⟨cb, 0, none⟩) 35 35) := hpays4.out.cellAt 0 (by omega)
  go_wp2_with fail
  refine (pok_any cb 35 V w4 hV hV2 hcopy4.out).mono ?_
  rintro e w5 ⟨rfl, hu5⟩
  clear y1 y2 y3
  have hcnt := others_count hmn
  obtain ⟨sa, sc, hsv, _⟩ := owns_slice hsent4.out
  obtain ⟨tt, htt⟩ : ∃ tt, (others me nn).length = tt := ⟨_, rfl⟩
  rw [htt] at hcnt hsv
  have Htt : Hid ((others me nn).length = tt) := htt
  clear htt
  rw [Nat.zero_add] at hsv
  subst hsv
  have hsent5 : Hid (w5.ownsRow hb 71 7 (.slice sa tt sc) tt (([] : List Value) ++ sentTo me V (.slice (some ⟨gg, 0, none⟩) 3 3) nn ++ [])) := by
    have h := hu5.owns hsent4.out (by simp)
    rw [Htt.out] at h
    show w5.ownsRow _ _ _ _ _ _
    simpa using h
  have hh5 : Hid (w5.heap[hb]? = some (.cells #[.slice sa tt sc, (.slice none 0 0), .int .i64 0, .int .i64 0] 29 (0,0))) := hu5.keep hh4.out (by simp)
  have hsig5 : Hid (w5.heap[gg]? = some (.cells #[.int .u8 Tag, .int .u8 35, .int .u8 0] 5 (0,0))) := hu5.keep hsig4.out (by simp)
  have z0 : w5.cell? ⟨hb, 0, none⟩ = some (.slice sa tt sc) := cell_at hh5.out 0
  have z2 : w5.cell? ⟨hb, 2, none⟩ = some (.int .i64 0) := cell_at hh5.out 2
  have z3 : w5.cell? ⟨hb, 3, none⟩ = some (.int .i64 0) := cell_at hh5.out 3
  have t1 : (tt : Int) ≤ (nn : Int) - 1 := by omega
  have t2 : (nn : Int) - 1 ≤ (tt : Int) := by omega
  have zl : hb < w5.heap.size := lt_of_heap hh5.out
  go_wp2_with fail
  refine (sendsok_any hb hb 0 nn me tt gg w5.heap.size 3 V Tag 0 _ (.slice sa tt sc) _ _ _ [] [] (heap_past hh5.out _) (hsent5.out.alloc _) rfl (heap_past hsig5.out _) (heap_last w5 _ _ rfl) (by omega) (by omega)).mono ?_
  rintro e w6 ⟨rfl, hu6⟩
  clear z0 z2 z3
  have U56 : Hid (Upd [] w4 w6) := (Upd.alloc hu5 _).transTo hu6 (by simp)
  have hsigl : Hid (w6.heap[w5.heap.size]? = some (.cells #[.int .u8 Tag, .int .u8 35, .int .u8 0] 5 (0,0))) := hu6.keep (heap_last w5 _ _ rfl) (by simp)
  clear hu5 hu6 hsent5 hh5 hsig5
  have hs6 : Hid (w6.heap[sb]? = some (.cells (sCells hb (hb + 1) (.slice (some ⟨pg, 0, none⟩) 35 pc) me nn ff 0 (.slice (some ⟨gh, 0, none⟩) nn nn) (.slice (some ⟨lb, 0, none⟩) 1 lc)) 51 (0,0))) := U56.out.keep hs4.out (by simp)
  have hgh6 : Hid (w6.heap[gh]? = some (.cells (harr.setIfInBounds me (.int .u64 V)) 37 (0,0))) := U56.out.keep hgh4.out (by simp)
  have hh6 : Hid (w6.heap[hb]? = some (.cells #[.slice sa tt sc, (.slice none 0 0), .int .i64 0, .int .i64 0] 29 (0,0))) := U56.out.keep hh4.out (by simp)
  go_wp2_with fail
  refine (of_any hb (hb + 1) sb gh nn me nn ff 0 V me w6 _ _ _ nn hs6.out hgh6.out hmn hof.out).mono ?_
  rintro e w7 ⟨rfl, rfl⟩
  have p1 : w7.cell? ⟨hb, 1, none⟩ = some (.slice none 0 0) := cell_at hh6.out 1
  have p6 : w7.cell? ⟨sb, 6, none⟩ = some (.int .u64 0) := cell_at hs6.out 6
  have p8 : w7.cell? ⟨sb, 8, none⟩ = some (.slice (some ⟨lb, 0, none⟩) 1 lc) := cell_at hs6.out 8
  have q0 : w7.cell? ⟨lb, 0, none⟩ = some (.int .u64 V) := (U56.out.owns hl4.out (by simp)).cellAt 0 (by omega)
  have q1 : w7.cell? ⟨lb, 1, none⟩ = some (.slice (some ⟨wb, 0, none⟩) 1 wc) := (U56.out.owns hl4.out (by simp)).cellAt 1 (by omega)
  have q2 : w7.cell? ⟨wb, 0, none⟩ = some (.int .i64 me) := (U56.out.owns hw4.out (by simp)).cellAt 0 (by omega)
  have q3 : w7.cell? ⟨wb, 1, none⟩ = some (.slice (some ⟨gg, 0, none⟩) 3 3) := (U56.out.owns hw4.out (by simp)).cellAt 1 (by omega)
  have v1 : (V == 0) = false := by simp; omega
  have z1 : (ff == 0) = false := by simp; omega
  go_wp2_with fail
  have r1 := sig_cells (heap_past (U56.out.keep hsig4.out (by simp)) (.cells #[.int .i64 me, .slice (some ⟨gg, 0, none⟩) 3 3] 57))
  have r2 := sig_cells (heap_past hsigl.out (.cells #[.int .i64 me, .slice (some ⟨gg, 0, none⟩) 3 3] 57))
  refine (beq_true gg 0 3 w5.heap.size 0 3 [Tag, 35, 0] _ (by simp) r1 r2).mono ?_
  rintro e w8 ⟨rfl, nd, rfl⟩
  clear r1 r2 p1 p6 p8 q0 q1 q2 q3
  go_wp2
  go_ret
  exact ⟨rfl, (Upd.alloc (U4.out.transTo U56.out (by simp)) _).drewN _⟩

theorem fresh_any (N Self F V Tag : Int) (w : World) (hN : 0 ≤ N) (hN2 : N ≤ 65535) (hS : 0 ≤ Self) (hS2 : Self ≤ 65535) (hF : 0 ≤ F) (hF2 : F ≤ 65535) (hV : 0 ≤ V) (hV2 : V ≤ 18446744073709551615) :
    Calls Ybaf.prog 3 #[.int .u16 N, .int .u16 Self, .int .u16 F, .int .u64 V, .int .u8 Tag] w
      fun e w' => e = .returned (.bool true) ∧ Upd [] w w' := by
  have hf0 := Int.emod_nonneg F (show N % 512 / 2 + 1 ≠ 0 by omega)
  by_cases h0 : V ≤ 0
  · exact fresh_zero N Self F V Tag w hN hN2 hS hS2 hF hF2 hV hV2 h0
  · by_cases h1 : F % (N % 512 / 2 + 1) = 0
    · exact fresh_enter N Self F V Tag w hN hN2 hS hS2 hF hF2 hV hV2 (by omega) h1
    · exact fresh_keep N Self F V Tag w hN hN2 hS hS2 hF hF2 hV hV2 (by omega) (by omega)
end Go.Proofs.YbulkcskmFmt
