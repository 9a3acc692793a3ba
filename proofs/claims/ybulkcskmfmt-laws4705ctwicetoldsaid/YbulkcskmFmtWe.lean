/-
  WALKS, FIFTH PART: (*highestWishes).raise: a stale wish; the first; a later one.
-/
import Derived.Test.YbulkcskmFmtWd
import Derived.Test.YbulkcskmFmtLex
namespace Go.Proofs.YbulkcskmFmt
open Go.RowKit Go.Lib
attribute [local go_sem ↓] Go.wp_at_zero Go.wp_at_succ

set_option maxRecDepth 100000 in
set_option maxHeartbeats 1000000 in
theorem raise_stale (hb gb sb gh m hc i sl sc : Nat) (n f view v old : Int) (sa : Option Addr) (w : World) (pv lv : Value) (harr : Array Value)
    (hs : w.heap[sb]? = some (.cells (sCells hb gb pv i n f view (.slice (some ⟨gh, 0, none⟩) m hc) lv) 51 (0,0)))
    (hh : w.heap[gh]? = some (.cells harr 37 (0,0))) (hi : i < m) (ho : harr[i]? = some (.int .u64 old)) (hv : v ≤ old) :
    Calls Ybaf.prog 16 #[.pointer (some ⟨sb, 7, none⟩), .agg #[.int .i64 i, .slice sa sl sc], .int .u64 v] w
      fun e w' => e = .returned (.bool false) ∧ Upd [] w w' := by
  have c7 : w.cell? ⟨sb, 7, none⟩ = some (.slice (some ⟨gh, 0, none⟩) m hc) := cell_at hs 7
  have l0 : w.cell? ⟨gh, i, none⟩ = some (.int .u64 old) := (cell_at hh i).trans ho
  have hlt := lt_of_heap hs
  have hlt2 := lt_of_heap hh
  have hi1 : (i : Int) < (m : Int) := by omega
  have hi0 : (0 : Int) ≤ (i : Int) := by omega
  clear hs hh ho
  go_enter Ybaf.func16, Ybaf.ntmps16
  go_wp2
  go_quiet (fail)
  go_wp2
  go_ret
  exact ⟨rfl, ((Upd.refl [] w).alloc _).drewN _⟩

set_option maxRecDepth 100000 in
set_option maxHeartbeats 2000000 in
theorem raise_fresh (B hb gb sb gh m hc i sl sc : Nat) (n f view v : Int) (sa : Option Addr) (w : World) (pv lv : Value) (harr : Array Value) (hB : B ≤ w.heap.size)
    (hs : w.heap[sb]? = some (.cells (sCells hb gb pv i n f view (.slice (some ⟨gh, 0, none⟩) m hc) lv) 51 (0,0)))
    (hh : w.heap[gh]? = some (.cells harr 37 (0,0))) (hi : i < m) (ho : harr[i]? = some (.int .u64 0)) (hv : 0 < v) (hl : w.ownsRow B 55 2 lv 0 []) :
    Calls Ybaf.prog 16 #[.pointer (some ⟨sb, 7, none⟩), .agg #[.int .i64 i, .slice sa sl sc], .int .u64 v] w
      fun e w' => e = .returned (.bool true) ∧ ∃ lb lc wb wc, w'.heap[sb]? = some (.cells (sCells hb gb pv i n f view (.slice (some ⟨gh, 0, none⟩) m hc) (.slice (some ⟨lb, 0, none⟩) 1 lc)) 51 (0,0)) ∧
       w'.heap[gh]? = some (.cells (harr.setIfInBounds i (.int .u64 v)) 37 (0,0)) ∧ w'.ownsRow B 55 2 (.slice (some ⟨lb, 0, none⟩) 1 lc) 1 [.int .u64 v, .slice (some ⟨wb, 0, none⟩) 1 wc] ∧
       w'.ownsRow B 57 2 (.slice (some ⟨wb, 0, none⟩) 1 wc) 1 [.int .i64 i, .slice sa sl sc] ∧ Upd (sb :: gh :: lv.ownBlock.toList) w w' ∧ (lv.ownBlock = some lb ∨ w.heap.size ≤ lb) ∧ w.heap.size ≤ wb := by
  obtain ⟨i0, hi0, hz0, hz1, hz2⟩ := info_parts Ybaf.info55
  obtain ⟨j0, hj0, hy0, hy1, hy2⟩ := info_parts Ybaf.info57
  have c7 : w.cell? ⟨sb, 7, none⟩ = some (.slice (some ⟨gh, 0, none⟩) m hc) := cell_at hs 7
  have l0 : w.cell? ⟨gh, i, none⟩ = some (.int .u64 0) := (cell_at hh i).trans ho
  have fz := free_at hh i
  have hlt := lt_of_heap hs
  have hlt2 := lt_of_heap hh
  have hi1 : (i : Int) < (m : Int) := by omega
  have hi2 : (0 : Int) ≤ (i : Int) := by omega
  have hne1 : sb ≠ gh := ne_elem hs hh (by decide)
  have Hs : Hid (w.heap[sb]? = some (.cells (sCells hb gb pv i n f view (.slice (some ⟨gh, 0, none⟩) m hc) lv) 51 (0,0))) := hs
  have Hh : Hid (w.heap[gh]? = some (.cells harr 37 (0,0))) := hh
  have HL : Hid (w.ownsRow B 55 2 lv 0 []) := hl
  obtain ⟨la, lc, hlv, _⟩ := owns_slice hl
  subst hlv
  have hnl1 : (Value.slice la 0 lc).ownBlock ≠ some sb := owns_ne hl hs (by decide)
  have hnl2 : (Value.slice la 0 lc).ownBlock ≠ some gh := owns_ne hl hh (by decide)
  have hnl3 : ∀ k, w.heap.size ≤ k → (Value.slice la 0 lc).ownBlock ≠ some k := by
    intro k hk h
    obtain ⟨_, h1, _⟩ := owns_block hl h
    have := lt_of_heap h1
    omega
  clear hs hh ho hl
  go_enter Ybaf.func16, Ybaf.ntmps16
  go_wp2
  go_quiet (fail)
  go_wp2
  go_region
  all_goals go_wp2_with fail
  generalize hw1 : (((w.alloc (.cells #[.int .i64 i, .slice sa sl sc] 57)).drewN (nq + 1)).setCell ⟨gh, i, none⟩ (.int .u64 v)) = w1
  have hs1 : Hid (w1.heap[sb]? = some (.cells (sCells hb gb pv i n f view (.slice (some ⟨gh, 0, none⟩) m hc) (.slice la 0 lc)) 51 (0,0))) := by rw [← hw1]; exact (set_ne (by simp; omega)).trans (heap_past Hs.out _)
  have hh1 : Hid (w1.heap[gh]? = some (.cells (harr.setIfInBounds i (.int .u64 v)) 37 (0,0))) := by rw [← hw1]; exact set_at (w := (w.alloc _).drewN _) (heap_past Hh.out _) i _
  have hx1 : Hid (w1.heap[w.heap.size]? = some (.cells #[.int .i64 i, .slice sa sl sc] 57 (0,0))) := by rw [← hw1]; exact (set_ne (by simp; omega)).trans (heap_last w _ _ rfl)
  have U1 : Hid (Upd (sb :: gh :: (Value.slice la 0 lc).ownBlock.toList) w w1) := by rw [← hw1]; exact Upd.setCell (Upd.drewN (Upd.alloc (Upd.refl _ w) _) _) (.inl (by simp)) _
  have HL1 : Hid (w1.ownsRow B 55 2 (.slice la 0 lc) 0 []) := by rw [← hw1]; exact owns_set (w := (w.alloc _).drewN _) (HL.out.alloc _) hnl2 _
  have hz : w.heap.size + 1 = w1.heap.size := by rw [← hw1]; simp
  clear hw1 c7 l0 fz
  refine (find_empty hb gb sb lc i n f view 0 la w1 pv _ hs1.out).mono ?_
  rintro e w' ⟨rfl, rfl⟩
  go_wp2_with fail
  refine (find_empty hb gb sb lc i n f view v la w' pv _ hs1.out).mono ?_
  rintro e w1 ⟨rfl, rfl⟩
  have c8 : w1.cell? ⟨sb, 8, none⟩ = some (.slice la 0 lc) := cell_at hs1.out 8
  go_wp2_with (at_builtin; go_must (refine wpList_append_lies _ (by rfl) _ _ _ (by rfl) B 55 i0 _ 2 32 Ybaf.underlying47 hi0 hz0 hz1 hz2 rfl (by omega) (.slice la 0 lc) 0 [] (by rfl) (HL1.out.alloc _) ⟨w1.heap.size, 0, none⟩ 1 1 [.int .u64 0, .slice none 0 0] (by rfl) (by rfl) (World.news_of_block (cs := #[.int .u64 0, .slice none 0 0]) (heap_last w1 _ _ (by simp))) (by simp [Value.oneCell']) (by omega) (by unfold maxLen; omega) (by omega) (by simp; omega) (w1.heap.size + 1) (by simp) ?_); intro lb c2 w2 hown2 hgrow2 hat2 hlt2; simp only [Nat.zero_add, List.nil_append] at hown2 ⊢; have hs2 : Hid (w2.heap[sb]? = some (.cells (sCells hb gb pv i n f view (.slice (some ⟨gh, 0, none⟩) m hc) (.slice la 0 lc)) 51 (0,0))) := (hgrow2.block sb (by simp; omega) (Ne.symm hnl1)).trans (heap_past hs1.out _); have f8 := free_at hs2.out 8; have c28 : w2.cell? ⟨sb, 8, none⟩ = some (.slice la 0 lc) := cell_at hs2.out 8)
  have hh2 : w2.heap[gh]? = some (.cells (harr.setIfInBounds i (.int .u64 v)) 37 (0,0)) := (hgrow2.block gh (by simp; omega) (Ne.symm hnl2)).trans (heap_past hh1.out _)
  have hx2 : w2.heap[w.heap.size]? = some (.cells #[.int .i64 i, .slice sa sl sc] 57 (0,0)) := (hgrow2.block w.heap.size (by simp; omega) (Ne.symm (hnl3 _ (Nat.le_refl _)))).trans (heap_past hx1.out _)
  have U2 : Upd (sb :: gh :: (Value.slice la 0 lc).ownBlock.toList) w w2 := Upd.grown (Upd.alloc U1.out _) hgrow2 (fun k hk => .inl (by simp [hk]))
  have hz2' : w1.heap.size < w2.heap.size := by have := hgrow2.size; simp at this; omega
  have hA2 : (Value.slice la 0 lc).ownBlock = some lb ∨ w.heap.size ≤ lb := by
    rcases hat2 with h | h
    · exact .inl h
    · exact .inr (by omega)
  have hnlb : lb ≠ sb := by obtain ⟨_, h, _⟩ := owns_open hown2; exact ne_elem h hs2.out (by decide)
  generalize hw3 : w2.setCell ⟨sb, 8, none⟩ (.slice (some ⟨lb, 0, none⟩) 1 c2) = w3
  have hs3 : Hid (w3.heap[sb]? = some (.cells (sCells hb gb pv i n f view (.slice (some ⟨gh, 0, none⟩) m hc) (.slice (some ⟨lb, 0, none⟩) 1 c2)) 51 (0,0))) := by rw [← hw3]; exact set_at hs2.out 8 _
  have hh3 : Hid (w3.heap[gh]? = some (.cells (harr.setIfInBounds i (.int .u64 v)) 37 (0,0))) := by rw [← hw3]; exact (set_ne (Ne.symm hne1)).trans hh2
  have hx3 : Hid (w3.heap[w.heap.size]? = some (.cells #[.int .i64 i, .slice sa sl sc] 57 (0,0))) := by rw [← hw3]; exact (set_ne (by simp; omega)).trans hx2
  have hown3 : Hid (w3.ownsRow B 55 2 (.slice (some ⟨lb, 0, none⟩) 1 c2) 1 [.int .u64 0, .slice none 0 0]) := by rw [← hw3]; exact owns_set hown2 (by simp [Value.ownBlock]; exact hnlb) _
  have U3 : Hid (Upd (sb :: gh :: (Value.slice la 0 lc).ownBlock.toList) w w3) := by rw [← hw3]; exact Upd.setCell U2 (.inl (by simp)) _
  have hz3 : w1.heap.size < w3.heap.size := by rw [← hw3]; simpa using hz2'
  clear hw3 hs2 hh2 hx2 U2 hown2 hgrow2 hat2 f8 c28 c8 hs1 hh1 hx1 U1 HL1 hlt2
  have hw1' : IntKind.i64.wrap 1 = 1 := by decide
  obtain ⟨A, hA⟩ : ∃ A, (if c2 = 1 then some (⟨lb, 0, none⟩ : Addr) else some ⟨lb, 2, none⟩) = A := ⟨_, rfl⟩
  have c38 : w3.cell? ⟨sb, 8, none⟩ = some (.slice (some ⟨lb, 0, none⟩) 1 c2) := cell_at hs3.out 8
  have hc2 : 1 ≤ c2 := by obtain ⟨_, _, _, h, _⟩ := owns_open hown3.out; exact h
  refine wp_region_lex [0,0,0,1,0,0,0,0,0,0,1,0,0,2] (fun w' => Upd [] w3 w') (by kernel_rfl) (by kernel_rfl) (fun _ _ _ _ _ h => h) ((Upd.refl [] w3).drew) ?_
  simp only [List.zip_cons_cons, List.zip_nil_right]
  repeat (first
    | (refine lex0 ?_ rfl ?_ ?_; rotate_left; (focus (intro w'; go_simp; (first | done | with_reducible rfl))); simp only [Act.put, List.setIfInBounds_toArray, List.set_cons_zero, List.set_cons_succ])
    | (refine lex1 ?_ rfl ?_ ?_; rotate_left; (focus (intro w' hSw; replace hSw : Upd [] w3 w' := hSw; have e1 := hSw.cell c38 (by simp); go_simp; (first | done | with_reducible rfl))); simp only [Act.put, List.setIfInBounds_toArray, List.set_cons_zero, List.set_cons_succ]))
  refine lex2 (fun K hK => ?_)
  refine step_copy_zero (by rfl) (.tmp 95) (.tmp 101) _ _ (by rfl) 55 i0 Ybaf.underlying47 hi0 A (some ⟨lb, 0, none⟩) 0 (c2 - 1) 1 c2 (by rfl) (by rfl) (by simp) ?_
  refine hK _ _ ((Upd.refl [] w3).drew) ?_
  clear hK K
  try simp only [Act.put, List.setIfInBounds_toArray, List.set_cons_zero, List.set_cons_succ]
  refine lexE ?_
  have k0 : w3.cell? ⟨lb, 0, none⟩ = some (.int .u64 0) := hown3.out.cellAt 0 (by omega)
  have k1 : w3.cell? ⟨lb, 1, none⟩ = some (.slice none 0 0) := hown3.out.cellAt 1 (by omega)
  have f0 := hown3.out.frozenAt 0
  have f1 := hown3.out.frozenAt 1
  go_wp2
  have hown4 := ((hown3.out.stored 0 (.int .u64 v)).1.stored 1 (.slice none 0 0)).1
  have hs4' := (set_ne (w := w3.setCell ⟨lb, 0, none⟩ (.int .u64 v)) (a := ⟨lb, 1, none⟩) (v := .slice none 0 0) (Ne.symm hnlb)).trans ((set_ne (w := w3) (a := ⟨lb, 0, none⟩) (v := .int .u64 v) (Ne.symm hnlb)).trans hs3.out)
  have hngh : gh ≠ lb := by obtain ⟨_, h, _⟩ := owns_open hown3.out; exact ne_elem hh3.out h (by decide)
  have hnwh : w.heap.size ≠ lb := by obtain ⟨_, h, _⟩ := owns_open hown3.out; exact ne_elem hx3.out h (by decide)
  have hh4' := (set_ne (w := w3.setCell ⟨lb, 0, none⟩ (.int .u64 v)) (a := ⟨lb, 1, none⟩) (v := .slice none 0 0) hngh).trans ((set_ne (w := w3) (a := ⟨lb, 0, none⟩) (v := .int .u64 v) hngh).trans hh3.out)
  have hx4' := (set_ne (w := w3.setCell ⟨lb, 0, none⟩ (.int .u64 v)) (a := ⟨lb, 1, none⟩) (v := .slice none 0 0) hnwh).trans ((set_ne (w := w3) (a := ⟨lb, 0, none⟩) (v := .int .u64 v) hnwh).trans hx3.out)
  have U4' : Upd (sb :: gh :: (Value.slice la 0 lc).ownBlock.toList) w ((w3.setCell ⟨lb, 0, none⟩ (.int .u64 v)).setCell ⟨lb, 1, none⟩ (.slice none 0 0)) := by
    have hm : lb ∈ sb :: gh :: (Value.slice la 0 lc).ownBlock.toList ∨ w.heap.size ≤ lb := by
      rcases hA2 with h | h
      · exact .inl (by simp [h])
      · exact .inr h
    exact Upd.setCell (Upd.setCell U3.out hm _) hm _
  have hz4' : w1.heap.size < ((w3.setCell ⟨lb, 0, none⟩ (.int .u64 v)).setCell ⟨lb, 1, none⟩ (.slice none 0 0)).heap.size := by simpa using hz3
  generalize ((w3.setCell ⟨lb, 0, none⟩ (.int .u64 v)).setCell ⟨lb, 1, none⟩ (.slice none 0 0)) = w4 at hown4 hs4' hh4' hx4' U4' hz4' ⊢
  simp only [List.set_cons_zero, List.set_cons_succ] at hown4
  have hs4 : Hid (w4.heap[sb]? = some (.cells (sCells hb gb pv i n f view (.slice (some ⟨gh, 0, none⟩) m hc) (.slice (some ⟨lb, 0, none⟩) 1 c2)) 51 (0,0))) := hs4'
  have hh4 : Hid (w4.heap[gh]? = some (.cells (harr.setIfInBounds i (.int .u64 v)) 37 (0,0))) := hh4'
  have hx4 : Hid (w4.heap[w.heap.size]? = some (.cells #[.int .i64 i, .slice sa sl sc] 57 (0,0))) := hx4'
  have U4 : Hid (Upd (sb :: gh :: (Value.slice la 0 lc).ownBlock.toList) w w4) := U4'
  have Hown4 : Hid (w4.ownsRow B 55 2 (.slice (some ⟨lb, 0, none⟩) 1 c2) 1 [.int .u64 v, .slice none 0 0]) := hown4
  clear hown4 hs4' hh4' hx4' U4' hs3 hh3 hx3 U3 hown3 k0 k1 f0 f1 c38
  have d8 : w4.cell? ⟨sb, 8, none⟩ = some (.slice (some ⟨lb, 0, none⟩) 1 c2) := cell_at hs4.out 8
  have k0 : w4.cell? ⟨lb, 0, none⟩ = some (.int .u64 v) := Hown4.out.cellAt 0 (by omega)
  have k1 : w4.cell? ⟨lb, 1, none⟩ = some (.slice none 0 0) := Hown4.out.cellAt 1 (by omega)
  have x0 : w4.cell? ⟨w.heap.size, 0, none⟩ = some (.int .i64 i) := cell_at hx4.out 0
  have x1 : w4.cell? ⟨w.heap.size, 1, none⟩ = some (.slice sa sl sc) := cell_at hx4.out 1
  have f1 := Hown4.out.frozenAt 1
  have hbw : w.heap.size < w4.heap.size := by omega
  have hbs : sb < w4.heap.size := by omega
  have hbl : lb < w4.heap.size := by obtain ⟨_, h, _⟩ := owns_open Hown4.out; exact lt_of_heap h
  have hbg : gh < w4.heap.size := by omega
  refine wp_region_lex [0,0,0,1,0,0,0,0,1,0,0,0,1,1,2,2,4,4,3] (fun w' => Upd [] w4 w') (by kernel_rfl) (by kernel_rfl) (fun _ _ _ _ _ h => h) ((Upd.refl [] w4).drew.drew) ?_
  simp only [List.zip_cons_cons, List.zip_nil_right]
  repeat (first
    | (refine lex0 ?_ rfl ?_ ?_; rotate_left; (focus (intro w'; go_simp; (first | done | with_reducible rfl))); simp only [Act.put, List.setIfInBounds_toArray, List.set_cons_zero, List.set_cons_succ])
    | (refine lex1 ?_ rfl ?_ ?_; rotate_left; (focus (intro w' hSw; replace hSw : Upd [] w4 w' := hSw; have e1 := hSw.cell d8 (by simp); have e2 := hSw.cell k1 (by simp); have e3 := hSw.cell x0 (by simp); have e4 := hSw.cell x1 (by simp); go_simp; (first | done | with_reducible rfl))); simp only [Act.put, List.setIfInBounds_toArray, List.set_cons_zero, List.set_cons_succ]))
  refine lex2 (fun K hK => ?_)
  go_simp
  refine hK _ _ ((Upd.alloc (Upd.refl [] w4) _).drew.drew) ?_
  clear hK K
  try simp only [Act.put, List.setIfInBounds_toArray, List.set_cons_zero, List.set_cons_succ]
  refine lex2 (fun K hK => ?_)
  refine step_append_lies _ (by rfl) _ _ _ (by rfl) B 57 j0 _ 2 32 Ybaf.underlying53 hj0 hy0 hy1 hy2 rfl (by omega) (.slice none 0 0) 0 [] (by rfl) (World.ownsRow_nil _ _ _ _) ⟨w4.heap.size, 0, none⟩ 1 1 [.int .i64 i, .slice sa sl sc] (by rfl) (by rfl) (World.news_of_block (cs := #[.int .i64 i, .slice sa sl sc]) (t := 57) (fr := (0, 0)) (heap_last w4 _ _ (by simp))) (by simp [Value.oneCell']) (by omega) (by unfold maxLen; omega) (by omega) (by simp; omega) (w4.heap.size + 1) (by simp) ?_
  intro wb wc w5 hown5 hgrow5 hat5 hlt5
  have U5 : Upd [] w4 w5 := Upd.grown (Upd.drew (Upd.drew (Upd.alloc (Upd.refl [] w4) _))) hgrow5 (by simp [Value.ownBlock])
  refine hK _ _ U5 ?_
  clear hK K
  have e5 := U5.cell k1 (by simp)
  have hl5 := owns_open (U5.owns Hown4.out (by simp))
  obtain ⟨larr, hl5, _⟩ := hl5
  have f5 := free_at hl5 1
  try simp only [Act.put, List.setIfInBounds_toArray, List.set_cons_zero, List.set_cons_succ]
  repeat (refine lex4 ?_ rfl ?_ ?_; rotate_left; (focus (intro w'; go_simp; (first | done | with_reducible rfl))); simp only [Act.put, List.setIfInBounds_toArray, List.set_cons_zero, List.set_cons_succ])
  refine lex3 (fun K hK => ?_)
  go_simp
  refine hK _ _ ?_
  clear hK K
  try simp only [Act.put, List.setIfInBounds_toArray, List.set_cons_zero, List.set_cons_succ]
  refine lexE ?_
  go_wp2
  go_ret
  have hwlb : wb ≠ lb := by obtain ⟨_, h, _⟩ := owns_open hown5; exact ne_elem h hl5 (by decide)
  have hm : lb ∈ sb :: gh :: (Value.slice la 0 lc).ownBlock.toList ∨ w.heap.size ≤ lb := by
    rcases hA2 with h | h
    · exact .inl (by simp [h])
    · exact .inr h
  refine ⟨rfl, lb, c2, wb, wc, ?_, ?_, ?_, ?_, ?_, hA2, ?_⟩
  · exact (set_ne (Ne.symm hnlb)).trans (U5.keep hs4.out (by simp))
  · exact (set_ne hngh).trans (U5.keep hh4.out (by simp))
  · exact ((U5.owns Hown4.out (by simp)).stored 1 (.slice (some ⟨wb, 0, none⟩) 1 wc)).1
  · exact owns_set hown5 (by simp [Value.ownBlock]; exact hwlb) _
  · exact Upd.setCell (U4.out.transTo U5 (by simp)) hm _
  · rcases hat5 with h | h
    · simp [Value.ownBlock] at h
    · omega

set_option maxRecDepth 100000 in
set_option maxHeartbeats 4000000 in
theorem raise_again (B hb gb sb gh m hc i sl sc lb0 lc wb0 wc0 ol oc : Nat) (n f view v old : Int) (sa oa : Option Addr) (w : World) (pv : Value) (harr : Array Value) (hB : B ≤ w.heap.size)
    (hs : w.heap[sb]? = some (.cells (sCells hb gb pv i n f view (.slice (some ⟨gh, 0, none⟩) m hc) (.slice (some ⟨lb0, 0, none⟩) 1 lc)) 51 (0,0)))
    (hh : w.heap[gh]? = some (.cells harr 37 (0,0))) (hi : i < m) (ho : harr[i]? = some (.int .u64 old)) (hv : old < v)
    (hl : w.ownsRow B 55 2 (.slice (some ⟨lb0, 0, none⟩) 1 lc) 1 [.int .u64 old, .slice (some ⟨wb0, 0, none⟩) 1 wc0])
    (hwr : w.ownsRow B 57 2 (.slice (some ⟨wb0, 0, none⟩) 1 wc0) 1 [.int .i64 i, .slice oa ol oc]) :
    Calls Ybaf.prog 16 #[.pointer (some ⟨sb, 7, none⟩), .agg #[.int .i64 i, .slice sa sl sc], .int .u64 v] w
      fun e w' => e = .returned (.bool true) ∧ ∃ lb lc wb wc, w'.heap[sb]? = some (.cells (sCells hb gb pv i n f view (.slice (some ⟨gh, 0, none⟩) m hc) (.slice (some ⟨lb, 0, none⟩) 1 lc)) 51 (0,0)) ∧
       w'.heap[gh]? = some (.cells (harr.setIfInBounds i (.int .u64 v)) 37 (0,0)) ∧ w'.ownsRow B 55 2 (.slice (some ⟨lb, 0, none⟩) 1 lc) 1 [.int .u64 v, .slice (some ⟨wb, 0, none⟩) 1 wc] ∧
       w'.ownsRow B 57 2 (.slice (some ⟨wb, 0, none⟩) 1 wc) 1 [.int .i64 i, .slice sa sl sc] ∧ Upd [sb, gh, lb0, wb0] w w' ∧ (lb = lb0 ∨ w.heap.size ≤ lb) ∧ w.heap.size ≤ wb := by
  obtain ⟨i0, hi0, hz0, hz1, hz2⟩ := info_parts Ybaf.info55
  obtain ⟨j0, hj0, hy0, hy1, hy2⟩ := info_parts Ybaf.info57
  have c7 : w.cell? ⟨sb, 7, none⟩ = some (.slice (some ⟨gh, 0, none⟩) m hc) := cell_at hs 7
  have l0 : w.cell? ⟨gh, i, none⟩ = some (.int .u64 old) := (cell_at hh i).trans ho
  have fz := free_at hh i
  have hlt := lt_of_heap hs
  have hlt2 := lt_of_heap hh
  have hi1 : (i : Int) < (m : Int) := by omega
  have hi2 : (0 : Int) ≤ (i : Int) := by omega
  have hne1 : sb ≠ gh := ne_elem hs hh (by decide)
  obtain ⟨larr, hlh, hls, hl1, hlm, hlt0, hlB⟩ := owns_open hl
  obtain ⟨warr, hwh, hws, hw1w, hwm, hwt0, hwB⟩ := owns_open hwr
  have hLl := lt_of_heap hlh
  have hWl := lt_of_heap hwh
  have n1 : lb0 ≠ sb := ne_elem hlh hs (by decide)
  have n2 : lb0 ≠ gh := ne_elem hlh hh (by decide)
  have n3 : wb0 ≠ sb := ne_elem hwh hs (by decide)
  have n4 : wb0 ≠ gh := ne_elem hwh hh (by decide)
  have n5 : wb0 ≠ lb0 := ne_elem hwh hlh (by decide)
  have la0 : larr[0]? = some (.int .u64 old) := by have h := hl.cellAt 0 (by omega); rw [cell_at hlh] at h; simpa using h
  have la1 : larr[1]? = some (.slice (some ⟨wb0, 0, none⟩) 1 wc0) := by have h := hl.cellAt 1 (by omega); rw [cell_at hlh] at h; simpa using h
  have wa0 : warr[0]? = some (.int .i64 i) := by have h := hwr.cellAt 0 (by omega); rw [cell_at hwh] at h; simpa using h
  have wa1 : warr[1]? = some (.slice oa ol oc) := by have h := hwr.cellAt 1 (by omega); rw [cell_at hwh] at h; simpa using h
  have Hs : Hid (w.heap[sb]? = some (.cells (sCells hb gb pv i n f view (.slice (some ⟨gh, 0, none⟩) m hc) (.slice (some ⟨lb0, 0, none⟩) 1 lc)) 51 (0,0))) := hs
  have Hh : Hid (w.heap[gh]? = some (.cells harr 37 (0,0))) := hh
  have Hlh : Hid (w.heap[lb0]? = some (.cells larr 55 (0,0))) := hlh
  have Hwh : Hid (w.heap[wb0]? = some (.cells warr 57 (0,0))) := hwh
  have La : Hid (larr[0]? = some (.int .u64 old) ∧ larr[1]? = some (.slice (some ⟨wb0, 0, none⟩) 1 wc0)) := ⟨la0, la1⟩
  have Wa : Hid (warr[0]? = some (.int .i64 i) ∧ warr[1]? = some (.slice oa ol oc)) := ⟨wa0, wa1⟩
  have Ls : Hid (larr.size = lc * 2) := hls
  clear hs hh ho hl hwr hlh hwh la0 la1 wa0 wa1 hls hws hlt0 hwt0
  have hnl1 : (Value.slice (some ⟨lb0, 0, none⟩) 0 lc).ownBlock ≠ some sb := by simp [Value.ownBlock]; exact n1
  have hnl2 : (Value.slice (some ⟨lb0, 0, none⟩) 0 lc).ownBlock ≠ some gh := by simp [Value.ownBlock]; exact n2
  have hnl3 : ∀ k, w.heap.size ≤ k → (Value.slice (some ⟨lb0, 0, none⟩) 0 lc).ownBlock ≠ some k := by intro k hk; simp [Value.ownBlock]; omega
  go_enter Ybaf.func16, Ybaf.ntmps16
  go_wp2
  go_quiet (fail)
  go_wp2
  go_region
  all_goals go_wp2_with fail
  generalize hw1 : (((w.alloc (.cells #[.int .i64 i, .slice sa sl sc] 57)).drewN (nq + 1)).setCell ⟨gh, i, none⟩ (.int .u64 v)) = w1
  have hs1 : Hid (w1.heap[sb]? = some (.cells (sCells hb gb pv i n f view (.slice (some ⟨gh, 0, none⟩) m hc) (.slice (some ⟨lb0, 0, none⟩) 1 lc)) 51 (0,0))) := by rw [← hw1]; exact (set_ne (by simp; omega)).trans (heap_past Hs.out _)
  have hh1 : Hid (w1.heap[gh]? = some (.cells (harr.setIfInBounds i (.int .u64 v)) 37 (0,0))) := by rw [← hw1]; exact set_at (w := (w.alloc _).drewN _) (heap_past Hh.out _) i _
  have hx1 : Hid (w1.heap[w.heap.size]? = some (.cells #[.int .i64 i, .slice sa sl sc] 57 (0,0))) := by rw [← hw1]; exact (set_ne (by simp; omega)).trans (heap_last w _ _ rfl)
  have hl1' : Hid (w1.heap[lb0]? = some (.cells larr 55 (0,0))) := by rw [← hw1]; exact (set_ne n2).trans (heap_past Hlh.out _)
  have hwr1 : Hid (w1.heap[wb0]? = some (.cells warr 57 (0,0))) := by rw [← hw1]; exact (set_ne n4).trans (heap_past Hwh.out _)
  have U1 : Hid (Upd [sb, gh, lb0, wb0] w w1) := by rw [← hw1]; exact Upd.setCell (Upd.drewN (Upd.alloc (Upd.refl _ w) _) _) (.inl (by simp)) _
  have hz : w.heap.size + 1 ≤ w1.heap.size := by rw [← hw1]; simp
  clear hw1 c7 l0 fz
  refine (find_hit hb gb sb lb0 lc i n f view old w1 pv _ _ _ _ larr hs1.out hl1'.out La.out.1 La.out.2).mono ?_
  rintro e w2 ⟨rfl, hu2⟩
  have hs2 : Hid (w2.heap[sb]? = some (.cells (sCells hb gb pv i n f view (.slice (some ⟨gh, 0, none⟩) m hc) (.slice (some ⟨lb0, 0, none⟩) 1 lc)) 51 (0,0))) := hu2.keep hs1.out (by simp)
  have hh2 : Hid (w2.heap[gh]? = some (.cells (harr.setIfInBounds i (.int .u64 v)) 37 (0,0))) := hu2.keep hh1.out (by simp)
  have hx2 : Hid (w2.heap[w.heap.size]? = some (.cells #[.int .i64 i, .slice sa sl sc] 57 (0,0))) := hu2.keep hx1.out (by simp)
  have hl2 : Hid (w2.heap[lb0]? = some (.cells larr 55 (0,0))) := hu2.keep hl1'.out (by simp)
  have hwr2 : Hid (w2.heap[wb0]? = some (.cells warr 57 (0,0))) := hu2.keep hwr1.out (by simp)
  have U2 : Hid (Upd [sb, gh, lb0, wb0] w w2) := U1.out.transTo hu2 (by simp)
  have hzz2 : w.heap.size + 1 ≤ w2.heap.size := by have := hu2.size; omega
  clear hu2 hs1 hh1 hx1 hl1' hwr1 U1 hz
  have a8 : w2.cell? ⟨sb, 8, none⟩ = some (.slice (some ⟨lb0, 0, none⟩) 1 lc) := cell_at hs2.out 8
  have a1 : w2.cell? ⟨lb0, 1, none⟩ = some (.slice (some ⟨wb0, 0, none⟩) 1 wc0) := (cell_at hl2.out 1).trans La.out.2
  have ax : w2.cell? ⟨w.heap.size, 0, none⟩ = some (.int .i64 i) := cell_at hx2.out 0
  go_wp2_with fail
  refine wp_region_lex [0,0,0,1,0,0,0,0,1,0,0,0,1,0,1,2,4,4,3] (fun w' => Upd [wb0] w2 w') (by kernel_rfl) (by kernel_rfl) (fun _ _ _ _ _ h => h) ((Upd.refl [wb0] w2).drew) ?_
  simp only [List.zip_cons_cons, List.zip_nil_right]
  repeat (first
    | (refine lex0 ?_ rfl ?_ ?_; rotate_left; (focus (intro w'; go_simp; (first | done | with_reducible rfl))); simp only [Act.put, List.setIfInBounds_toArray, List.set_cons_zero, List.set_cons_succ])
    | (refine lex1 ?_ rfl ?_ ?_; rotate_left; (focus (intro w' hSw; replace hSw : Upd [wb0] w2 w' := hSw; have e1 := hSw.cell a8 (by simp; omega); have e2 := hSw.cell a1 (by simp; omega); have e3 := hSw.cell ax (by simp; omega); go_simp; (first | done | with_reducible rfl))); simp only [Act.put, List.setIfInBounds_toArray, List.set_cons_zero, List.set_cons_succ]))
  refine lex2 (fun K hK => ?_)
  go_simp
  refine (without_one wb0 wc0 ol oc i oa w2.drew warr hwr2.out Wa.out.1 Wa.out.2 hw1w).mono ?_
  rintro e w3 ⟨rfl, hu3⟩
  refine hK _ _ ((Upd.refl [wb0] w2).drew.transTo hu3 (fun i hi => .inl hi)) ?_
  clear hK K
  try simp only [Act.put, List.setIfInBounds_toArray, List.set_cons_zero, List.set_cons_succ]
  have hl3 : Hid (w3.heap[lb0]? = some (.cells larr 55 (0,0))) := hu3.keep hl2.out (by simp; omega)
  have f1 := free_at hl3.out 1
  have b1 : w3.cell? ⟨lb0, 1, none⟩ = some (.slice (some ⟨wb0, 0, none⟩) 1 wc0) := (cell_at hl3.out 1).trans La.out.2
  repeat (refine lex4 ?_ rfl ?_ ?_; rotate_left; (focus (intro w'; go_simp; (first | done | with_reducible rfl))); simp only [Act.put, List.setIfInBounds_toArray, List.set_cons_zero, List.set_cons_succ])
  refine lex3 (fun K hK => ?_)
  go_simp
  refine hK _ _ ?_
  clear hK K
  try simp only [Act.put, List.setIfInBounds_toArray, List.set_cons_zero, List.set_cons_succ]
  refine lexE ?_
  have hs3 := hu3.keep hs2.out (by simp; omega)
  have hh3 := hu3.keep hh2.out (by simp; omega)
  have hx3 := hu3.keep hx2.out (by simp; omega)
  have hzz3 : w.heap.size + 1 ≤ w3.heap.size := by have := hu3.size; simp at this; omega
  have U3 : Upd [sb, gh, lb0, wb0] w w3 := U2.out.drew.transTo hu3 (by intro i hi; left; simp at hi ⊢; exact .inr (.inr (.inr hi)))
  generalize hw4 : w3.setCell ⟨lb0, 1, none⟩ (.slice (some ⟨wb0, 0, none⟩) 0 wc0) = w4
  have hs4 : Hid (w4.heap[sb]? = some (.cells (sCells hb gb pv i n f view (.slice (some ⟨gh, 0, none⟩) m hc) (.slice (some ⟨lb0, 0, none⟩) 1 lc)) 51 (0,0))) := by rw [← hw4]; exact (set_ne (Ne.symm n1)).trans hs3
  have hh4 : Hid (w4.heap[gh]? = some (.cells (harr.setIfInBounds i (.int .u64 v)) 37 (0,0))) := by rw [← hw4]; exact (set_ne (Ne.symm n2)).trans hh3
  have hx4 : Hid (w4.heap[w.heap.size]? = some (.cells #[.int .i64 i, .slice sa sl sc] 57 (0,0))) := by rw [← hw4]; exact (set_ne (by simp; omega)).trans hx3
  have hl4 : Hid (w4.heap[lb0]? = some (.cells (larr.setIfInBounds 1 (.slice (some ⟨wb0, 0, none⟩) 0 wc0)) 55 (0,0))) := by rw [← hw4]; exact set_at hl3.out 1 _
  have U4 : Hid (Upd [sb, gh, lb0, wb0] w w4) := by rw [← hw4]; exact Upd.setCell U3 (.inl (by simp)) _
  have hz4 : w.heap.size + 1 ≤ w4.heap.size := by rw [← hw4]; simpa using hzz3
  have la4 : Hid ((larr.setIfInBounds 1 (.slice (some ⟨wb0, 0, none⟩) 0 wc0))[0]? = some (.int .u64 old)) := by show _ = _; rw [Array.getElem?_setIfInBounds_ne (by omega)]; exact La.out.1
  have hls1 : 1 < larr.size := by rw [Ls.out]; omega
  have la5 : Hid ((larr.setIfInBounds 1 (.slice (some ⟨wb0, 0, none⟩) 0 wc0))[1]? = some (.slice (some ⟨wb0, 0, none⟩) 0 wc0)) := by show _ = _; rw [Array.getElem?_setIfInBounds_self_of_lt hls1]
  have Ls4 : Hid ((larr.setIfInBounds 1 (.slice (some ⟨wb0, 0, none⟩) 0 wc0)).size = lc * 2) := by show _ = _; rw [Array.size_setIfInBounds]; exact Ls.out
  generalize larr.setIfInBounds 1 (.slice (some ⟨wb0, 0, none⟩) 0 wc0) = larr4 at hl4 la4 la5 Ls4
  clear hw4 hs3 hh3 hx3 U3 hu3 hl3 f1 b1 hs2 hh2 hx2 hl2 hwr2 U2 a8 a1 ax
  have a8 : w4.cell? ⟨sb, 8, none⟩ = some (.slice (some ⟨lb0, 0, none⟩) 1 lc) := cell_at hs4.out 8
  have a1 : w4.cell? ⟨lb0, 1, none⟩ = some (.slice (some ⟨wb0, 0, none⟩) 0 wc0) := (cell_at hl4.out 1).trans la5.out
  go_wp2_with fail
  refine (drop_one hb gb sb lb0 lc i n f view w4 pv _ _ _ larr4 hs4.out hl4.out la4.out la5.out hl1).mono ?_
  rintro e w1 ⟨rfl, hs1', ⟨larr5, hl5, hl5s⟩, hu5⟩
  have hs1 : Hid (w1.heap[sb]? = some (.cells (sCells hb gb pv i n f view (.slice (some ⟨gh, 0, none⟩) m hc) (.slice (some ⟨lb0, 0, none⟩) 0 lc)) 51 (0,0))) := hs1'
  have hh1 : Hid (w1.heap[gh]? = some (.cells (harr.setIfInBounds i (.int .u64 v)) 37 (0,0))) := hu5.keep hh4.out (by simp; omega)
  have hx1 : Hid (w1.heap[w.heap.size]? = some (.cells #[.int .i64 i, .slice sa sl sc] 57 (0,0))) := hu5.keep hx4.out (by simp; omega)
  have U1 : Hid (Upd [sb, gh, lb0, wb0] w w1) := U4.out.transTo hu5 (by intro i hi; left; simp at hi ⊢; omega)
  have hz : w.heap.size + 1 ≤ w1.heap.size := by have := hu5.size; omega
  have HL1 : Hid (w1.ownsRow B 55 2 (.slice (some ⟨lb0, 0, none⟩) 0 lc) 0 []) := ⟨by simp, .inr ⟨lb0, lc, larr5, rfl, hlB, hl5, Nat.zero_le _, hlm, by rw [hl5s]; exact Ls4.out, by simp⟩⟩
  clear hs1' hl5 hl5s hu5 hs4 hh4 hx4 hl4 U4 a8 a1 la4 la5 Ls4 hz4
  go_wp2_with fail
  refine (find_empty hb gb sb lc i n f view v (some ⟨lb0, 0, none⟩) w1 pv _ hs1.out).mono ?_
  rintro e w0 ⟨rfl, rfl⟩
  obtain ⟨w1, hww⟩ : ∃ w1, w1 = w0 := ⟨_, rfl⟩
  subst hww
  have c8 : w1.cell? ⟨sb, 8, none⟩ = some (.slice (some ⟨lb0, 0, none⟩) 0 lc) := cell_at hs1.out 8
  go_wp2_with (at_builtin; go_must (refine wpList_append_lies _ (by rfl) _ _ _ (by rfl) B 55 i0 _ 2 32 Ybaf.underlying47 hi0 hz0 hz1 hz2 rfl (by omega) (.slice (some ⟨lb0, 0, none⟩) 0 lc) 0 [] (by rfl) (HL1.out.alloc _) ⟨w1.heap.size, 0, none⟩ 1 1 [.int .u64 0, .slice none 0 0] (by rfl) (by rfl) (World.news_of_block (cs := #[.int .u64 0, .slice none 0 0]) (heap_last w1 _ _ (by simp))) (by simp [Value.oneCell']) (by omega) (by unfold maxLen; omega) (by omega) (by simp; omega) (w1.heap.size + 1) (by simp) ?_); intro lb c2 w2 hown2 hgrow2 hat2 hlt2; simp only [Nat.zero_add, List.nil_append] at hown2 ⊢; have hs2 : Hid (w2.heap[sb]? = some (.cells (sCells hb gb pv i n f view (.slice (some ⟨gh, 0, none⟩) m hc) (.slice (some ⟨lb0, 0, none⟩) 0 lc)) 51 (0,0))) := (hgrow2.block sb (by simp; omega) (Ne.symm hnl1)).trans (heap_past hs1.out _); have f8 := free_at hs2.out 8; have c28 : w2.cell? ⟨sb, 8, none⟩ = some (.slice (some ⟨lb0, 0, none⟩) 0 lc) := cell_at hs2.out 8)
  have hh2 : w2.heap[gh]? = some (.cells (harr.setIfInBounds i (.int .u64 v)) 37 (0,0)) := (hgrow2.block gh (by simp; omega) (Ne.symm hnl2)).trans (heap_past hh1.out _)
  have hx2 : w2.heap[w.heap.size]? = some (.cells #[.int .i64 i, .slice sa sl sc] 57 (0,0)) := (hgrow2.block w.heap.size (by simp; omega) (Ne.symm (hnl3 _ (Nat.le_refl _)))).trans (heap_past hx1.out _)
  have U2 : Upd [sb, gh, lb0, wb0] w w2 := Upd.grown (Upd.alloc U1.out _) hgrow2 (fun k hk => .inl (by simp [Value.ownBlock] at hk; simp [hk]))
  have hz2' : w1.heap.size < w2.heap.size := by have := hgrow2.size; simp at this; omega
  have hA2 : (Value.slice (some ⟨lb0, 0, none⟩) 0 lc).ownBlock = some lb ∨ w.heap.size ≤ lb := by
    rcases hat2 with h | h
    · exact .inl h
    · exact .inr (by omega)
  have hnlb : lb ≠ sb := by obtain ⟨_, h, _⟩ := owns_open hown2; exact ne_elem h hs2.out (by decide)
  generalize hw3 : w2.setCell ⟨sb, 8, none⟩ (.slice (some ⟨lb, 0, none⟩) 1 c2) = w3
  have hs3 : Hid (w3.heap[sb]? = some (.cells (sCells hb gb pv i n f view (.slice (some ⟨gh, 0, none⟩) m hc) (.slice (some ⟨lb, 0, none⟩) 1 c2)) 51 (0,0))) := by rw [← hw3]; exact set_at hs2.out 8 _
  have hh3 : Hid (w3.heap[gh]? = some (.cells (harr.setIfInBounds i (.int .u64 v)) 37 (0,0))) := by rw [← hw3]; exact (set_ne (Ne.symm hne1)).trans hh2
  have hx3 : Hid (w3.heap[w.heap.size]? = some (.cells #[.int .i64 i, .slice sa sl sc] 57 (0,0))) := by rw [← hw3]; exact (set_ne (by simp; omega)).trans hx2
  have hown3 : Hid (w3.ownsRow B 55 2 (.slice (some ⟨lb, 0, none⟩) 1 c2) 1 [.int .u64 0, .slice none 0 0]) := by rw [← hw3]; exact owns_set hown2 (by simp [Value.ownBlock]; exact hnlb) _
  have U3 : Hid (Upd [sb, gh, lb0, wb0] w w3) := by rw [← hw3]; exact Upd.setCell U2 (.inl (by simp)) _
  have hz3 : w1.heap.size < w3.heap.size := by rw [← hw3]; simpa using hz2'
  clear hw3 hs2 hh2 hx2 U2 hown2 hgrow2 hat2 f8 c28 c8 hs1 hh1 hx1 U1 HL1 hlt2
  have hw1' : IntKind.i64.wrap 1 = 1 := by decide
  obtain ⟨A, hA⟩ : ∃ A, (if c2 = 1 then some (⟨lb, 0, none⟩ : Addr) else some ⟨lb, 2, none⟩) = A := ⟨_, rfl⟩
  have c38 : w3.cell? ⟨sb, 8, none⟩ = some (.slice (some ⟨lb, 0, none⟩) 1 c2) := cell_at hs3.out 8
  have hc2 : 1 ≤ c2 := by obtain ⟨_, _, _, h, _⟩ := owns_open hown3.out; exact h
  refine wp_region_lex [0,0,0,1,0,0,0,0,0,0,1,0,0,2] (fun w' => Upd [] w3 w') (by kernel_rfl) (by kernel_rfl) (fun _ _ _ _ _ h => h) ((Upd.refl [] w3).drew) ?_
  simp only [List.zip_cons_cons, List.zip_nil_right]
  repeat (first
    | (refine lex0 ?_ rfl ?_ ?_; rotate_left; (focus (intro w'; go_simp; (first | done | with_reducible rfl))); simp only [Act.put, List.setIfInBounds_toArray, List.set_cons_zero, List.set_cons_succ])
    | (refine lex1 ?_ rfl ?_ ?_; rotate_left; (focus (intro w' hSw; replace hSw : Upd [] w3 w' := hSw; have e1 := hSw.cell c38 (by simp); go_simp; (first | done | with_reducible rfl))); simp only [Act.put, List.setIfInBounds_toArray, List.set_cons_zero, List.set_cons_succ]))
  refine lex2 (fun K hK => ?_)
  refine step_copy_zero (by rfl) (.tmp 95) (.tmp 101) _ _ (by rfl) 55 i0 Ybaf.underlying47 hi0 A (some ⟨lb, 0, none⟩) 0 (c2 - 1) 1 c2 (by rfl) (by rfl) (by simp) ?_
  refine hK _ _ ((Upd.refl [] w3).drew) ?_
  clear hK K
  try simp only [Act.put, List.setIfInBounds_toArray, List.set_cons_zero, List.set_cons_succ]
  refine lexE ?_
  have k0 : w3.cell? ⟨lb, 0, none⟩ = some (.int .u64 0) := hown3.out.cellAt 0 (by omega)
  have k1 : w3.cell? ⟨lb, 1, none⟩ = some (.slice none 0 0) := hown3.out.cellAt 1 (by omega)
  have f0 := hown3.out.frozenAt 0
  have f1 := hown3.out.frozenAt 1
  go_wp2
  have hown4 := ((hown3.out.stored 0 (.int .u64 v)).1.stored 1 (.slice none 0 0)).1
  have hs4' := (set_ne (w := w3.setCell ⟨lb, 0, none⟩ (.int .u64 v)) (a := ⟨lb, 1, none⟩) (v := .slice none 0 0) (Ne.symm hnlb)).trans ((set_ne (w := w3) (a := ⟨lb, 0, none⟩) (v := .int .u64 v) (Ne.symm hnlb)).trans hs3.out)
  have hngh : gh ≠ lb := by obtain ⟨_, h, _⟩ := owns_open hown3.out; exact ne_elem hh3.out h (by decide)
  have hnwh : w.heap.size ≠ lb := by obtain ⟨_, h, _⟩ := owns_open hown3.out; exact ne_elem hx3.out h (by decide)
  have hh4' := (set_ne (w := w3.setCell ⟨lb, 0, none⟩ (.int .u64 v)) (a := ⟨lb, 1, none⟩) (v := .slice none 0 0) hngh).trans ((set_ne (w := w3) (a := ⟨lb, 0, none⟩) (v := .int .u64 v) hngh).trans hh3.out)
  have hx4' := (set_ne (w := w3.setCell ⟨lb, 0, none⟩ (.int .u64 v)) (a := ⟨lb, 1, none⟩) (v := .slice none 0 0) hnwh).trans ((set_ne (w := w3) (a := ⟨lb, 0, none⟩) (v := .int .u64 v) hnwh).trans hx3.out)
  have U4' : Upd [sb, gh, lb0, wb0] w ((w3.setCell ⟨lb, 0, none⟩ (.int .u64 v)).setCell ⟨lb, 1, none⟩ (.slice none 0 0)) := by
    have hm : lb ∈ [sb, gh, lb0, wb0] ∨ w.heap.size ≤ lb := by
      rcases hA2 with h | h
      · exact .inl (by simp [Value.ownBlock] at h; simp [h])
      · exact .inr h
    exact Upd.setCell (Upd.setCell U3.out hm _) hm _
  have hz4' : w1.heap.size < ((w3.setCell ⟨lb, 0, none⟩ (.int .u64 v)).setCell ⟨lb, 1, none⟩ (.slice none 0 0)).heap.size := by simpa using hz3
  generalize ((w3.setCell ⟨lb, 0, none⟩ (.int .u64 v)).setCell ⟨lb, 1, none⟩ (.slice none 0 0)) = w4 at hown4 hs4' hh4' hx4' U4' hz4' ⊢
  simp only [List.set_cons_zero, List.set_cons_succ] at hown4
  have hs4 : Hid (w4.heap[sb]? = some (.cells (sCells hb gb pv i n f view (.slice (some ⟨gh, 0, none⟩) m hc) (.slice (some ⟨lb, 0, none⟩) 1 c2)) 51 (0,0))) := hs4'
  have hh4 : Hid (w4.heap[gh]? = some (.cells (harr.setIfInBounds i (.int .u64 v)) 37 (0,0))) := hh4'
  have hx4 : Hid (w4.heap[w.heap.size]? = some (.cells #[.int .i64 i, .slice sa sl sc] 57 (0,0))) := hx4'
  have U4 : Hid (Upd [sb, gh, lb0, wb0] w w4) := U4'
  have Hown4 : Hid (w4.ownsRow B 55 2 (.slice (some ⟨lb, 0, none⟩) 1 c2) 1 [.int .u64 v, .slice none 0 0]) := hown4
  clear hown4 hs4' hh4' hx4' U4' hs3 hh3 hx3 U3 hown3 k0 k1 f0 f1 c38
  have d8 : w4.cell? ⟨sb, 8, none⟩ = some (.slice (some ⟨lb, 0, none⟩) 1 c2) := cell_at hs4.out 8
  have k0 : w4.cell? ⟨lb, 0, none⟩ = some (.int .u64 v) := Hown4.out.cellAt 0 (by omega)
  have k1 : w4.cell? ⟨lb, 1, none⟩ = some (.slice none 0 0) := Hown4.out.cellAt 1 (by omega)
  have x0 : w4.cell? ⟨w.heap.size, 0, none⟩ = some (.int .i64 i) := cell_at hx4.out 0
  have x1 : w4.cell? ⟨w.heap.size, 1, none⟩ = some (.slice sa sl sc) := cell_at hx4.out 1
  have f1 := Hown4.out.frozenAt 1
  have hbw : w.heap.size < w4.heap.size := by omega
  have hbs : sb < w4.heap.size := by omega
  have hbl : lb < w4.heap.size := by obtain ⟨_, h, _⟩ := owns_open Hown4.out; exact lt_of_heap h
  have hbg : gh < w4.heap.size := by omega
  refine wp_region_lex [0,0,0,1,0,0,0,0,1,0,0,0,1,1,2,2,4,4,3] (fun w' => Upd [] w4 w') (by kernel_rfl) (by kernel_rfl) (fun _ _ _ _ _ h => h) ((Upd.refl [] w4).drew.drew) ?_
  simp only [List.zip_cons_cons, List.zip_nil_right]
  repeat (first
    | (refine lex0 ?_ rfl ?_ ?_; rotate_left; (focus (intro w'; go_simp; (first | done | with_reducible rfl))); simp only [Act.put, List.setIfInBounds_toArray, List.set_cons_zero, List.set_cons_succ])
    | (refine lex1 ?_ rfl ?_ ?_; rotate_left; (focus (intro w' hSw; replace hSw : Upd [] w4 w' := hSw; have e1 := hSw.cell d8 (by simp); have e2 := hSw.cell k1 (by simp); have e3 := hSw.cell x0 (by simp); have e4 := hSw.cell x1 (by simp); go_simp; (first | done | with_reducible rfl))); simp only [Act.put, List.setIfInBounds_toArray, List.set_cons_zero, List.set_cons_succ]))
  refine lex2 (fun K hK => ?_)
  go_simp
  refine hK _ _ ((Upd.alloc (Upd.refl [] w4) _).drew.drew) ?_
  clear hK K
  try simp only [Act.put, List.setIfInBounds_toArray, List.set_cons_zero, List.set_cons_succ]
  refine lex2 (fun K hK => ?_)
  refine step_append_lies _ (by rfl) _ _ _ (by rfl) B 57 j0 _ 2 32 Ybaf.underlying53 hj0 hy0 hy1 hy2 rfl (by omega) (.slice none 0 0) 0 [] (by rfl) (World.ownsRow_nil _ _ _ _) ⟨w4.heap.size, 0, none⟩ 1 1 [.int .i64 i, .slice sa sl sc] (by rfl) (by rfl) (World.news_of_block (cs := #[.int .i64 i, .slice sa sl sc]) (t := 57) (fr := (0, 0)) (heap_last w4 _ _ (by simp))) (by simp [Value.oneCell']) (by omega) (by unfold maxLen; omega) (by omega) (by simp; omega) (w4.heap.size + 1) (by simp) ?_
  intro wb wc w5 hown5 hgrow5 hat5 hlt5
  have U5 : Upd [] w4 w5 := Upd.grown (Upd.drew (Upd.drew (Upd.alloc (Upd.refl [] w4) _))) hgrow5 (by simp [Value.ownBlock])
  refine hK _ _ U5 ?_
  clear hK K
  have e5 := U5.cell k1 (by simp)
  have hl5 := owns_open (U5.owns Hown4.out (by simp))
  obtain ⟨larr, hl5, _⟩ := hl5
  have f5 := free_at hl5 1
  try simp only [Act.put, List.setIfInBounds_toArray, List.set_cons_zero, List.set_cons_succ]
  repeat (refine lex4 ?_ rfl ?_ ?_; rotate_left; (focus (intro w'; go_simp; (first | done | with_reducible rfl))); simp only [Act.put, List.setIfInBounds_toArray, List.set_cons_zero, List.set_cons_succ])
  refine lex3 (fun K hK => ?_)
  go_simp
  refine hK _ _ ?_
  clear hK K
  try simp only [Act.put, List.setIfInBounds_toArray, List.set_cons_zero, List.set_cons_succ]
  refine lexE ?_
  go_wp2
  go_ret
  have hwlb : wb ≠ lb := by obtain ⟨_, h, _⟩ := owns_open hown5; exact ne_elem h hl5 (by decide)
  have hm : lb ∈ [sb, gh, lb0, wb0] ∨ w.heap.size ≤ lb := by
    rcases hA2 with h | h
    · exact .inl (by simp [Value.ownBlock] at h; simp [h])
    · exact .inr h
  have hA3 : lb = lb0 ∨ w.heap.size ≤ lb := by
    rcases hA2 with h | h
    · simp [Value.ownBlock] at h
      exact .inl h.symm
    · exact .inr h
  refine ⟨rfl, lb, c2, wb, wc, ?_, ?_, ?_, ?_, ?_, hA3, ?_⟩
  · exact (set_ne (Ne.symm hnlb)).trans (U5.keep hs4.out (by simp))
  · exact (set_ne hngh).trans (U5.keep hh4.out (by simp))
  · exact ((U5.owns Hown4.out (by simp)).stored 1 (.slice (some ⟨wb, 0, none⟩) 1 wc)).1
  · exact owns_set hown5 (by simp [Value.ownBlock]; exact hwlb) _
  · exact Upd.setCell (U4.out.transTo U5 (by simp)) hm _
  · rcases hat5 with h | h
    · simp [Value.ownBlock] at h
    · omega
end Go.Proofs.YbulkcskmFmt
