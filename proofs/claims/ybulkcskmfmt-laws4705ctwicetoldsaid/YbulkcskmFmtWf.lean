/-
  WALKS, SIXTH PART: enter; hold: a stale wish; the first and a later one where f is at least 1; the first where f is 0.
-/
import Derived.Test.YbulkcskmFmtWe
namespace Go.Proofs.YbulkcskmFmt
open Go.RowKit Go.Lib
attribute [local go_sem ↓] Go.wp_at_zero Go.wp_at_succ

set_option maxRecDepth 100000 in
set_option maxHeartbeats 1000000 in
theorem enter_any (B hb gb sb lb lc k : Nat) (self n f view v : Int) (w : World) (pv hg sends prop x y : Value) (wa : Option Addr) (wl wc : Nat) (larr : Array Value) (ps : List Value) (hB : B ≤ w.heap.size)
    (hs : w.heap[sb]? = some (.cells (sCells hb gb pv self n f view hg (.slice (some ⟨lb, 0, none⟩) 1 lc)) 51 (0,0)))
    (hl : w.heap[lb]? = some (.cells larr 55 (0,0))) (h0 : larr[0]? = some (.int .u64 v)) (h1 : larr[1]? = some (.slice wa wl wc)) (hlc : 1 ≤ lc)
    (hh : w.heap[hb]? = some (.cells #[sends, prop, x, y] 29 (0,0))) (hp : w.ownsRow B 37 1 prop k ps) (hk : k ≤ 100000) :
    Calls Ybaf.prog 18 #[.pointer (some ⟨sb, 0, none⟩), .int .u64 v] w
      fun e w' => e = .returned (.tuple #[]) ∧ ∃ prop', w'.heap[sb]? = some (.cells (sCells hb gb pv self n f v hg (.slice (some ⟨lb, 0, none⟩) 0 lc)) 51 (0,0)) ∧
        w'.heap[hb]? = some (.cells #[sends, prop', x, y] 29 (0,0)) ∧ w'.ownsRow B 37 1 prop' (k + 1) (ps ++ [.int .u64 v]) ∧ Upd (sb :: lb :: hb :: prop.ownBlock.toList) w w' := by
  have c6 : w.cell? ⟨sb, 6, none⟩ = some (.int .u64 view) := cell_at hs 6
  have f6 := free_at hs 6
  have n1 : sb ≠ lb := ne_elem hs hl (by decide)
  have n2 : sb ≠ hb := ne_elem hs hh (by decide)
  have n3 : hb ≠ lb := ne_elem hh hl (by decide)
  have p1 : prop.ownBlock ≠ some sb := owns_ne hp hs (by decide)
  have p2 : prop.ownBlock ≠ some lb := owns_ne hp hl (by decide)
  have Hs : Hid (w.heap[sb]? = some (.cells (sCells hb gb pv self n f view hg (.slice (some ⟨lb, 0, none⟩) 1 lc)) 51 (0,0))) := hs
  have Hl : Hid (w.heap[lb]? = some (.cells larr 55 (0,0))) := hl
  have H0 : Hid (larr[0]? = some (.int .u64 v)) := h0
  have H1 : Hid (larr[1]? = some (.slice wa wl wc)) := h1
  have Hh : Hid (w.heap[hb]? = some (.cells #[sends, prop, x, y] 29 (0,0))) := hh
  have Hp : Hid (w.ownsRow B 37 1 prop k ps) := hp
  clear hs hl h0 h1 hh hp
  go_enter Ybaf.func18, Ybaf.ntmps18
  go_wp2_with fail
  generalize hw1 : w.setCell ⟨sb, 6, none⟩ (.int .u64 v) = w1
  have hs1 : Hid (w1.heap[sb]? = some (.cells (sCells hb gb pv self n f v hg (.slice (some ⟨lb, 0, none⟩) 1 lc)) 51 (0,0))) := by rw [← hw1]; exact set_at Hs.out 6 _
  have hl1 : Hid (w1.heap[lb]? = some (.cells larr 55 (0,0))) := by rw [← hw1]; exact (set_ne (Ne.symm n1)).trans Hl.out
  have hh1 : Hid (w1.heap[hb]? = some (.cells #[sends, prop, x, y] 29 (0,0))) := by rw [← hw1]; exact (set_ne (Ne.symm n2)).trans Hh.out
  have hp1 : Hid (w1.ownsRow B 37 1 prop k ps) := by rw [← hw1]; exact owns_set Hp.out p1 _
  have U1 : Hid (Upd (sb :: lb :: hb :: prop.ownBlock.toList) w w1) := by rw [← hw1]; exact Upd.setCell (Upd.refl _ w) (.inl (by simp)) _
  clear hw1 c6 f6
  refine (forget_one hb gb sb lb lc self n f v v w1 pv hg wa wl wc larr hs1.out hl1.out H0.out H1.out hlc).mono ?_
  rintro e w2 ⟨rfl, hs2', hu2⟩
  have hs2 : Hid (w2.heap[sb]? = some (.cells (sCells hb gb pv self n f v hg (.slice (some ⟨lb, 0, none⟩) 0 lc)) 51 (0,0))) := hs2'
  have hh2 : Hid (w2.heap[hb]? = some (.cells #[sends, prop, x, y] 29 (0,0))) := hu2.keep hh1.out (by simp; omega)
  have hp2 : Hid (w2.ownsRow B 37 1 prop k ps) := hu2.owns hp1.out (by intro g hg hm; simp at hm; rcases hm with h | h <;> subst h <;> first | exact p1 hg | exact p2 hg)
  have U2 : Hid (Upd (sb :: lb :: hb :: prop.ownBlock.toList) w w2) := U1.out.transTo hu2 (by intro i hi; left; simp at hi ⊢; omega)
  have hB2 : B ≤ w2.heap.size := by have := U2.out.size; omega
  clear hs2' hu2 hs1 hl1 hh1 hp1 U1
  have c0 : w2.cell? ⟨sb, 0, none⟩ = some (.iface 25 (.pointer (some ⟨hb, 0, none⟩))) := cell_at hs2.out 0
  go_wp2_with fail
  refine (propose_any B hb k v w2 sends prop x y ps hB2 hp2.out hk hh2.out).mono ?_
  rintro e w3 ⟨rfl, prop', hh3, hp3, hu3, _⟩
  go_wp2
  go_end0
  refine ⟨rfl, prop', hu3.keep hs2.out ?_, hh3, hp3, U2.out.transTo hu3 ?_⟩
  · simp; exact ⟨n2, p1⟩
  · intro i hi; left; simp at hi ⊢; rcases hi with h | h
    · exact .inr (.inr (.inl h))
    · exact .inr (.inr (.inr h))

set_option maxRecDepth 100000 in
set_option maxHeartbeats 1000000 in
theorem hold_stale (hb gb sb gh m hc i sl sc : Nat) (n f view v old : Int) (sa : Option Addr) (w : World) (pv lv : Value) (harr : Array Value)
    (hs : w.heap[sb]? = some (.cells (sCells hb gb pv i n f view (.slice (some ⟨gh, 0, none⟩) m hc) lv) 51 (0,0)))
    (hh : w.heap[gh]? = some (.cells harr 37 (0,0))) (hi : i < m) (ho : harr[i]? = some (.int .u64 old)) (hv : v ≤ old) :
    Calls Ybaf.prog 14 #[.pointer (some ⟨sb, 0, none⟩), .int .u64 v, .agg #[.int .i64 i, .slice sa sl sc]] w
      fun e w' => e = .returned (.tuple #[]) ∧ Upd [] w w' := by
  have Hs : Hid (w.heap[sb]? = some (.cells (sCells hb gb pv i n f view (.slice (some ⟨gh, 0, none⟩) m hc) lv) 51 (0,0))) := hs
  have Hh : Hid (w.heap[gh]? = some (.cells harr 37 (0,0))) := hh
  have Ho : Hid (harr[i]? = some (.int .u64 old)) := ho
  have hlt := lt_of_heap hs
  have hlt2 := lt_of_heap hh
  clear hs hh ho
  go_enter Ybaf.func14, Ybaf.ntmps14
  go_wp2_with fail
  generalize hw1 : w.alloc (.cells #[.int .i64 i, .slice sa sl sc] 57) = w1
  have hx1 : Hid (w1.heap[w.heap.size]? = some (.cells #[.int .i64 i, .slice sa sl sc] 57 (0,0))) := by rw [← hw1]; exact heap_last w _ _ rfl
  have hs1 : Hid (w1.heap[sb]? = some (.cells (sCells hb gb pv i n f view (.slice (some ⟨gh, 0, none⟩) m hc) lv) 51 (0,0))) := by rw [← hw1]; exact heap_past Hs.out _
  have hh1 : Hid (w1.heap[gh]? = some (.cells harr 37 (0,0))) := by rw [← hw1]; exact heap_past Hh.out _
  have U1 : Hid (Upd [] w w1) := by rw [← hw1]; exact Upd.alloc (Upd.refl _ w) _
  clear hw1
  have x0 : w1.cell? ⟨w.heap.size, 0, none⟩ = some (.int .i64 i) := cell_at hx1.out 0
  have x1 : w1.cell? ⟨w.heap.size, 1, none⟩ = some (.slice sa sl sc) := cell_at hx1.out 1
  refine wp_region_lex [0,0,0,1,0,2,0] (fun w' => Upd [] w1 w') (by kernel_rfl) (by kernel_rfl) (fun _ _ _ _ _ h => h) ((Upd.refl [] w1).drew) ?_
  simp only [List.zip_cons_cons, List.zip_nil_right]
  repeat (first
    | (refine lex0 ?_ rfl ?_ ?_; rotate_left; (focus (intro w'; go_simp; (first | done | with_reducible rfl))); simp only [Act.put, List.setIfInBounds_toArray, List.set_cons_zero, List.set_cons_succ])
    | (refine lex1 ?_ rfl ?_ ?_; rotate_left; (focus (intro w' hSw; replace hSw : Upd [] w1 w' := hSw; have e1 := hSw.cell x0 (by simp); have e2 := hSw.cell x1 (by simp); go_simp; (first | done | with_reducible rfl))); simp only [Act.put, List.setIfInBounds_toArray, List.set_cons_zero, List.set_cons_succ]))
  refine lex2 (fun K hK => ?_)
  go_simp
  refine (raise_stale hb gb sb gh m hc i sl sc n f view v old sa w1.drew pv lv harr hs1.out hh1.out hi Ho.out hv).mono ?_
  rintro e w2 ⟨rfl, hu2⟩
  refine hK _ _ ((Upd.refl [] w1).drew.transTo hu2 (by simp)) ?_
  clear hK K
  try simp only [Act.put, List.setIfInBounds_toArray, List.set_cons_zero, List.set_cons_succ]
  repeat (first
    | (refine lex0 ?_ rfl ?_ ?_; rotate_left; (focus (intro w'; go_simp; (first | done | with_reducible rfl))); simp only [Act.put, List.setIfInBounds_toArray, List.set_cons_zero, List.set_cons_succ])
    | (refine lex1 ?_ rfl ?_ ?_; rotate_left; (focus (intro w' hSw; go_simp; (first | done | with_reducible rfl))); simp only [Act.put, List.setIfInBounds_toArray, List.set_cons_zero, List.set_cons_succ]))
  refine lexE ?_
  go_wp2
  go_returns
  exact ⟨rfl, U1.out.drew.transTo hu2 (by simp)⟩

set_option maxRecDepth 100000 in
set_option maxHeartbeats 2000000 in
theorem hold_first (B hb gb sb gh m hc i sl sc : Nat) (n f view v : Int) (sa : Option Addr) (w : World) (pv lv : Value) (harr : Array Value) (hB : B ≤ w.heap.size) (hs : w.heap[sb]? = some (.cells (sCells hb gb pv i n f view (.slice (some ⟨gh, 0, none⟩) m hc) lv) 51 (0,0)))
    (hh : w.heap[gh]? = some (.cells harr 37 (0,0))) (hi : i < m) (ho : harr[i]? = some (.int .u64 0)) (hv : 0 < v) (hl : w.ownsRow B 55 2 lv 0 []) (hf1 : 1 ≤ f) (hf2 : f ≤ 1000) :
    Calls Ybaf.prog 14 #[.pointer (some ⟨sb, 0, none⟩), .int .u64 v, .agg #[.int .i64 i, .slice sa sl sc]] w
      fun e w' => e = .returned (.tuple #[]) ∧ ∃ lb lc wb wc, w'.heap[sb]? = some (.cells (sCells hb gb pv i n f view (.slice (some ⟨gh, 0, none⟩) m hc) (.slice (some ⟨lb, 0, none⟩) 1 lc)) 51 (0,0)) ∧
       w'.heap[gh]? = some (.cells (harr.setIfInBounds i (.int .u64 v)) 37 (0,0)) ∧ w'.ownsRow B 55 2 (.slice (some ⟨lb, 0, none⟩) 1 lc) 1 [.int .u64 v, .slice (some ⟨wb, 0, none⟩) 1 wc] ∧
       w'.ownsRow B 57 2 (.slice (some ⟨wb, 0, none⟩) 1 wc) 1 [.int .i64 i, .slice sa sl sc] ∧ Upd (sb :: gh :: lv.ownBlock.toList) w w' ∧ (lv.ownBlock = some lb ∨ w.heap.size ≤ lb) ∧ w.heap.size ≤ wb := by
  have Hs : Hid (w.heap[sb]? = some (.cells (sCells hb gb pv i n f view (.slice (some ⟨gh, 0, none⟩) m hc) lv) 51 (0,0))) := hs
  have Hh : Hid (w.heap[gh]? = some (.cells harr 37 (0,0))) := hh
  have Ho : Hid (harr[i]? = some (.int .u64 0)) := ho
  have hlt := lt_of_heap hs
  have hlt2 := lt_of_heap hh
  have hnl3 : lv.ownBlock ≠ some w.heap.size := by
    intro h
    obtain ⟨_, h1, _⟩ := owns_block hl h
    have := lt_of_heap h1
    omega
  have HL : Hid (w.ownsRow B 55 2 lv 0 []) := hl
  clear hs hh ho hl
  go_enter Ybaf.func14, Ybaf.ntmps14
  go_wp2_with fail
  generalize hw1 : w.alloc (.cells #[.int .i64 i, .slice sa sl sc] 57) = w1
  have hx1 : Hid (w1.heap[w.heap.size]? = some (.cells #[.int .i64 i, .slice sa sl sc] 57 (0,0))) := by rw [← hw1]; exact heap_last w _ _ rfl
  have hs1 : Hid (w1.heap[sb]? = some (.cells (sCells hb gb pv i n f view (.slice (some ⟨gh, 0, none⟩) m hc) lv) 51 (0,0))) := by rw [← hw1]; exact heap_past Hs.out _
  have hh1 : Hid (w1.heap[gh]? = some (.cells harr 37 (0,0))) := by rw [← hw1]; exact heap_past Hh.out _
  have U1 : Hid (Upd (sb :: gh :: lv.ownBlock.toList) w w1) := by rw [← hw1]; exact Upd.alloc (Upd.refl _ w) _
  have hz1 : w1.heap.size = w.heap.size + 1 := by rw [← hw1]; simp
  have hB1 : B ≤ w1.heap.size := by omega
  have hl1' : Hid (w1.ownsRow B 55 2 lv 0 []) := by rw [← hw1]; exact HL.out.alloc _
  clear hw1
  have x0 : w1.cell? ⟨w.heap.size, 0, none⟩ = some (.int .i64 i) := cell_at hx1.out 0
  have x1 : w1.cell? ⟨w.heap.size, 1, none⟩ = some (.slice sa sl sc) := cell_at hx1.out 1
  have hnT : w.heap.size ∉ (sb :: gh :: lv.ownBlock.toList) := (by simp; exact ⟨by omega, by omega, hnl3⟩)
  refine wp_region_lex [0,0,0,1,0,2,0] (fun w' => Upd (sb :: gh :: lv.ownBlock.toList) w1 w') (by kernel_rfl) (by kernel_rfl) (fun _ _ _ _ _ h => h) ((Upd.refl (sb :: gh :: lv.ownBlock.toList) w1).drew) ?_
  simp only [List.zip_cons_cons, List.zip_nil_right]
  repeat (first
    | (refine lex0 ?_ rfl ?_ ?_; rotate_left; (focus (intro w'; go_simp; (first | done | with_reducible rfl))); simp only [Act.put, List.setIfInBounds_toArray, List.set_cons_zero, List.set_cons_succ])
    | (refine lex1 ?_ rfl ?_ ?_; rotate_left; (focus (intro w' hSw; replace hSw : Upd (sb :: gh :: lv.ownBlock.toList) w1 w' := hSw; have e1 := hSw.cell x0 hnT; have e2 := hSw.cell x1 hnT; go_simp; (first | done | with_reducible rfl))); simp only [Act.put, List.setIfInBounds_toArray, List.set_cons_zero, List.set_cons_succ]))
  refine lex2 (fun K hK => ?_)
  go_simp
  refine (raise_fresh B hb gb sb gh m hc i sl sc n f view v sa w1.drew pv lv harr hB1 hs1.out hh1.out hi Ho.out hv hl1'.out.drew).mono ?_
  rintro e w2 ⟨rfl, lb, lc2, wb, wc, hs2', hh2', hl2', hwr2', hu2, hA2, hwb2⟩
  refine hK _ _ ((Upd.refl (sb :: gh :: lv.ownBlock.toList) w1).drew.transTo hu2 (fun i hi => .inl hi)) ?_
  clear hK K
  try simp only [Act.put, List.setIfInBounds_toArray, List.set_cons_zero, List.set_cons_succ]
  repeat (first
    | (refine lex0 ?_ rfl ?_ ?_; rotate_left; (focus (intro w'; go_simp; (first | done | with_reducible rfl))); simp only [Act.put, List.setIfInBounds_toArray, List.set_cons_zero, List.set_cons_succ])
    | (refine lex1 ?_ rfl ?_ ?_; rotate_left; (focus (intro w' hSw; go_simp; (first | done | with_reducible rfl))); simp only [Act.put, List.setIfInBounds_toArray, List.set_cons_zero, List.set_cons_succ]))
  refine lexE ?_
  have hs2 : Hid (w2.heap[sb]? = some (.cells (sCells hb gb pv i n f view (.slice (some ⟨gh, 0, none⟩) m hc) (.slice (some ⟨lb, 0, none⟩) 1 lc2)) 51 (0,0))) := hs2'
  have hh2 : Hid (w2.heap[gh]? = some (.cells (harr.setIfInBounds i (.int .u64 v)) 37 (0,0))) := hh2'
  have hl2 : Hid (w2.ownsRow B 55 2 (.slice (some ⟨lb, 0, none⟩) 1 lc2) 1 [.int .u64 v, .slice (some ⟨wb, 0, none⟩) 1 wc]) := hl2'
  have hwr2 : Hid (w2.ownsRow B 57 2 (.slice (some ⟨wb, 0, none⟩) 1 wc) 1 [.int .i64 i, .slice sa sl sc]) := hwr2'
  have U2 : Hid (Upd (sb :: gh :: lv.ownBlock.toList) w w2) := U1.out.drew.transTo hu2 (fun i hi => .inl hi)
  have hAA : lv.ownBlock = some lb ∨ w.heap.size ≤ lb := by
    rcases hA2 with h | h
    · exact .inl h
    · exact .inr (by simp at h; omega)
  have hWW : w.heap.size ≤ wb := by simp at hwb2; omega
  clear hs2' hh2' hl2' hwr2' hu2 hs1 hh1 hx1 U1 hl1' x0 x1 hA2 hwb2 hnT
  obtain ⟨larr2, hlh2, hls2, hlc2, _, _, _⟩ := owns_open hl2.out
  have la0 : larr2[0]? = some (.int .u64 v) := by have h := hl2.out.cellAt 0 (by omega); rw [cell_at hlh2] at h; simpa using h
  have la1 : larr2[1]? = some (.slice (some ⟨wb, 0, none⟩) 1 wc) := by have h := hl2.out.cellAt 1 (by omega); rw [cell_at hlh2] at h; simpa using h
  have Hlh2 : Hid (w2.heap[lb]? = some (.cells larr2 55 (0,0))) := hlh2
  have La : Hid (larr2[0]? = some (.int .u64 v) ∧ larr2[1]? = some (.slice (some ⟨wb, 0, none⟩) 1 wc)) := ⟨la0, la1⟩
  clear hlh2 la0 la1 hls2
  have c5 : w2.cell? ⟨sb, 5, none⟩ = some (.int .i64 f) := cell_at hs2.out 5
  go_wp2_with fail
  go_quiet ((go_at_call 17; exact Calls.quiet_of_same (atLeast_no hb gb sb lb lc2 i n f view _ _ pv _ _ _ larr2 hs2.out Hlh2.out La.out.2 (by omega))))
  have hq1 : IntKind.i64.wrap (2 * f) = 2 * f := by rw [IntKind.wrap_i64]; omega
  have hq2 : IntKind.i64.wrap (2 * f + 1) = 2 * f + 1 := by rw [IntKind.wrap_i64]; omega
  go_wp2_with fail
  go_quiet (fail)
  go_wp2_with fail
  generalize hw3 : (w2.drewN _).drewN nq = w3
  have hs3 : Hid (w3.heap[sb]? = some (.cells (sCells hb gb pv i n f view (.slice (some ⟨gh, 0, none⟩) m hc) (.slice (some ⟨lb, 0, none⟩) 1 lc2)) 51 (0,0))) := by rw [← hw3]; exact hs2.out
  have hl3 : Hid (w3.heap[lb]? = some (.cells larr2 55 (0,0))) := by rw [← hw3]; exact Hlh2.out
  have hw3' : Hid (Upd [] w2 w3) := by rw [← hw3]; exact ((Upd.refl [] w2).drewN _).drewN _
  clear hw3 c5
  have c5 : w3.cell? ⟨sb, 5, none⟩ = some (.int .i64 f) := cell_at hs3.out 5
  go_quiet ((go_at_call 17; exact Calls.quiet_of_same (atLeast_no hb gb sb lb lc2 i n f view _ _ pv _ _ _ larr2 hs3.out hl3.out La.out.2 (by omega))))
  go_wp2
  go_returns
  have U4 : Upd [] w2 (w3.drewN nq) := hw3'.out.drewN _
  exact ⟨rfl, lb, lc2, wb, wc, U4.keep hs2.out (by simp), U4.keep hh2.out (by simp), U4.owns hl2.out (by simp), U4.owns hwr2.out (by simp), U2.out.transTo U4 (by simp), hAA, hWW⟩

set_option maxRecDepth 100000 in
set_option maxHeartbeats 2000000 in
theorem hold_again (B hb gb sb gh m hc i sl sc lb0 lc wb0 wc0 ol oc : Nat) (n f view v old : Int) (sa oa : Option Addr) (w : World) (pv : Value) (harr : Array Value) (hB : B ≤ w.heap.size) (hs : w.heap[sb]? = some (.cells (sCells hb gb pv i n f view (.slice (some ⟨gh, 0, none⟩) m hc) (.slice (some ⟨lb0, 0, none⟩) 1 lc)) 51 (0,0)))
    (hh : w.heap[gh]? = some (.cells harr 37 (0,0))) (hi : i < m) (ho : harr[i]? = some (.int .u64 old)) (hv : old < v) (hl : w.ownsRow B 55 2 (.slice (some ⟨lb0, 0, none⟩) 1 lc) 1 [.int .u64 old, .slice (some ⟨wb0, 0, none⟩) 1 wc0])
    (hwr : w.ownsRow B 57 2 (.slice (some ⟨wb0, 0, none⟩) 1 wc0) 1 [.int .i64 i, .slice oa ol oc]) (hf1 : 1 ≤ f) (hf2 : f ≤ 1000) :
    Calls Ybaf.prog 14 #[.pointer (some ⟨sb, 0, none⟩), .int .u64 v, .agg #[.int .i64 i, .slice sa sl sc]] w
      fun e w' => e = .returned (.tuple #[]) ∧ ∃ lb lc wb wc, w'.heap[sb]? = some (.cells (sCells hb gb pv i n f view (.slice (some ⟨gh, 0, none⟩) m hc) (.slice (some ⟨lb, 0, none⟩) 1 lc)) 51 (0,0)) ∧
       w'.heap[gh]? = some (.cells (harr.setIfInBounds i (.int .u64 v)) 37 (0,0)) ∧ w'.ownsRow B 55 2 (.slice (some ⟨lb, 0, none⟩) 1 lc) 1 [.int .u64 v, .slice (some ⟨wb, 0, none⟩) 1 wc] ∧
       w'.ownsRow B 57 2 (.slice (some ⟨wb, 0, none⟩) 1 wc) 1 [.int .i64 i, .slice sa sl sc] ∧ Upd [sb, gh, lb0, wb0] w w' ∧ (lb = lb0 ∨ w.heap.size ≤ lb) ∧ w.heap.size ≤ wb := by
  have Hs : Hid (w.heap[sb]? = some (.cells (sCells hb gb pv i n f view (.slice (some ⟨gh, 0, none⟩) m hc) (.slice (some ⟨lb0, 0, none⟩) 1 lc)) 51 (0,0))) := hs
  have Hh : Hid (w.heap[gh]? = some (.cells harr 37 (0,0))) := hh
  have Ho : Hid (harr[i]? = some (.int .u64 old)) := ho
  have hlt := lt_of_heap hs
  have hlt2 := lt_of_heap hh
  obtain ⟨larr, hlh, hls, hl1, hlm, hlt0, hlB⟩ := owns_open hl
  obtain ⟨warr, hwh, hws, hw1w, hwm, hwt0, hwB⟩ := owns_open hwr
  have hLl := lt_of_heap hlh
  have hWl := lt_of_heap hwh
  have HL : Hid (w.ownsRow B 55 2 (.slice (some ⟨lb0, 0, none⟩) 1 lc) 1 [.int .u64 old, .slice (some ⟨wb0, 0, none⟩) 1 wc0]) := hl
  have HW : Hid (w.ownsRow B 57 2 (.slice (some ⟨wb0, 0, none⟩) 1 wc0) 1 [.int .i64 i, .slice oa ol oc]) := hwr
  clear hs hh ho hl hwr hlh hwh hls hws hlt0 hwt0
  go_enter Ybaf.func14, Ybaf.ntmps14
  go_wp2_with fail
  generalize hw1 : w.alloc (.cells #[.int .i64 i, .slice sa sl sc] 57) = w1
  have hx1 : Hid (w1.heap[w.heap.size]? = some (.cells #[.int .i64 i, .slice sa sl sc] 57 (0,0))) := by rw [← hw1]; exact heap_last w _ _ rfl
  have hs1 : Hid (w1.heap[sb]? = some (.cells (sCells hb gb pv i n f view (.slice (some ⟨gh, 0, none⟩) m hc) (.slice (some ⟨lb0, 0, none⟩) 1 lc)) 51 (0,0))) := by rw [← hw1]; exact heap_past Hs.out _
  have hh1 : Hid (w1.heap[gh]? = some (.cells harr 37 (0,0))) := by rw [← hw1]; exact heap_past Hh.out _
  have U1 : Hid (Upd [sb, gh, lb0, wb0] w w1) := by rw [← hw1]; exact Upd.alloc (Upd.refl _ w) _
  have hz1 : w1.heap.size = w.heap.size + 1 := by rw [← hw1]; simp
  have hB1 : B ≤ w1.heap.size := by omega
  have hl1' : Hid (w1.ownsRow B 55 2 (.slice (some ⟨lb0, 0, none⟩) 1 lc) 1 [.int .u64 old, .slice (some ⟨wb0, 0, none⟩) 1 wc0]) := by rw [← hw1]; exact HL.out.alloc _
  have hw1' : Hid (w1.ownsRow B 57 2 (.slice (some ⟨wb0, 0, none⟩) 1 wc0) 1 [.int .i64 i, .slice oa ol oc]) := by rw [← hw1]; exact HW.out.alloc _
  clear hw1
  have x0 : w1.cell? ⟨w.heap.size, 0, none⟩ = some (.int .i64 i) := cell_at hx1.out 0
  have x1 : w1.cell? ⟨w.heap.size, 1, none⟩ = some (.slice sa sl sc) := cell_at hx1.out 1
  have hnT : w.heap.size ∉ [sb, gh, lb0, wb0] := (by simp; omega)
  refine wp_region_lex [0,0,0,1,0,2,0] (fun w' => Upd [sb, gh, lb0, wb0] w1 w') (by kernel_rfl) (by kernel_rfl) (fun _ _ _ _ _ h => h) ((Upd.refl [sb, gh, lb0, wb0] w1).drew) ?_
  simp only [List.zip_cons_cons, List.zip_nil_right]
  repeat (first
    | (refine lex0 ?_ rfl ?_ ?_; rotate_left; (focus (intro w'; go_simp; (first | done | with_reducible rfl))); simp only [Act.put, List.setIfInBounds_toArray, List.set_cons_zero, List.set_cons_succ])
    | (refine lex1 ?_ rfl ?_ ?_; rotate_left; (focus (intro w' hSw; replace hSw : Upd [sb, gh, lb0, wb0] w1 w' := hSw; have e1 := hSw.cell x0 hnT; have e2 := hSw.cell x1 hnT; go_simp; (first | done | with_reducible rfl))); simp only [Act.put, List.setIfInBounds_toArray, List.set_cons_zero, List.set_cons_succ]))
  refine lex2 (fun K hK => ?_)
  go_simp
  refine (raise_again B hb gb sb gh m hc i sl sc lb0 lc wb0 wc0 ol oc n f view v old sa oa w1.drew pv harr hB1 hs1.out hh1.out hi Ho.out hv hl1'.out.drew hw1'.out.drew).mono ?_
  rintro e w2 ⟨rfl, lb, lc2, wb, wc, hs2', hh2', hl2', hwr2', hu2, hA2, hwb2⟩
  refine hK _ _ ((Upd.refl [sb, gh, lb0, wb0] w1).drew.transTo hu2 (fun i hi => .inl hi)) ?_
  clear hK K
  try simp only [Act.put, List.setIfInBounds_toArray, List.set_cons_zero, List.set_cons_succ]
  repeat (first
    | (refine lex0 ?_ rfl ?_ ?_; rotate_left; (focus (intro w'; go_simp; (first | done | with_reducible rfl))); simp only [Act.put, List.setIfInBounds_toArray, List.set_cons_zero, List.set_cons_succ])
    | (refine lex1 ?_ rfl ?_ ?_; rotate_left; (focus (intro w' hSw; go_simp; (first | done | with_reducible rfl))); simp only [Act.put, List.setIfInBounds_toArray, List.set_cons_zero, List.set_cons_succ]))
  refine lexE ?_
  have hs2 : Hid (w2.heap[sb]? = some (.cells (sCells hb gb pv i n f view (.slice (some ⟨gh, 0, none⟩) m hc) (.slice (some ⟨lb, 0, none⟩) 1 lc2)) 51 (0,0))) := hs2'
  have hh2 : Hid (w2.heap[gh]? = some (.cells (harr.setIfInBounds i (.int .u64 v)) 37 (0,0))) := hh2'
  have hl2 : Hid (w2.ownsRow B 55 2 (.slice (some ⟨lb, 0, none⟩) 1 lc2) 1 [.int .u64 v, .slice (some ⟨wb, 0, none⟩) 1 wc]) := hl2'
  have hwr2 : Hid (w2.ownsRow B 57 2 (.slice (some ⟨wb, 0, none⟩) 1 wc) 1 [.int .i64 i, .slice sa sl sc]) := hwr2'
  have U2 : Hid (Upd [sb, gh, lb0, wb0] w w2) := U1.out.drew.transTo hu2 (fun i hi => .inl hi)
  have hAA : lb = lb0 ∨ w.heap.size ≤ lb := by
    rcases hA2 with h | h
    · exact .inl h
    · exact .inr (by simp at h; omega)
  have hWW : w.heap.size ≤ wb := by simp at hwb2; omega
  clear hs2' hh2' hl2' hwr2' hu2 hs1 hh1 hx1 U1 hl1' x0 x1 hA2 hwb2 hnT hw1'
  obtain ⟨larr2, hlh2, hls2, hlc2, _, _, _⟩ := owns_open hl2.out
  have la0 : larr2[0]? = some (.int .u64 v) := by have h := hl2.out.cellAt 0 (by omega); rw [cell_at hlh2] at h; simpa using h
  have la1 : larr2[1]? = some (.slice (some ⟨wb, 0, none⟩) 1 wc) := by have h := hl2.out.cellAt 1 (by omega); rw [cell_at hlh2] at h; simpa using h
  have Hlh2 : Hid (w2.heap[lb]? = some (.cells larr2 55 (0,0))) := hlh2
  have La : Hid (larr2[0]? = some (.int .u64 v) ∧ larr2[1]? = some (.slice (some ⟨wb, 0, none⟩) 1 wc)) := ⟨la0, la1⟩
  clear hlh2 la0 la1 hls2
  have c5 : w2.cell? ⟨sb, 5, none⟩ = some (.int .i64 f) := cell_at hs2.out 5
  go_wp2_with fail
  go_quiet ((go_at_call 17; exact Calls.quiet_of_same (atLeast_no hb gb sb lb lc2 i n f view _ _ pv _ _ _ larr2 hs2.out Hlh2.out La.out.2 (by omega))))
  have hq1 : IntKind.i64.wrap (2 * f) = 2 * f := by rw [IntKind.wrap_i64]; omega
  have hq2 : IntKind.i64.wrap (2 * f + 1) = 2 * f + 1 := by rw [IntKind.wrap_i64]; omega
  go_wp2_with fail
  go_quiet (fail)
  go_wp2_with fail
  generalize hw3 : (w2.drewN _).drewN nq = w3
  have hs3 : Hid (w3.heap[sb]? = some (.cells (sCells hb gb pv i n f view (.slice (some ⟨gh, 0, none⟩) m hc) (.slice (some ⟨lb, 0, none⟩) 1 lc2)) 51 (0,0))) := by rw [← hw3]; exact hs2.out
  have hl3 : Hid (w3.heap[lb]? = some (.cells larr2 55 (0,0))) := by rw [← hw3]; exact Hlh2.out
  have hw3' : Hid (Upd [] w2 w3) := by rw [← hw3]; exact ((Upd.refl [] w2).drewN _).drewN _
  clear hw3 c5
  have c5 : w3.cell? ⟨sb, 5, none⟩ = some (.int .i64 f) := cell_at hs3.out 5
  go_quiet ((go_at_call 17; exact Calls.quiet_of_same (atLeast_no hb gb sb lb lc2 i n f view _ _ pv _ _ _ larr2 hs3.out hl3.out La.out.2 (by omega))))
  go_wp2
  go_returns
  have U4 : Upd [] w2 (w3.drewN nq) := hw3'.out.drewN _
  exact ⟨rfl, lb, lc2, wb, wc, U4.keep hs2.out (by simp), U4.keep hh2.out (by simp), U4.owns hl2.out (by simp), U4.owns hwr2.out (by simp), U2.out.transTo U4 (by simp), hAA, hWW⟩

set_option maxRecDepth 100000 in
set_option maxHeartbeats 2000000 in
theorem hold_enter (B hb gb sb gh m hc i sl sc k : Nat) (n v : Int) (sa : Option Addr) (w : World) (pv lv sends prop x y : Value) (harr : Array Value) (ps : List Value) (hB : B ≤ w.heap.size) (hs : w.heap[sb]? = some (.cells (sCells hb gb pv i n 0 0 (.slice (some ⟨gh, 0, none⟩) m hc) lv) 51 (0,0)))
    (hh : w.heap[gh]? = some (.cells harr 37 (0,0))) (hi : i < m) (him : harr.size = m) (ho : harr[i]? = some (.int .u64 0)) (hv : 0 < v) (hl : w.ownsRow B 55 2 lv 0 [])
    (hhb : w.heap[hb]? = some (.cells #[sends, prop, x, y] 29 (0,0))) (hp : w.ownsRow B 37 1 prop k ps) (hk : k ≤ 100000) (hpg : ∀ g, prop.ownBlock = some g → g ≠ gh) :
    Calls Ybaf.prog 14 #[.pointer (some ⟨sb, 0, none⟩), .int .u64 v, .agg #[.int .i64 i, .slice sa sl sc]] w
      fun e w' => e = .returned (.tuple #[]) ∧ ∃ lb lc prop', w'.heap[sb]? = some (.cells (sCells hb gb pv i n 0 v (.slice (some ⟨gh, 0, none⟩) m hc) (.slice (some ⟨lb, 0, none⟩) 0 lc)) 51 (0,0)) ∧
       w'.heap[gh]? = some (.cells (harr.setIfInBounds i (.int .u64 v)) 37 (0,0)) ∧ w'.heap[hb]? = some (.cells #[sends, prop', x, y] 29 (0,0)) ∧ w'.ownsRow B 37 1 prop' (k + 1) (ps ++ [.int .u64 v]) ∧
       Upd (sb :: gh :: hb :: (lv.ownBlock.toList ++ prop.ownBlock.toList)) w w' := by
  have Hs : Hid (w.heap[sb]? = some (.cells (sCells hb gb pv i n 0 0 (.slice (some ⟨gh, 0, none⟩) m hc) lv) 51 (0,0))) := hs
  have Hh : Hid (w.heap[gh]? = some (.cells harr 37 (0,0))) := hh
  have Ho : Hid (harr[i]? = some (.int .u64 0)) := ho
  have hlt := lt_of_heap hs
  have hlt2 := lt_of_heap hh
  have Him : Hid (harr.size = m) := him
  have hnl3 : lv.ownBlock ≠ some w.heap.size := by
    intro h
    obtain ⟨_, h1, _⟩ := owns_block hl h
    have := lt_of_heap h1
    omega
  have HL : Hid (w.ownsRow B 55 2 lv 0 []) := hl
  have Hhb : Hid (w.heap[hb]? = some (.cells #[sends, prop, x, y] 29 (0,0))) := hhb
  have Hp : Hid (w.ownsRow B 37 1 prop k ps) := hp
  have nb1 : hb ≠ sb := ne_elem hhb hs (by decide)
  have nb2 : hb ≠ gh := ne_elem hhb hh (by decide)
  have nb3 : lv.ownBlock ≠ some hb := owns_ne hl hhb (by decide)
  have np1 : prop.ownBlock ≠ some sb := owns_ne hp hs (by decide)
  have np2 : prop.ownBlock ≠ some gh := fun h => hpg gh h rfl
  have np3 : ∀ g, prop.ownBlock = some g → lv.ownBlock ≠ some g := by
    intro g h1 h2
    obtain ⟨_, h3, _⟩ := owns_block hp h1
    exact owns_ne hl h3 (by decide) h2
  have nsg : gh ≠ sb := ne_elem hh hs (by decide)
  clear hhb hp hpg him
  clear hs hh ho hl
  go_enter Ybaf.func14, Ybaf.ntmps14
  go_wp2_with fail
  generalize hw1 : w.alloc (.cells #[.int .i64 i, .slice sa sl sc] 57) = w1
  have hx1 : Hid (w1.heap[w.heap.size]? = some (.cells #[.int .i64 i, .slice sa sl sc] 57 (0,0))) := by rw [← hw1]; exact heap_last w _ _ rfl
  have hs1 : Hid (w1.heap[sb]? = some (.cells (sCells hb gb pv i n 0 0 (.slice (some ⟨gh, 0, none⟩) m hc) lv) 51 (0,0))) := by rw [← hw1]; exact heap_past Hs.out _
  have hh1 : Hid (w1.heap[gh]? = some (.cells harr 37 (0,0))) := by rw [← hw1]; exact heap_past Hh.out _
  have U1 : Hid (Upd (sb :: gh :: lv.ownBlock.toList) w w1) := by rw [← hw1]; exact Upd.alloc (Upd.refl _ w) _
  have hz1 : w1.heap.size = w.heap.size + 1 := by rw [← hw1]; simp
  have hB1 : B ≤ w1.heap.size := by omega
  have hl1' : Hid (w1.ownsRow B 55 2 lv 0 []) := by rw [← hw1]; exact HL.out.alloc _
  have hb1 : Hid (w1.heap[hb]? = some (.cells #[sends, prop, x, y] 29 (0,0))) := by rw [← hw1]; exact heap_past Hhb.out _
  have hp1 : Hid (w1.ownsRow B 37 1 prop k ps) := by rw [← hw1]; exact Hp.out.alloc _
  clear hw1
  have x0 : w1.cell? ⟨w.heap.size, 0, none⟩ = some (.int .i64 i) := cell_at hx1.out 0
  have x1 : w1.cell? ⟨w.heap.size, 1, none⟩ = some (.slice sa sl sc) := cell_at hx1.out 1
  have hnT : w.heap.size ∉ (sb :: gh :: lv.ownBlock.toList) := (by simp; exact ⟨by omega, by omega, hnl3⟩)
  refine wp_region_lex [0,0,0,1,0,2,0] (fun w' => Upd (sb :: gh :: lv.ownBlock.toList) w1 w') (by kernel_rfl) (by kernel_rfl) (fun _ _ _ _ _ h => h) ((Upd.refl (sb :: gh :: lv.ownBlock.toList) w1).drew) ?_
  simp only [List.zip_cons_cons, List.zip_nil_right]
  repeat (first
    | (refine lex0 ?_ rfl ?_ ?_; rotate_left; (focus (intro w'; go_simp; (first | done | with_reducible rfl))); simp only [Act.put, List.setIfInBounds_toArray, List.set_cons_zero, List.set_cons_succ])
    | (refine lex1 ?_ rfl ?_ ?_; rotate_left; (focus (intro w' hSw; replace hSw : Upd (sb :: gh :: lv.ownBlock.toList) w1 w' := hSw; have e1 := hSw.cell x0 hnT; have e2 := hSw.cell x1 hnT; go_simp; (first | done | with_reducible rfl))); simp only [Act.put, List.setIfInBounds_toArray, List.set_cons_zero, List.set_cons_succ]))
  refine lex2 (fun K hK => ?_)
  go_simp
  refine (raise_fresh B hb gb sb gh m hc i sl sc n 0 0 v sa w1.drew pv lv harr hB1 hs1.out hh1.out hi Ho.out hv hl1'.out.drew).mono ?_
  rintro e w2 ⟨rfl, lb, lc2, wb, wc, hs2', hh2', hl2', hwr2', hu2, hA2, hwb2⟩
  refine hK _ _ ((Upd.refl (sb :: gh :: lv.ownBlock.toList) w1).drew.transTo hu2 (fun i hi => .inl hi)) ?_
  clear hK K
  try simp only [Act.put, List.setIfInBounds_toArray, List.set_cons_zero, List.set_cons_succ]
  repeat (first
    | (refine lex0 ?_ rfl ?_ ?_; rotate_left; (focus (intro w'; go_simp; (first | done | with_reducible rfl))); simp only [Act.put, List.setIfInBounds_toArray, List.set_cons_zero, List.set_cons_succ])
    | (refine lex1 ?_ rfl ?_ ?_; rotate_left; (focus (intro w' hSw; go_simp; (first | done | with_reducible rfl))); simp only [Act.put, List.setIfInBounds_toArray, List.set_cons_zero, List.set_cons_succ]))
  refine lexE ?_
  have hs2 : Hid (w2.heap[sb]? = some (.cells (sCells hb gb pv i n 0 0 (.slice (some ⟨gh, 0, none⟩) m hc) (.slice (some ⟨lb, 0, none⟩) 1 lc2)) 51 (0,0))) := hs2'
  have hh2 : Hid (w2.heap[gh]? = some (.cells (harr.setIfInBounds i (.int .u64 v)) 37 (0,0))) := hh2'
  have hl2 : Hid (w2.ownsRow B 55 2 (.slice (some ⟨lb, 0, none⟩) 1 lc2) 1 [.int .u64 v, .slice (some ⟨wb, 0, none⟩) 1 wc]) := hl2'
  have hwr2 : Hid (w2.ownsRow B 57 2 (.slice (some ⟨wb, 0, none⟩) 1 wc) 1 [.int .i64 i, .slice sa sl sc]) := hwr2'
  have U2 : Hid (Upd (sb :: gh :: lv.ownBlock.toList) w w2) := U1.out.drew.transTo hu2 (fun i hi => .inl hi)
  have hAA : lv.ownBlock = some lb ∨ w.heap.size ≤ lb := by
    rcases hA2 with h | h
    · exact .inl h
    · exact .inr (by simp at h; omega)
  have hWW : w.heap.size ≤ wb := by simp at hwb2; omega
  have hS3 : hb ∉ sb :: gh :: lv.ownBlock.toList := by simp; exact ⟨nb1, nb2, nb3⟩
  have hb2 : Hid (w2.heap[hb]? = some (.cells #[sends, prop, x, y] 29 (0,0))) := hu2.keep hb1.out hS3
  have hp2 : Hid (w2.ownsRow B 37 1 prop k ps) := hu2.owns hp1.out.drew (by
    intro g hgo hm
    simp at hm
    rcases hm with h | h | h
    · exact np1 (h ▸ hgo)
    · exact np2 (h ▸ hgo)
    · exact np3 g hgo h)
  clear hs2' hh2' hl2' hwr2' hu2 hs1 hh1 hx1 U1 hl1' x0 x1 hA2 hwb2 hnT hb1 hp1
  obtain ⟨larr2, hlh2, hls2, hlc2, _, _, _⟩ := owns_open hl2.out
  have la0 : larr2[0]? = some (.int .u64 v) := by have h := hl2.out.cellAt 0 (by omega); rw [cell_at hlh2] at h; simpa using h
  have la1 : larr2[1]? = some (.slice (some ⟨wb, 0, none⟩) 1 wc) := by have h := hl2.out.cellAt 1 (by omega); rw [cell_at hlh2] at h; simpa using h
  have Hlh2 : Hid (w2.heap[lb]? = some (.cells larr2 55 (0,0))) := hlh2
  have La : Hid (larr2[0]? = some (.int .u64 v) ∧ larr2[1]? = some (.slice (some ⟨wb, 0, none⟩) 1 wc)) := ⟨la0, la1⟩
  clear hlh2 la0 la1 hls2
  have c5 : w2.cell? ⟨sb, 5, none⟩ = some (.int .i64 0) := cell_at hs2.out 5
  go_wp2_with fail
  go_quiet ((go_at_call 17; exact Calls.quiet_of_same (atLeast_one hb gb sb lb lc2 i n 0 0 v _ pv _ _ _ larr2 hs2.out Hlh2.out La.out.1 La.out.2)))
  go_wp2_with fail
  generalize hw3 : w2.drewN nq = w3
  have hs3 : Hid (w3.heap[sb]? = some (.cells (sCells hb gb pv i n 0 0 (.slice (some ⟨gh, 0, none⟩) m hc) (.slice (some ⟨lb, 0, none⟩) 1 lc2)) 51 (0,0))) := by rw [← hw3]; exact hs2.out
  have hl3 : Hid (w3.heap[lb]? = some (.cells larr2 55 (0,0))) := by rw [← hw3]; exact Hlh2.out
  have hh3 : Hid (w3.heap[gh]? = some (.cells (harr.setIfInBounds i (.int .u64 v)) 37 (0,0))) := by rw [← hw3]; exact hh2.out
  have hw3' : Hid (Upd [] w2 w3) := by rw [← hw3]; exact (Upd.refl [] w2).drewN _
  clear hw3 c5
  have c3 : w3.cell? ⟨sb, 3, none⟩ = some (.int .i64 i) := cell_at hs3.out 3
  have hset : (harr.setIfInBounds i (.int .u64 v))[i]? = some (.int .u64 v) := by rw [Array.getElem?_setIfInBounds_self_of_lt (by rw [Him.out]; exact hi)]
  have Hset : Hid ((harr.setIfInBounds i (.int .u64 v))[i]? = some (.int .u64 v)) := hset
  clear hset
  go_quiet ((go_at_call 9; exact Calls.quiet_of_same (of_any hb gb sb gh m i n 0 0 v i _ pv _ _ hc hs3.out hh3.out hi Hset.out)))
  go_wp2_with fail
  generalize hw4 : w3.drewN nq = w4
  have hs4 : Hid (w4.heap[sb]? = some (.cells (sCells hb gb pv i n 0 0 (.slice (some ⟨gh, 0, none⟩) m hc) (.slice (some ⟨lb, 0, none⟩) 1 lc2)) 51 (0,0))) := by rw [← hw4]; exact hs3.out
  have hl4 : Hid (w4.heap[lb]? = some (.cells larr2 55 (0,0))) := by rw [← hw4]; exact hl3.out
  have hw4' : Hid (Upd [] w2 w4) := by rw [← hw4]; exact hw3'.out.drewN _
  clear hw4 c3
  have c5 : w4.cell? ⟨sb, 5, none⟩ = some (.int .i64 0) := cell_at hs4.out 5
  have c6 : w4.cell? ⟨sb, 6, none⟩ = some (.int .u64 0) := cell_at hs4.out 6
  have hq0 : IntKind.i64.wrap 0 = 0 := by decide
  have hq1 : IntKind.i64.wrap 1 = 1 := by decide
  go_quiet ((go_at_call 17; exact Calls.quiet_of_same (atLeast_one hb gb sb lb lc2 i n 0 0 v _ pv _ _ _ larr2 hs4.out hl4.out La.out.1 La.out.2)))
  go_wp2_with fail
  have U4 : Upd [] w2 (w4.drewN nq) := hw4'.out.drewN _
  have hB4 : B ≤ (w4.drewN nq).heap.size := by have h1 := U4.size; have h2 := U2.out.size; omega
  refine (enter_any B hb gb sb lb lc2 k i n 0 0 v (w4.drewN nq) pv _ sends prop x y _ _ _ larr2 ps hB4 hs4.out hl4.out La.out.1 La.out.2 hlc2 (U4.keep hb2.out (by simp)) (U4.owns hp2.out (by simp)) hk).mono ?_
  rintro e w5 ⟨rfl, prop', hs5, hh5, hp5, hu5⟩
  go_wp2
  go_returns
  have ngl : gh ≠ lb := ne_elem hh2.out Hlh2.out (by decide)
  refine ⟨rfl, lb, lc2, prop', hs5, ?_, hh5, hp5, ?_⟩
  · refine hu5.keep (U4.keep hh2.out (by simp)) ?_
    simp
    exact ⟨nsg, ngl, Ne.symm nb2, np2⟩
  · refine Upd.transTo (Upd.transTo (U2.out.mono ?_) U4 (by simp)) hu5 ?_
    · intro j hj
      simp at hj ⊢
      rcases hj with h | h | h
      · exact .inl h
      · exact .inr (.inl h)
      · exact .inr (.inr (.inr (.inl h)))
    · intro j hj
      simp at hj ⊢
      rcases hj with h | h | h | h
      · exact .inl (.inl h)
      · rcases hAA with h2 | h2
        · exact .inl (.inr (.inr (.inr (.inl (by rw [h]; exact h2)))))
        · exact .inr (by omega)
      · exact .inl (.inr (.inr (.inl h)))
      · exact .inl (.inr (.inr (.inr (.inr h))))

end Go.Proofs.YbulkcskmFmt
