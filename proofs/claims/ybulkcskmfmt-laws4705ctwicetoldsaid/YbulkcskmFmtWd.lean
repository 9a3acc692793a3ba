/-
  WALKS, FOURTH PART: the small functions over the wishes: find, of, atLeast, without, drop, forget.
-/
import Derived.Test.YbulkcskmFmtWc
import Derived.Test.YbulkcskmFmtSteps
namespace Go.Proofs.YbulkcskmFmt
open Go.RowKit Go.Lib
attribute [local go_sem ↓] Go.wp_at_zero Go.wp_at_succ

set_option maxRecDepth 100000 in
set_option maxHeartbeats 1000000 in
theorem find_empty (hb gb sb lc : Nat) (self n f view v : Int) (la : Option Addr) (w : World) (pv hi : Value)
    (hs : w.heap[sb]? = some (.cells (sCells hb gb pv self n f view hi (.slice la 0 lc)) 51 (0,0))) :
    Calls Ybaf.prog 20 #[.pointer (some ⟨sb, 7, none⟩), .int .u64 v] w
      fun e w' => e = .returned (.tuple #[.int .i64 0, .bool false]) ∧ w' = w := by
  have c8 : w.cell? ⟨sb, 8, none⟩ = some (.slice la 0 lc) := cell_at hs 8
  clear hs
  go_enter Ybaf.func20, Ybaf.ntmps20
  go_wp2
  go_rounds 1
  go_ret2
  exact ⟨rfl, rfl⟩

set_option maxRecDepth 100000 in
set_option maxHeartbeats 1000000 in
theorem find_hit (hb gb sb lb lc : Nat) (self n f view v : Int) (w : World) (pv hi : Value) (wa : Option Addr) (wl wc : Nat) (larr : Array Value)
    (hs : w.heap[sb]? = some (.cells (sCells hb gb pv self n f view hi (.slice (some ⟨lb, 0, none⟩) 1 lc)) 51 (0,0)))
    (hl : w.heap[lb]? = some (.cells larr 55 (0,0))) (h0 : larr[0]? = some (.int .u64 v)) (h1 : larr[1]? = some (.slice wa wl wc)) :
    Calls Ybaf.prog 20 #[.pointer (some ⟨sb, 7, none⟩), .int .u64 v] w
      fun e w' => e = .returned (.tuple #[.int .i64 0, .bool true]) ∧ Upd [] w w' := by
  have c8 : w.cell? ⟨sb, 8, none⟩ = some (.slice (some ⟨lb, 0, none⟩) 1 lc) := cell_at hs 8
  have l0 : w.cell? ⟨lb, 0, none⟩ = some (.int .u64 v) := (cell_at hl 0).trans h0
  have l1 : w.cell? ⟨lb, 1, none⟩ = some (.slice wa wl wc) := (cell_at hl 1).trans h1
  clear hs hl h0 h1
  go_enter Ybaf.func20, Ybaf.ntmps20
  go_wp2
  refine wp_loop_rounds 1 ?_
  rw [rounds_succ]
  go_wp2
  go_quiet (fail)
  go_wp2
  go_ret2
  exact ⟨by simp, ((Upd.refl [] w).alloc _).drewN _⟩
set_option maxRecDepth 100000 in
set_option maxHeartbeats 1000000 in
theorem of_any (hb gb sb gh m : Nat) (self n f view v : Int) (i : Nat) (w : World) (pv lv : Value) (harr : Array Value) (c : Nat)
    (hs : w.heap[sb]? = some (.cells (sCells hb gb pv self n f view (.slice (some ⟨gh, 0, none⟩) m c) lv) 51 (0,0)))
    (hh : w.heap[gh]? = some (.cells harr 37 (0,0))) (hi : i < m) (hv : harr[i]? = some (.int .u64 v)) :
    Calls Ybaf.prog 9 #[.pointer (some ⟨sb, 7, none⟩), .int .i64 i] w
      fun e w' => e = .returned (.int .u64 v) ∧ w' = w := by
  have c7 : w.cell? ⟨sb, 7, none⟩ = some (.slice (some ⟨gh, 0, none⟩) m c) := cell_at hs 7
  have l0 : w.cell? ⟨gh, i, none⟩ = some (.int .u64 v) := (cell_at hh i).trans hv
  clear hs hh hv
  go_enter Ybaf.func9, Ybaf.ntmps9
  go_wp2
  go_ret
  exact ⟨rfl, rfl⟩

set_option maxRecDepth 100000 in
set_option maxHeartbeats 1000000 in
theorem atLeast_one (hb gb sb lb lc : Nat) (self n f view v : Int) (w : World) (pv hi : Value) (wa : Option Addr) (wc : Nat) (larr : Array Value)
    (hs : w.heap[sb]? = some (.cells (sCells hb gb pv self n f view hi (.slice (some ⟨lb, 0, none⟩) 1 lc)) 51 (0,0)))
    (hl : w.heap[lb]? = some (.cells larr 55 (0,0))) (h0 : larr[0]? = some (.int .u64 v)) (h1 : larr[1]? = some (.slice wa 1 wc)) :
    Calls Ybaf.prog 17 #[.pointer (some ⟨sb, 7, none⟩), .int .i64 1] w
      fun e w' => e = .returned (.tuple #[.int .u64 v, .bool true]) ∧ w' = w := by
  have c8 : w.cell? ⟨sb, 8, none⟩ = some (.slice (some ⟨lb, 0, none⟩) 1 lc) := cell_at hs 8
  have l0 : w.cell? ⟨lb, 0, none⟩ = some (.int .u64 v) := (cell_at hl 0).trans h0
  have l1 : w.cell? ⟨lb, 1, none⟩ = some (.slice wa 1 wc) := (cell_at hl 1).trans h1
  clear hs hl h0 h1
  go_enter Ybaf.func17, Ybaf.ntmps17
  go_wp2
  refine wp_loop_rounds 1 ?_
  rw [rounds_succ]
  go_wp2
  go_ret2
  exact ⟨rfl, rfl⟩

set_option maxRecDepth 100000 in
set_option maxHeartbeats 1000000 in
theorem atLeast_no (hb gb sb lb lc : Nat) (self n f view k : Int) (w : World) (pv hi : Value) (wa : Option Addr) (wc : Nat) (larr : Array Value)
    (hs : w.heap[sb]? = some (.cells (sCells hb gb pv self n f view hi (.slice (some ⟨lb, 0, none⟩) 1 lc)) 51 (0,0)))
    (hl : w.heap[lb]? = some (.cells larr 55 (0,0))) (h1 : larr[1]? = some (.slice wa 1 wc)) (hk : 2 ≤ k) :
    Calls Ybaf.prog 17 #[.pointer (some ⟨sb, 7, none⟩), .int .i64 k] w
      fun e w' => e = .returned (.tuple #[.int .u64 0, .bool false]) ∧ w' = w := by
  have c8 : w.cell? ⟨sb, 8, none⟩ = some (.slice (some ⟨lb, 0, none⟩) 1 lc) := cell_at hs 8
  have l1 : w.cell? ⟨lb, 1, none⟩ = some (.slice wa 1 wc) := (cell_at hl 1).trans h1
  clear hs hl h1
  go_enter Ybaf.func17, Ybaf.ntmps17
  go_wp2
  refine wp_loop_rounds 2 ?_
  rw [rounds_succ]
  go_wp2
  rw [rounds_succ]
  go_wp2
  go_ret2
  exact ⟨rfl, rfl⟩


theorem Ybaf.info57 : (Ybaf.prog.info? 57).map (fun i => (i.zero, i.size, i.bytes)) = some (some (.agg #[.int .i64 0, .slice none 0 0]), 2, 32) := by kernel_rfl
theorem Ybaf.info55 : (Ybaf.prog.info? 55).map (fun i => (i.zero, i.size, i.bytes)) = some (some (.agg #[.int .u64 0, .slice none 0 0]), 2, 32) := by kernel_rfl

set_option maxRecDepth 100000 in
set_option maxHeartbeats 1000000 in
theorem without_one (wb wc sl sc : Nat) (self : Int) (sa : Option Addr) (w : World) (warr : Array Value)
    (hl : w.heap[wb]? = some (.cells warr 57 (0,0))) (h0 : warr[0]? = some (.int .i64 self)) (h1 : warr[1]? = some (.slice sa sl sc)) (hwc : 1 ≤ wc) :
    Calls Ybaf.prog 21 #[.slice (some ⟨wb, 0, none⟩) 1 wc, .int .i64 self] w
      fun e w' => e = .returned (.slice (some ⟨wb, 0, none⟩) 0 wc) ∧ Upd [wb] w w' := by
  obtain ⟨i0, hi, hz0, hz1, hz2⟩ := info_parts Ybaf.info57
  have l0 : w.cell? ⟨wb, 0, none⟩ = some (.int .i64 self) := (cell_at hl 0).trans h0
  have l1 : w.cell? ⟨wb, 1, none⟩ = some (.slice sa sl sc) := (cell_at hl 1).trans h1
  have f0 := free_at hl 0
  have f1 := free_at hl 1
  have hlt := lt_of_heap hl
  clear hl h0 h1
  have hw1 : IntKind.i64.wrap 1 = 1 := by decide
  obtain ⟨A, hA⟩ : ∃ A, (if wc = 1 then some (⟨wb, 0, none⟩ : Addr) else some ⟨wb, 2, none⟩) = A := ⟨_, rfl⟩
  go_enter Ybaf.func21, Ybaf.ntmps21
  go_wp2
  refine wp_loop_rounds 1 ?_
  rw [rounds_succ]
  go_wp2
  go_region_law (refine step_copy_zero (by rfl) (.tmp 24) (.tmp 28) _ _ (by rfl) 57 i0 Ybaf.underlying53 hi (some ⟨wb, 0, none⟩) A 1 wc 0 (wc - 1) (by simp [Act.eval, Act.put]) (by simp [Act.eval, Act.put]) (by simp) ?_)
  all_goals
    go_wp2
    go_ret
    refine ⟨rfl, ?_⟩
    repeat' (first | (with_reducible exact Upd.refl _ _) | (with_reducible refine Upd.drew ?_) | (with_reducible refine Upd.setCell ?_ (.inl (by simp)) _) | (with_reducible refine Upd.alloc ?_ _))

set_option maxRecDepth 100000 in
set_option maxHeartbeats 1000000 in
theorem drop_one (hb gb sb lb lc : Nat) (self n f view : Int) (w : World) (pv hg u0 u1 : Value) (larr : Array Value)
    (hs : w.heap[sb]? = some (.cells (sCells hb gb pv self n f view hg (.slice (some ⟨lb, 0, none⟩) 1 lc)) 51 (0,0)))
    (hl : w.heap[lb]? = some (.cells larr 55 (0,0))) (h0 : larr[0]? = some u0) (h1 : larr[1]? = some u1) (hlc : 1 ≤ lc) :
    Calls Ybaf.prog 22 #[.pointer (some ⟨sb, 7, none⟩), .int .i64 0, .int .i64 1] w
      fun e w' => e = .returned (.tuple #[]) ∧ w'.heap[sb]? = some (.cells (sCells hb gb pv self n f view hg (.slice (some ⟨lb, 0, none⟩) 0 lc)) 51 (0,0)) ∧
        (∃ larr', w'.heap[lb]? = some (.cells larr' 55 (0,0)) ∧ larr'.size = larr.size) ∧ Upd [sb, lb] w w' := by
  obtain ⟨i0, hi, hz0, hz1, hz2⟩ := info_parts Ybaf.info55
  have c8 : w.cell? ⟨sb, 8, none⟩ = some (.slice (some ⟨lb, 0, none⟩) 1 lc) := cell_at hs 8
  have f8 := free_at hs 8
  have l0 : w.cell? ⟨lb, 0, none⟩ = some u0 := (cell_at hl 0).trans h0
  have l1 : w.cell? ⟨lb, 1, none⟩ = some u1 := (cell_at hl 1).trans h1
  have f0 := free_at hl 0
  have f1 := free_at hl 1
  have hne : sb ≠ lb := ne_elem hs hl (by decide)
  have Hs : Hid (w.heap[sb]? = some (.cells (sCells hb gb pv self n f view hg (.slice (some ⟨lb, 0, none⟩) 1 lc)) 51 (0,0))) := hs
  have Hl : Hid (w.heap[lb]? = some (.cells larr 55 (0,0))) := hl
  clear hs hl h0 h1
  have hw1 : IntKind.i64.wrap 1 = 1 := by decide
  obtain ⟨A, hA⟩ : ∃ A, (if lc = 1 then some (⟨lb, 0, none⟩ : Addr) else some ⟨lb, 2, none⟩) = A := ⟨_, rfl⟩
  have hlcI : (1 : Int) ≤ (lc : Int) := by omega
  go_enter Ybaf.func22, Ybaf.ntmps22
  go_wp2
  go_region_law (refine step_append_zero (by rfl) (.tmp 18) (.tmp 24) _ (by rfl) 55 i0 Ybaf.underlying47 hi ⟨lb, 0, none⟩ A 0 lc (lc - 1) (by simp [Act.eval, Act.put]) (by simp [Act.eval, Act.put]) (by omega) ?_)
  all_goals
    go_wp2
    go_region_law (refine step_clear_two (by rfl) (.tmp 38) _ (by rfl) 55 i0 (.int .u64 0) (.slice none 0 0) u0 u1 Ybaf.underlying47 hi hz0 lb lc (by simp [Act.eval, Act.put]) (by show (w.setCell ⟨sb, 8, none⟩ (.slice (some ⟨lb, 0, none⟩) 0 lc)).cell? ⟨lb, 0, none⟩ = some u0; exact (World.cell?_of_block (set_ne (Ne.symm hne))).trans l0) (by show (w.setCell ⟨sb, 8, none⟩ (.slice (some ⟨lb, 0, none⟩) 0 lc)).cell? ⟨lb, 1, none⟩ = some u1; exact (World.cell?_of_block (set_ne (Ne.symm hne))).trans l1) (by simp [f0]) (by simp [f1]) rfl rfl ?_)
  all_goals
    go_wp2
    go_end0
    have hs1 := set_at Hs.out 8 (.slice (some ⟨lb, 0, none⟩) 0 lc)
    have hl1 := (set_ne (w := w) (v := .slice (some ⟨lb, 0, none⟩) 0 lc) (a := ⟨sb, 8, none⟩) (Ne.symm hne)).trans Hl.out
    have U1 : Upd [sb, lb] w (w.setCell ⟨sb, 8, none⟩ (.slice (some ⟨lb, 0, none⟩) 0 lc)) := Upd.setCell (Upd.refl _ w) (.inl (by simp)) _
    generalize w.setCell ⟨sb, 8, none⟩ (.slice (some ⟨lb, 0, none⟩) 0 lc) = w1 at *
    have hs2 : w1.drew.drew.heap[sb]? = some (.cells (sCells hb gb pv self n f view hg (.slice (some ⟨lb, 0, none⟩) 0 lc)) 51 (0,0)) := hs1
    have hl2 : w1.drew.drew.heap[lb]? = some (.cells larr 55 (0,0)) := hl1
    have U2 : Upd [sb, lb] w w1.drew.drew := U1.drew.drew
    have U3 := upd_setCells w1.drew.drew lb 0 [.int .u64 0, .slice none 0 0]
    exact ⟨rfl, U3.keep hs2 (by simp; exact hne), ⟨_, set_at (set_at hl2 0 (.int .u64 0)) 1 (.slice none 0 0), by simp⟩, U2.transTo U3 (by intro i hi; left; simp at hi ⊢; exact .inr hi)⟩

set_option maxRecDepth 100000 in
set_option maxHeartbeats 1000000 in
theorem forget_one (hb gb sb lb lc : Nat) (self n f view v : Int) (w : World) (pv hg : Value) (wa : Option Addr) (wl wc : Nat) (larr : Array Value)
    (hs : w.heap[sb]? = some (.cells (sCells hb gb pv self n f view hg (.slice (some ⟨lb, 0, none⟩) 1 lc)) 51 (0,0)))
    (hl : w.heap[lb]? = some (.cells larr 55 (0,0))) (h0 : larr[0]? = some (.int .u64 v)) (h1 : larr[1]? = some (.slice wa wl wc)) (hlc : 1 ≤ lc) :
    Calls Ybaf.prog 23 #[.pointer (some ⟨sb, 7, none⟩), .int .u64 v] w
      fun e w' => e = .returned (.tuple #[]) ∧ w'.heap[sb]? = some (.cells (sCells hb gb pv self n f view hg (.slice (some ⟨lb, 0, none⟩) 0 lc)) 51 (0,0)) ∧ Upd [sb, lb] w w' := by
  have Hs : Hid (w.heap[sb]? = some (.cells (sCells hb gb pv self n f view hg (.slice (some ⟨lb, 0, none⟩) 1 lc)) 51 (0,0))) := hs
  have Hl : Hid (w.heap[lb]? = some (.cells larr 55 (0,0))) := hl
  have H0 : Hid (larr[0]? = some (.int .u64 v)) := h0
  have H1 : Hid (larr[1]? = some (.slice wa wl wc)) := h1
  clear hs hl h0 h1
  go_enter Ybaf.func23, Ybaf.ntmps23
  go_wp2_with fail
  refine (find_hit hb gb sb lb lc self n f view v w pv hg wa wl wc larr Hs.out Hl.out H0.out H1.out).mono ?_
  rintro e w1 ⟨rfl, hu1⟩
  go_wp2_with fail
  refine (drop_one hb gb sb lb lc self n f view w1 pv hg _ _ larr (hu1.keep Hs.out (by simp)) (hu1.keep Hl.out (by simp)) H0.out H1.out hlc).mono ?_
  rintro e w2 ⟨rfl, hs2, _, hu2⟩
  go_wp2
  go_end0
  exact ⟨rfl, hs2, (hu1.mono (by simp)).transTo hu2 (fun i hi => .inl hi)⟩

end Go.Proofs.YbulkcskmFmt
