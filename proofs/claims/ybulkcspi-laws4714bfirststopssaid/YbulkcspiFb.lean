/-
  FIRST STOPS, SECOND PART: zzs4714bbuild 16.
-/
import Derived.Test.YbulkcspiFa
import Derived.Deep.QuietTactic
import Derived.BigQuiet
import Derived.Deep.RegionLaw
import Derived.BigRegion
import Derived.Deep.OwnRows
namespace Go.Proofs.Ybulkcspi
open Go.RowKit Go.Lib Go.MuLone
attribute [local go_sem ↓] Go.wp_at_zero Go.wp_at_succ
theorem Yba.info108 : (Yba.prog.info? 108).map (fun i => (i.zero, i.size, i.bytes)) = some (some (.pointer none), 1, 8) := by kernel_rfl

theorem zc130b : (Yba.zeroCells130.size == 0) = false := by kernel_rfl
theorem zc130 : 0 < Yba.zeroCells130.size := by
  have h := zc130b
  simp only [beq_eq_false_iff_ne, ne_eq] at h
  exact Nat.pos_of_ne_zero h

/-- A worker as it was built: its closure holds the counts' box cb and its own number j. -/
def Wk (B cb : Nat) (w : World) (v : Value) (j : Nat) : Prop :=
  ∃ (pb wb jb : Nat) (parr warr : Array Value), v = .pointer (some ⟨pb, 0, none⟩) ∧ w.heap[pb]? = some (.cells parr 130 (0,0)) ∧ parr[0]? = some (.pointer (some ⟨wb, 0, none⟩)) ∧
    w.heap[wb]? = some (.cells warr 121 (0,0)) ∧ warr[1]? = some (.func (.func 35) #[] #[.pointer (some ⟨cb, 0, none⟩), .pointer (some ⟨jb, 0, none⟩)]) ∧ w.heap[jb]? = some (.cells #[.int .i64 j] 3 (0,0)) ∧ B ≤ jb
theorem Wk.keep {B cb : Nat} {w w' : World} {v : Value} {j : Nat} (h : Wk B cb w v j) {S : List Nat} (hu : Upd S w w') (h1 : ∀ (b : Nat) (c : Array Value), w.heap[b]? = some (.cells c 130 (0,0)) → b ∉ S) (h2 : ∀ (b : Nat) (c : Array Value), w.heap[b]? = some (.cells c 121 (0,0)) → b ∉ S)
    (h3 : ∀ (b : Nat) (c : Array Value), w.heap[b]? = some (.cells c 3 (0,0)) → B ≤ b → b ∉ S) : Wk B cb w' v j := by
  obtain ⟨pb, wb, jb, parr, warr, e1, e2, e3, e4, e5, e6, e7⟩ := h
  exact ⟨pb, wb, jb, parr, warr, e1, hu.keep e2 (h1 _ _ e2), e3, hu.keep e4 (h2 _ _ e4), e5, hu.keep e6 (h3 _ _ e6 e7), e7⟩

/-- The run: its recorded conflict, whether the checking has stopped, each worker's count; m: how many workers are laid. -/
def Run (B rb kb wb cb g n m : Nat) (cf : Option Addr) (st : Bool) (X : Nat → Int) (w : World) : Prop :=
  ∃ (rarr karr warr garr : Array Value), w.heap[rb]? = some (.cells rarr 83 (0,0)) ∧ rarr[8]? = some (.pointer (some ⟨kb, 0, none⟩)) ∧ rarr[16]? = some (.slice (some ⟨wb, 0, none⟩) n n) ∧ rarr[17]? = some (.pointer cf) ∧
    w.heap[kb]? = some (.cells karr 98 (0,0)) ∧ karr[0]? = some (.int .i32 0) ∧ karr[14]? = some (.bool st) ∧
    w.heap[wb]? = some (.cells warr 108 (0,0)) ∧ warr.size = n ∧ (∀ j, j < m → ∃ v, warr[j]? = some v ∧ Wk B cb w v j) ∧ w.heap[cb]? = some (.cells #[.slice (some ⟨g, 0, none⟩) n n] 42 (0,0)) ∧
    w.heap[g]? = some (.cells garr 3 (0,0)) ∧ garr.size = n ∧ (∀ j, j < n → garr[j]? = some (.int .i64 (X j))) ∧ g < B

/-- What zzs4714bbuild answers. -/
def Made (n g : Nat) (w : World) (e : Ending) (w' : World) : Prop :=
  ∃ rb kb wb cb : Nat, e = .returned (.pointer (some ⟨rb, 0, none⟩)) ∧ Run w.heap.size rb kb wb cb g n n none false (fun _ => 0) w' ∧ Upd [] w w' ∧ w.heap.size ≤ rb ∧ w.heap.size ≤ kb

set_option maxRecDepth 100000 in
set_option maxHeartbeats 2000000 in
theorem make_any (n g : Nat) (garr : Array Value) (w : World) (hn : n ≤ 300) (hg : w.heap[g]? = some (.cells garr 3 (0,0))) (hgs : garr.size = n) (hgx : ∀ j, j < n → garr[j]? = some (.int .i64 0)) :
    Calls Yba.prog 16 #[.int .i64 n, .slice (some ⟨g, 0, none⟩) n n] w fun e w' => Made n g w e w' := by
  obtain ⟨i0, hi, hz0, hz1, hz2⟩ := info_parts Yba.info108
  have Hg : Hid (w.heap[g]? = some (.cells garr 3 (0,0)) ∧ garr.size = n ∧ ∀ j, j < n → garr[j]? = some (.int .i64 0)) := ⟨hg, hgs, hgx⟩
  clear hg hgs hgx
  go_enter Yba.func16, Yba.ntmps16
  go_wp2_with (at_make; go_must (refine wpList_make_row _ rfl _ _ _ rfl 108 i0 _ Yba.underlying76 hi hz0 hz1 (by rfl) _ _ n rfl rfl (by rw [hz2]; omega) (by omega) ?_))
  go_loopw [6] (fun i wr => ∃ (k : Nat), k ≤ n ∧ i = .int .i64 k ∧ Hid (Run w.heap.size (w.heap.size + 1 + 1) (w.heap.size + 1) (w.heap.size + 1 + 1 + 1) w.heap.size g n k none false (fun _ => 0) wr ∧ Upd [] w wr)) (fun i _ => n - (intOf i).toNat)
  case atStart =>
    refine ⟨0, by omega, rfl, ⟨_, _, _, garr, heap_past (heap_last _ _ _ (by simp)) _, rfl, rfl, rfl, heap_past (heap_past (heap_last _ _ _ (by simp)) _) _, rfl, rfl, heap_last _ _ _ (by simp), by simp [madeCells], fun j hj => by omega, heap_past (heap_past (heap_past (heap_last _ _ _ (by simp)) _) _) _, ?_, Hg.out.2.1, Hg.out.2.2, lt_of_heap Hg.out.1⟩, ?_⟩
    · exact heap_past (heap_past (heap_past (heap_past Hg.out.1 _) _) _) _
    · exact Upd.alloc (Upd.alloc (Upd.alloc (Upd.alloc (Upd.refl _ _) _) _) _) _
  case round =>
    obtain ⟨k, hk, rfl, hI⟩ := hrel
    obtain ⟨⟨rarr, karr, warr, garr', r1, r2, r3, r4, r5, r6, r7, r8, r9, r10, r11, r12, r13, r14, r15⟩, hU⟩ := hI.out
    by_cases hlt : k < n
    · have hkw : k < warr.size := by omega
      have c1 : wr.cell? ⟨w.heap.size + 1 + 1, 16, none⟩ = some (.slice (some ⟨w.heap.size + 1 + 1 + 1, 0, none⟩) n n) := (cell_at r1 16).trans r3
      have c2 : wr.cell? ⟨w.heap.size + 1 + 1 + 1, k, none⟩ = some (warr[k]'hkw) := (cell_at r8 k).trans (Array.getElem?_eq_getElem _)
      have f2 := free_at r8 k
      have b1 : (0 : Int) ≤ (k : Int) := by omega
      have b2 : (k : Int) < (n : Int) := by omega
      have hsz : w.heap.size + 1 + 1 + 1 < wr.heap.size := lt_of_heap r8
      have HR : Hid (wr.heap[w.heap.size + 1 + 1 + 1]? = some (.cells warr 108 (0,0))) := r8
      generalize warr[k]'hkw = old at c2
      have c1' : ∀ o, (wr.alloc o).cell? ⟨w.heap.size + 1 + 1, 16, none⟩ = some (.slice (some ⟨w.heap.size + 1 + 1 + 1, 0, none⟩) n n) := fun o => (cell_at (heap_past r1 o) 16).trans r3
      have c2' : ∀ o o1 o2, (((wr.alloc o).alloc o1).alloc o2).cell? ⟨w.heap.size + 1 + 1 + 1, k, none⟩ = some old := fun o o1 o2 => (cell_at (heap_past (heap_past (heap_past r8 o) o1) o2) k).trans ((cell_at r8 k).symm.trans c2)
      have f2' : ∀ o o1 o2, (((wr.alloc o).alloc o1).alloc o2).frozen? ⟨w.heap.size + 1 + 1 + 1, k, none⟩ = false := fun o o1 o2 => free_at (heap_past (heap_past (heap_past r8 o) o1) o2) k
      clear c1 c2 f2
      clear r1 r2 r3 r4 r5 r6 r7 r8 r10 r11 r13 r14 hU
      go_wp2
      obtain ⟨⟨rarr, karr, warr2, garr2, r1, r2, r3, r4, r5, r6, r7, r8, r9', r10, r11, r12', r13, r14, r15'⟩, hU⟩ := hI.out
      obtain rfl : warr = warr2 := by rw [HR.out] at r8; simpa using r8
      refine ⟨⟨k + 1, by omega, by go_num, ⟨rarr, karr, _, garr2, ?_, r2, r3, r4, ?_, r6, r7, set_at (heap_past (heap_past (heap_past r8 _) _) _) k _, by simpa using r9, ?_, ?_, ?_, r13, r14, r15⟩, ?_⟩, by simp [intOf]; omega⟩
      · rw [set_ne (by simp)]; exact heap_past (heap_past (heap_past r1 _) _) _
      · rw [set_ne (by simp)]; exact heap_past (heap_past (heap_past r5 _) _) _
      · intro j hj
        by_cases hjk : j = k
        · subst hjk
          refine ⟨_, Array.getElem?_setIfInBounds_self_of_lt hkw, wr.heap.size + 1 + 1, wr.heap.size + 1, wr.heap.size, _, _, rfl, (set_ne (by simp; omega)).trans (heap_last _ _ _ (by simp)), Array.getElem?_setIfInBounds_self_of_lt zc130, (set_ne (by simp; omega)).trans (heap_past (heap_last _ _ _ (by simp)) _), rfl, (set_ne (by simp; omega)).trans (heap_past (heap_past (heap_last _ _ _ rfl) _) _), by omega⟩
        · obtain ⟨v, hv1, hv2⟩ := r10 j (by omega)
          refine ⟨v, by rw [Array.getElem?_setIfInBounds, if_neg (fun e => hjk e.symm)]; exact hv1, ?_⟩
          refine Wk.keep (S := [w.heap.size + 1 + 1 + 1]) hv2 (Upd.setCell (Upd.alloc (Upd.alloc (Upd.alloc (Upd.refl _ _) _) _) _) (.inl (by simp)) _) ?_ ?_ ?_
          · intro b c hb
            simp only [List.mem_singleton]
            exact ne_elem hb r8 (by decide)
          · intro b c hb
            simp only [List.mem_singleton]
            exact ne_elem hb r8 (by decide)
          · intro b c hb _
            simp only [List.mem_singleton]
            exact ne_elem hb r8 (by decide)
      · rw [set_ne (by simp; omega)]; exact heap_past (heap_past (heap_past r11 _) _) _
      · rw [set_ne (by simp; omega)]; exact heap_past (heap_past (heap_past r12' _) _) _
      · exact Upd.setCell (Upd.alloc (Upd.alloc (Upd.alloc hU _) _) _) (.inr (by simp; omega)) _
    · go_wp2
      go_ret
      obtain rfl : k = n := by omega
      exact ⟨_, _, _, _, rfl, hI.out.1, hI.out.2, by omega, by omega⟩

end Go.Proofs.Ybulkcspi
