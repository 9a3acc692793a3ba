/-
  FIRST STOPS, FIRST PART: sync/atomic's pointer functions, and the small functions: Store 17, CompareAndSwap 37, Load 19, stop 38, the closure 35.
-/
import Derived.Test.YbulkcspiProg
import Derived.Test.YbulkcspiMem
import Derived.Test.YbulkcspiSteps
import Derived.Test.YbulkcspiLex
import Derived.Test.YbulkcspiLocks
import Derived.Conc.MuLone
import Derived.Deep.DrawnRows
import Derived.Handy
import Derived.Deep.DeepMust
namespace Go.Proofs.Ybulkcspi
open Go.RowKit Go.Lib Go.MuLone
attribute [local go_sem ↓] Go.wp_at_zero Go.wp_at_succ

theorem run_store_ptr {a : Addr} {u : Value} {y : Option Addr} {w : World} (hc : w.cell? a = some u) (hz : w.frozen? a = false) :
    (callFunc 36 #[.pointer (some a), .pointer y]).run Yba.prog w = .ok (.value (.tuple #[])) (w.setCell a (.pointer y)) := by
  rw [run_callFunc_extern Yba.func36 (by kernel_rfl) (by kernel_rfl) (by kernel_rfl) (show Extern.find Yba.f36 = some Extern.Atomic.storeT by kernel_rfl)]
  change (Sem.run Yba.prog (do
    store (← asAddr (.pointer (some a))) (.pointer y) .atomic
    pure Extern.Atomic.none_) w).andThen _ = _
  simp [asAddr, hc, hz, run_store Yba.prog w a (.pointer y) .atomic rfl, Result.andThen, Extern.Atomic.none_]

theorem run_load_ptr {a : Addr} {y : Option Addr} {w : World} (hc : w.cell? a = some (.pointer y)) :
    (callFunc 39 #[.pointer (some a)]).run Yba.prog w = .ok (.value (.pointer y)) w := by
  rw [run_callFunc_extern Yba.func39 (by kernel_rfl) (by kernel_rfl) (by kernel_rfl) (show Extern.find Yba.f39 = some (Extern.Atomic.loadT .ptr) by kernel_rfl)]
  change (Sem.run Yba.prog (do Extern.Atomic.read .ptr (← asAddr (.pointer (some a)))) w).andThen _ = _
  simp [Extern.Atomic.read, asAddr, hc, Result.andThen]

theorem run_cas_ptr {a : Addr} {x y : Option Addr} {w : World} (hc : w.cell? a = some (.pointer x)) (hz : w.frozen? a = false) :
    (callFunc 53 #[.pointer (some a), .pointer none, .pointer y]).run Yba.prog w = .ok (.value (.bool x.isNone)) (if x.isNone then w.setCell a (.pointer y) else w) := by
  rw [run_callFunc_extern Yba.func53 (by kernel_rfl) (by kernel_rfl) (by kernel_rfl) (show Extern.find Yba.f53 = some (Extern.Atomic.casT .ptr) by kernel_rfl)]
  change (Sem.run Yba.prog (do
    let a' ← asAddr (.pointer (some a))
    if ← Extern.Atomic.touchesFrozen a' then unsupported (.unsafePointer "a write to bytes that a string shares")
    let eq ← match Extern.Atomic.T.ptr, ← Extern.Atomic.read .ptr a', Value.pointer none with
      | _, .int _ x, .int _ y => pure (x == y)
      | .ptr, .pointer x, .pointer y => samePointer x y
      | .int _, .pointer (some _), .int _ 0 | .int _, .int _ 0, .pointer (some _) => pure false
      | .int _, .pointer (some _), _ | .int _, _, .pointer (some _) => unsupported .addressObserved
      | _, _, _ => stuck "atomic.CompareAndSwap: old is no T"
    if eq then store a' (.pointer y) .atomic
    pure (Value.bool eq)) w).andThen _ = _
  cases x <;> simp [Extern.Atomic.touchesFrozen, Extern.Atomic.read, asAddr, viewAt, samePointer, World.shape?_isSome_of_cell? hc, hc, hz, run_store Yba.prog w a (.pointer y) .atomic rfl, Result.andThen]

/-- The bare pointer, turned back into a pointer to a ConflictError. -/
theorem run_convert_back {b : Nat} {arr : Array Value} {w : World} (hb : w.heap[b]? = some (.cells arr 47 (0,0))) (hs : arr.size = 3) :
    (convert 78 45 (.pointer (some ⟨b, 0, none⟩))).run Yba.prog w = .ok (.pointer (some ⟨b, 0, none⟩)) w := by
  have hl : liesAt Yba.prog Yba.prog.depth 47 (3 / Yba.prog.cellsOf 47) 0 47 1 = true := by kernel_rfl
  have hsh : w.shape? b = some (47, 3) := by simp [World.shape?, hb, hs]
  simp [convert, Conv.unsafePointer, Conv.seenAt, viewAt, variablesAt, run_underlying Yba.underlying78, run_underlying Yba.underlying45, hsh, hl, Result.andThen]

theorem store_any (rb o : Nat) (y : Option Addr) (u v : Value) (arr : Array Value) (w : World) (hb : w.heap[rb]? = some (.cells arr 83 (0,0))) (hu : arr[o]? = some u)
    (hy : ∀ x, y = some x → w.cell? x = some v) :
    Calls Yba.prog 17 #[.pointer (some ⟨rb, o, none⟩), .pointer y] w fun e w' => e = .returned (.tuple #[]) ∧ w' = w.setCell ⟨rb, o, none⟩ (.pointer y) := by
  have hc : w.cell? ⟨rb, o, none⟩ = some u := (cell_at hb o).trans hu
  have hz := free_at hb o
  have h1 := run_store_ptr (y := y) hc hz
  have h2 : (convert 45 78 (.pointer y)).run Yba.prog w = .ok (.pointer y) w := by
    cases y with
    | none => simp [convert, Conv.unsafePointer, run_underlying Yba.underlying78, run_underlying Yba.underlying45, Result.andThen]
    | some x => exact run_convert_to_unsafe Yba.underlying45 Yba.underlying78 (by kernel_rfl) (hy x rfl)
  clear hb hu hy
  go_enter Yba.func17, Yba.ntmps17
  go_wp2
  go_end0
  exact ⟨rfl, rfl⟩

theorem cas_any (rb o : Nat) (x : Option Addr) (y : Addr) (v : Value) (arr : Array Value) (w : World) (hb : w.heap[rb]? = some (.cells arr 83 (0,0))) (hu : arr[o]? = some (.pointer x))
    (hy : w.cell? y = some v) :
    Calls Yba.prog 37 #[.pointer (some ⟨rb, o, none⟩), .pointer none, .pointer (some y)] w fun e w' => e = .returned (.bool x.isNone) ∧ w' = (if x.isNone then w.setCell ⟨rb, o, none⟩ (.pointer (some y)) else w) := by
  have hc : w.cell? ⟨rb, o, none⟩ = some (.pointer x) := (cell_at hb o).trans hu
  have hz := free_at hb o
  have h1 := run_cas_ptr (y := some y) hc hz
  have h2 : (convert 45 78 (.pointer (some y))).run Yba.prog w = .ok (.pointer (some y)) w := run_convert_to_unsafe Yba.underlying45 Yba.underlying78 (by kernel_rfl) hy
  have h3 : (convert 45 78 (.pointer none)).run Yba.prog w = .ok (.pointer none) w := by
    simp [convert, Conv.unsafePointer, run_underlying Yba.underlying78, run_underlying Yba.underlying45, Result.andThen]
  clear hb hu hy
  cases x with
  | none =>
    simp only [Option.isNone_none, if_true] at h1 ⊢
    go_enter Yba.func37, Yba.ntmps37
    go_wp2
    go_ret
    exact ⟨rfl, rfl⟩
  | some x =>
    simp only [Option.isNone_some, Bool.false_eq_true, if_false] at h1 ⊢
    go_enter Yba.func37, Yba.ntmps37
    go_wp2
    go_ret
    exact ⟨rfl, rfl⟩

theorem load_any (rb o b : Nat) (arr barr : Array Value) (w : World) (hb : w.heap[rb]? = some (.cells arr 83 (0,0))) (hu : arr[o]? = some (.pointer (some ⟨b, 0, none⟩)))
    (hy : w.heap[b]? = some (.cells barr 47 (0,0))) (hs : barr.size = 3) :
    Calls Yba.prog 19 #[.pointer (some ⟨rb, o, none⟩)] w fun e w' => e = .returned (.pointer (some ⟨b, 0, none⟩)) ∧ w' = w := by
  have hc : w.cell? ⟨rb, o, none⟩ = some (.pointer (some ⟨b, 0, none⟩)) := (cell_at hb o).trans hu
  have h1 := run_load_ptr hc
  have h2 := run_convert_back hy hs
  clear hb hu hy
  go_enter Yba.func19, Yba.ntmps19
  go_wp2
  go_ret
  exact ⟨rfl, rfl⟩

theorem stop_any (kb : Nat) (b : Bool) (arr : Array Value) (w : World) (hb : w.heap[kb]? = some (.cells arr 98 (0,0))) (h0 : arr[0]? = some (.int .i32 0)) (h1 : arr[14]? = some (.bool b)) :
    Calls Yba.prog 38 #[.pointer (some ⟨kb, 0, none⟩)] w fun e w' => e = .returned (.tuple #[]) ∧ ∃ arr', w'.heap[kb]? = some (.cells arr' 98 (0,0)) ∧ arr'[0]? = some (.int .i32 0) ∧ arr'[14]? = some (.bool true) ∧ Upd [kb] w w' := by
  have Hb : Hid (w.heap[kb]? = some (.cells arr 98 (0,0)) ∧ arr[0]? = some (.int .i32 0) ∧ arr[14]? = some (.bool b)) := ⟨hb, h0, h1⟩
  have c0 : w.cell? ⟨kb, 0, none⟩ = some (.int .i32 0) := (cell_at hb 0).trans h0
  have c1 : w.cell? ⟨kb, 14, none⟩ = some (.bool b) := (cell_at hb 14).trans h1
  have f0 := free_at hb 0
  have f1 := free_at hb 14
  clear hb h0 h1
  go_enter Yba.func38, Yba.ntmps38
  go_wp2_with (go_at_call 54; refine (lock_free Yba.muLib ⟨kb, 0, none⟩ _ c0 f0).mono ?_; rintro e w' ⟨rfl, rfl⟩)
  refine (unlock_held Yba.muLib ⟨kb, 0, none⟩ _ ?_ ?_).mono ?_
  · exact (World.cell?_setCell_other _ ⟨kb, 14, none⟩ ⟨kb, 0, none⟩ _ (by simp)).trans (World.cell?_setCell_same w ⟨kb, 0, none⟩ (.int .i32 1) c0)
  · simp [f0]
  rintro e w' ⟨rfl, rfl⟩
  go_wp2
  go_end0
  have hs : 14 < arr.size := (Array.getElem?_eq_some_iff.1 Hb.out.2.2).1
  refine ⟨rfl, _, set_at (set_at (set_at Hb.out.1 0 _) 14 _) 0 _, ?_, ?_, ?_⟩
  · rw [Array.getElem?_setIfInBounds_self_of_lt (by simp; omega)]
  · rw [Array.getElem?_setIfInBounds, if_neg (by omega), Array.getElem?_setIfInBounds_self_of_lt (by simp; omega)]
  · exact Upd.setCell (Upd.setCell (Upd.setCell (Upd.refl _ _) (.inl (by simp)) _) (.inl (by simp)) _) (.inl (by simp)) _

/-- The closure that counts one worker's letting go. -/
theorem inc_any (cb jb g n j : Nat) (garr : Array Value) (x : Int) (w : World) (hc : w.heap[cb]? = some (.cells #[.slice (some ⟨g, 0, none⟩) n n] 42 (0,0))) (hj : w.heap[jb]? = some (.cells #[.int .i64 j] 3 (0,0)))
    (hg : w.heap[g]? = some (.cells garr 3 (0,0))) (hx : garr[j]? = some (.int .i64 x)) (hjn : j < n) (hx0 : 0 ≤ x) (hx1 : x ≤ 1000) :
    Calls Yba.prog 35 #[.pointer (some ⟨cb, 0, none⟩), .pointer (some ⟨jb, 0, none⟩)] w fun e w' => e = .returned (.tuple #[]) ∧ w' = w.setCell ⟨g, j, none⟩ (.int .i64 (x + 1)) := by
  have c0 : w.cell? ⟨cb, 0, none⟩ = some (.slice (some ⟨g, 0, none⟩) n n) := cell_at hc 0
  have c1 : w.cell? ⟨jb, 0, none⟩ = some (.int .i64 j) := cell_at hj 0
  have c2 : w.cell? ⟨g, j, none⟩ = some (.int .i64 x) := (cell_at hg j).trans hx
  have f2 := free_at hg j
  have b1 : (0 : Int) ≤ (j : Int) := by omega
  have b2 : (j : Int) < (n : Int) := by omega
  clear hc hj hg hx
  go_enter Yba.func35, Yba.ntmps35
  go_wp2
  go_end0
  exact ⟨rfl, rfl⟩

end Go.Proofs.Ybulkcspi
