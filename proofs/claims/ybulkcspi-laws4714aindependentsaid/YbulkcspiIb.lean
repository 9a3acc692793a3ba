/-
  INDEPENDENT, SECOND PART: addVV 24 and subVV 25 over one word.
-/
import Derived.Test.YbulkcspiIa
namespace Go.Proofs.Ybulkcspi
open Go.RowKit Go.Lib
attribute [local go_sem ↓] Go.wp_at_zero Go.wp_at_succ

set_option maxRecDepth 100000 in
set_option maxHeartbeats 1000000 in
theorem addVV_one (zg xg yg cz cx cy : Nat) (x y : Int) (zarr : Array Value) (w : World) (hz : w.heap[zg]? = some (.cells zarr 104 (0,0))) (hzs : 0 < zarr.size) (hx : w.cell? ⟨xg, 0, none⟩ = some (.int .u64 x)) (hy : w.cell? ⟨yg, 0, none⟩ = some (.int .u64 y)) (hx0 : 0 ≤ x) (hy0 : 0 ≤ y) :
    Calls Yba.prog 24 #[.slice (some ⟨zg, 0, none⟩) 1 cz, .slice (some ⟨xg, 0, none⟩) 1 cx, .slice (some ⟨yg, 0, none⟩) 1 cy] w fun e w' => e = .returned (.int .u64 ((x + y) / 18446744073709551616)) ∧ w'.heap[zg]? = some (.cells (zarr.setIfInBounds 0 (.int .u64 ((x + y) % 18446744073709551616))) 104 (0,0)) ∧ Upd [zg] w w' := by
  have HZ : Hid (w.heap[zg]? = some (.cells zarr 104 (0,0))) := hz
  clear hz
  obtain ⟨hi, hhi⟩ : ∃ hi : Int, hi = ((x + y) / 18446744073709551616) := ⟨_, rfl⟩
  obtain ⟨lo, hlo⟩ : ∃ lo : Int, lo = ((x + y) % 18446744073709551616) := ⟨_, rfl⟩
  have Hcall : ∀ w : World, Calls Yba.prog 46 #[.int .u64 x, .int .u64 y, .int .u64 0] w fun e w' => e = .returned (.tuple #[.int .u64 lo, .int .u64 hi]) ∧ w' = w := by
    intro w
    have h := Add_any x y 0 w hx0 hy0 (by omega) (by omega)
    rw [hhi, hlo]
    simpa using h
  rw [← hhi, ← hlo]
  clear hhi hlo
  go_enter Yba.func24, Yba.ntmps24
  go_wp2_with fail
  go_loopw [6, 25] (fun c i wr => (c = .int .u64 0 ∧ i = .int .i64 0 ∧ Hid (Upd [] w wr)) ∨ (c = .int .u64 hi ∧ i = .int .i64 1 ∧ Hid (wr.heap[zg]? = some (.cells (zarr.setIfInBounds 0 (.int .u64 lo)) 104 (0,0)) ∧ Upd [zg] w wr))) (fun _ i _ => 1 - (intOf i).toNat)
  case atStart => exact .inl ⟨rfl, rfl, Upd.refl _ _⟩
  case round =>
    rcases hrel with ⟨rfl, rfl, hU⟩ | ⟨rfl, rfl, hJ⟩
    · go_wp2_with fail
      refine wp_region_lex [0,0,0,1,0,0,0,1,0,2,0,0,0,0,0] (fun w' => Upd [] w w') (by kernel_rfl) (by kernel_rfl) (fun _ _ _ _ _ h => h) (hU.out.drew) ?_
      simp only [List.zip_cons_cons, List.zip_nil_right]
      repeat (first
        | (refine lex0 ?_ rfl ?_ ?_; rotate_left; (focus (intro w'; go_simp; (first | done | with_reducible rfl))); simp only [Act.put, List.setIfInBounds_toArray, List.set_cons_zero, List.set_cons_succ])
        | (refine lex1 ?_ rfl ?_ ?_; rotate_left; (focus (intro w' hSw; replace hSw : Upd [] w w' := hSw; have e1 := hSw.cell hx (by simp); have e2 := hSw.cell hy (by simp); go_simp; (first | done | with_reducible rfl))); simp only [Act.put, List.setIfInBounds_toArray, List.set_cons_zero, List.set_cons_succ]))
      refine lex2 (fun K hK => ?_)
      go_simp
      refine (Hcall _).mono ?_
      rintro e w1 ⟨rfl, hw1⟩
      have hU1 : Upd [] w w1 := by rw [hw1]; exact hU.out.drew
      refine hK _ _ hU1 ?_
      clear hK K
      try simp only [Act.put, List.setIfInBounds_toArray, List.set_cons_zero, List.set_cons_succ]
      repeat (first
        | (refine lex0 ?_ rfl ?_ ?_; rotate_left; (focus (intro w'; go_simp; (first | done | with_reducible rfl))); simp only [Act.put, List.setIfInBounds_toArray, List.set_cons_zero, List.set_cons_succ])
        | (refine lex1 ?_ rfl ?_ ?_; rotate_left; (focus (intro w' hSw; replace hSw : Upd [] w w' := hSw; have e1 := hSw.cell hx (by simp); have e2 := hSw.cell hy (by simp); go_simp; (first | done | with_reducible rfl))); simp only [Act.put, List.setIfInBounds_toArray, List.set_cons_zero, List.set_cons_succ]))
      refine lexE ?_
      have hz1 : w1.heap[zg]? = some (.cells zarr 104 (0,0)) := hU1.keep HZ.out (by simp)
      have c1 : w1.cell? ⟨zg, 0, none⟩ = some (zarr[0]'hzs) := (cell_at hz1 0).trans (Array.getElem?_eq_getElem _)
      have f1 := free_at hz1 0
      generalize zarr[0]'hzs = old at c1
      have H1 : Hid (w1.heap[zg]? = some (.cells zarr 104 (0,0)) ∧ Upd [] w w1) := ⟨hz1, hU1⟩
      clear hz1 hU1 hw1 hx hy Hcall
      go_wp2
      refine ⟨.inr ⟨rfl, rfl, set_at H1.out.1 0 _, Upd.setCell (H1.out.2.mono (by simp)) (.inl (by simp)) _⟩, by simp [intOf]⟩
    · go_wp2
      go_ret
      exact ⟨rfl, hJ.out.1, hJ.out.2⟩

set_option maxRecDepth 100000 in
set_option maxHeartbeats 1000000 in
theorem subVV_one (zg xg yg cz cx cy : Nat) (x y : Int) (zarr : Array Value) (w : World) (hz : w.heap[zg]? = some (.cells zarr 104 (0,0))) (hzs : 0 < zarr.size) (hx : w.cell? ⟨xg, 0, none⟩ = some (.int .u64 x)) (hy : w.cell? ⟨yg, 0, none⟩ = some (.int .u64 y)) (hx0 : 0 ≤ x) (hx1 : x < 18446744073709551616) (hy0 : 0 ≤ y) (hy1 : y < 18446744073709551616) :
    Calls Yba.prog 25 #[.slice (some ⟨zg, 0, none⟩) 1 cz, .slice (some ⟨xg, 0, none⟩) 1 cx, .slice (some ⟨yg, 0, none⟩) 1 cy] w fun e w' => e = .returned (.int .u64 (if x < y then 1 else 0)) ∧ w'.heap[zg]? = some (.cells (zarr.setIfInBounds 0 (.int .u64 ((x - y) % 18446744073709551616))) 104 (0,0)) ∧ Upd [zg] w w' := by
  have HZ : Hid (w.heap[zg]? = some (.cells zarr 104 (0,0))) := hz
  clear hz
  obtain ⟨hi, hhi⟩ : ∃ hi : Int, hi = (if x < y then 1 else 0) := ⟨_, rfl⟩
  obtain ⟨lo, hlo⟩ : ∃ lo : Int, lo = ((x - y) % 18446744073709551616) := ⟨_, rfl⟩
  have Hcall : ∀ w : World, Calls Yba.prog 49 #[.int .u64 x, .int .u64 y, .int .u64 0] w fun e w' => e = .returned (.tuple #[.int .u64 lo, .int .u64 hi]) ∧ w' = w := by
    intro w
    have h := Sub_any x y 0 w hx0 hx1 hy0 hy1 (by omega) (by omega)
    rw [hhi, hlo]
    simpa using h
  rw [← hhi, ← hlo]
  clear hhi hlo
  go_enter Yba.func25, Yba.ntmps25
  go_wp2_with fail
  go_loopw [6, 25] (fun c i wr => (c = .int .u64 0 ∧ i = .int .i64 0 ∧ Hid (Upd [] w wr)) ∨ (c = .int .u64 hi ∧ i = .int .i64 1 ∧ Hid (wr.heap[zg]? = some (.cells (zarr.setIfInBounds 0 (.int .u64 lo)) 104 (0,0)) ∧ Upd [zg] w wr))) (fun _ i _ => 1 - (intOf i).toNat)
  case atStart => exact .inl ⟨rfl, rfl, Upd.refl _ _⟩
  case round =>
    rcases hrel with ⟨rfl, rfl, hU⟩ | ⟨rfl, rfl, hJ⟩
    · go_wp2_with fail
      refine wp_region_lex [0,0,0,1,0,0,0,1,0,2,0,0,0,0,0] (fun w' => Upd [] w w') (by kernel_rfl) (by kernel_rfl) (fun _ _ _ _ _ h => h) (hU.out.drew) ?_
      simp only [List.zip_cons_cons, List.zip_nil_right]
      repeat (first
        | (refine lex0 ?_ rfl ?_ ?_; rotate_left; (focus (intro w'; go_simp; (first | done | with_reducible rfl))); simp only [Act.put, List.setIfInBounds_toArray, List.set_cons_zero, List.set_cons_succ])
        | (refine lex1 ?_ rfl ?_ ?_; rotate_left; (focus (intro w' hSw; replace hSw : Upd [] w w' := hSw; have e1 := hSw.cell hx (by simp); have e2 := hSw.cell hy (by simp); go_simp; (first | done | with_reducible rfl))); simp only [Act.put, List.setIfInBounds_toArray, List.set_cons_zero, List.set_cons_succ]))
      refine lex2 (fun K hK => ?_)
      go_simp
      refine (Hcall _).mono ?_
      rintro e w1 ⟨rfl, hw1⟩
      have hU1 : Upd [] w w1 := by rw [hw1]; exact hU.out.drew
      refine hK _ _ hU1 ?_
      clear hK K
      try simp only [Act.put, List.setIfInBounds_toArray, List.set_cons_zero, List.set_cons_succ]
      repeat (first
        | (refine lex0 ?_ rfl ?_ ?_; rotate_left; (focus (intro w'; go_simp; (first | done | with_reducible rfl))); simp only [Act.put, List.setIfInBounds_toArray, List.set_cons_zero, List.set_cons_succ])
        | (refine lex1 ?_ rfl ?_ ?_; rotate_left; (focus (intro w' hSw; replace hSw : Upd [] w w' := hSw; have e1 := hSw.cell hx (by simp); have e2 := hSw.cell hy (by simp); go_simp; (first | done | with_reducible rfl))); simp only [Act.put, List.setIfInBounds_toArray, List.set_cons_zero, List.set_cons_succ]))
      refine lexE ?_
      have hz1 : w1.heap[zg]? = some (.cells zarr 104 (0,0)) := hU1.keep HZ.out (by simp)
      have c1 : w1.cell? ⟨zg, 0, none⟩ = some (zarr[0]'hzs) := (cell_at hz1 0).trans (Array.getElem?_eq_getElem _)
      have f1 := free_at hz1 0
      generalize zarr[0]'hzs = old at c1
      have H1 : Hid (w1.heap[zg]? = some (.cells zarr 104 (0,0)) ∧ Upd [] w w1) := ⟨hz1, hU1⟩
      clear hz1 hU1 hw1 hx hy Hcall
      go_wp2
      refine ⟨.inr ⟨rfl, rfl, set_at H1.out.1 0 _, Upd.setCell (H1.out.2.mono (by simp)) (.inl (by simp)) _⟩, by simp [intOf]⟩
    · go_wp2
      go_ret
      exact ⟨rfl, hJ.out.1, hJ.out.2⟩

end Go.Proofs.Ybulkcspi
