/-
  WALKS, SECOND PART: slices.Delete of the last Contact.
-/
import Derived.Test.YbulkcsogWa
namespace Go.Proofs.Ybulkcsog
open Go.RowKit Go.Lib
attribute [local go_sem ↓] Go.wp_at_zero Go.wp_at_succ

section
variable {P : Program} {w : World}
/-- 'clear' over one element of four cells. -/
theorem run_clear_four (w : World) (t ty elem : TypeId) (i : TypeInfo) (z0 z1 z2 z3 u0 u1 u2 u3 : Value) (hu : P.underlying t = some (.slice elem)) (hi : P.info? elem = some i) (hz : i.zero = some (.agg #[z0, z1, z2, z3]))
    (b o c : Nat) (hc0 : w.cell? ⟨b, o, none⟩ = some u0) (hc1 : w.cell? ⟨b, o + 1, none⟩ = some u1) (hc2 : w.cell? ⟨b, o + 2, none⟩ = some u2) (hc3 : w.cell? ⟨b, o + 3, none⟩ = some u3)
    (hf : ∀ j, w.frozen? ⟨b, j, none⟩ = false) (h0 : z0.oneCell' = true) (h1 : z1.oneCell' = true) (h2 : z2.oneCell' = true) (h3 : z3.oneCell' = true) :
    (Builtin.clear_ #[t] ty #[.slice (some ⟨b, o, none⟩) 1 c]).run P w = .ok (.tuple #[]) (w.setCells b o [z0, z1, z2, z3]) := by
  have hst := run_storeCells_cells (P := P) b o [z0, z1, z2, z3] 0 w (by intro j hj; match j, hj with | 0, _ => simp [hc0] | 1, _ => simp [hc1] | 2, _ => simp [hc2] | 3, _ => simp [hc3]) (by intro j hj; exact hf _) (by simp [h0, h1, h2, h3])
  have hzc : (Builtin.zeroCells (Value.agg #[z0, z1, z2, z3]).cells 1).toList = [z0, z1, z2, z3] := by simp [Builtin.zeroCells, Value.cells, Array.range]
  simp [Builtin.clear_, run_underlying hu, zeroValue, typeInfo, hi, hz, hzc]
  rw [show (storeCells ⟨b, o, none⟩ [z0, z1, z2, z3]).run P w = .ok () (w.setCells b o [z0, z1, z2, z3]) from by simpa using hst]
  rfl
end

set_option maxRecDepth 100000 in
set_option maxHeartbeats 1000000 in
theorem delete_last (rb q c : Nat) (w : World) (arr : Array Value) (hl : w.heap[rb]? = some (.cells arr 49 (0,0))) (hs : q * 4 + 4 ≤ arr.size) (hc : q + 1 ≤ c) (hq : q ≤ 100000) :
    Calls Yba.prog 43 #[.slice (some ⟨rb, 0, none⟩) (q + 1) c, .int .i64 q, .int .i64 ((q : Int) + 1)] w
      fun e w' => e = .returned (.slice (some ⟨rb, 0, none⟩) q c) ∧ (∃ arr', w'.heap[rb]? = some (.cells arr' 49 (0,0)) ∧ arr'.size = arr.size ∧ ∀ j, j < q * 4 → arr'[j]? = arr[j]?) ∧ Upd [rb] w w' := by
  obtain ⟨i0, hi, hz0, hz1, hz2⟩ := info_parts Yba.info49
  have l0 : w.cell? ⟨rb, q * 4, none⟩ = some (arr[q * 4]'(by omega)) := (cell_at hl _).trans (Array.getElem?_eq_getElem _)
  have l1 : w.cell? ⟨rb, q * 4 + 1, none⟩ = some (arr[q * 4 + 1]'(by omega)) := (cell_at hl _).trans (Array.getElem?_eq_getElem _)
  have l2 : w.cell? ⟨rb, q * 4 + 2, none⟩ = some (arr[q * 4 + 2]'(by omega)) := (cell_at hl _).trans (Array.getElem?_eq_getElem _)
  have l3 : w.cell? ⟨rb, q * 4 + 3, none⟩ = some (arr[q * 4 + 3]'(by omega)) := (cell_at hl _).trans (Array.getElem?_eq_getElem _)
  have fr : ∀ j, w.frozen? ⟨rb, j, none⟩ = false := fun j => free_at hl j
  have Hl : Hid (w.heap[rb]? = some (.cells arr 49 (0,0))) := hl
  generalize arr[q * 4]'(by omega) = v0 at l0
  generalize arr[q * 4 + 1]'(by omega) = v1 at l1
  generalize arr[q * 4 + 2]'(by omega) = v2 at l2
  generalize arr[q * 4 + 3]'(by omega) = v3 at l3
  clear hl
  have hcI : (q : Int) + 1 ≤ (c : Int) := by omega
  have hqc : q ≤ c := by omega
  have hq0 : (0 : Int) ≤ (q : Int) + 1 := by omega
  obtain ⟨A, hA⟩ : ∃ A, (if c = q + 1 then some (⟨rb, 0, none⟩ : Addr) else some ⟨rb, (q + 1) * 4, none⟩) = A := ⟨_, rfl⟩
  have hclr : (Builtin.clear_ #[67] 0 #[.slice (some ⟨rb, q * 4, none⟩) 1 (c - q)]).run Yba.prog w.drew = .ok (.tuple #[]) (w.drew.setCells rb (q * 4) [.string ⟨#[]⟩, .int .u64 0, .int .u8 0, .int .u64 0]) :=
    run_clear_four w.drew 67 0 49 i0 _ _ _ _ v0 v1 v2 v3 Yba.underlying67 hi hz0 rb (q * 4) (c - q) l0 l1 l2 l3 fr rfl rfl rfl rfl
  go_enter Yba.func43, Yba.ntmps43
  go_wp2_with fail
  go_region_law (refine step_append_zero (by rfl) (.tmp 22) (.tmp 25) _ (by rfl) 49 i0 Yba.underlying67 hi ⟨rb, 0, none⟩ _ q c _ (by rfl) (by rfl) (by omega) ?_)
  all_goals
    go_wp2
    go_ret
    have h1 : w.drew.heap[rb]? = some (.cells arr 49 (0,0)) := Hl.out
    have h2 := set_at (set_at (set_at (set_at h1 (q * 4) (.string ⟨#[]⟩)) (q * 4 + 1) (.int .u64 0)) (q * 4 + 1 + 1) (.int .u8 0)) (q * 4 + 1 + 1 + 1) (.int .u64 0)
    refine ⟨rfl, ⟨_, h2, by simp, ?_⟩, (Upd.refl _ w).drew.transTo (upd_setCells _ rb _ _) (fun i hi => .inl hi)⟩
    intro j hj
    rw [Array.getElem?_setIfInBounds, if_neg (by omega), Array.getElem?_setIfInBounds, if_neg (by omega), Array.getElem?_setIfInBounds, if_neg (by omega), Array.getElem?_setIfInBounds, if_neg (by omega)]

end Go.Proofs.Ybulkcsog
