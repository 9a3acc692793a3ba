/-
  SMALL LAWS FOR A STEP OF A REGION THAT DRAWS: a copy of nothing, an append of nothing, a clear of one pair of cells.
-/
import Derived.Test.YbulkcspiMem
import Derived.Deep.RegionLaw
namespace Go.Proofs.Ybulkcspi
open Go.RowKit

section
variable {P : Program} {w : World}

theorem run_copy_zero (w : World) (dT sT ty elem : TypeId) (i : TypeInfo) (hu : P.underlying dT = some (.slice elem)) (hi : P.info? elem = some i)
    (d a : Option Addr) (dLen dCap sLen sCap : Nat) (hn : Nat.min sLen dLen = 0) :
    (Builtin.copy_ #[dT, sT] ty #[.slice d dLen dCap, .slice a sLen sCap]).run P w = .ok (goInt 0) w := by
  have hl : ∀ (x : Addr), (loadCells x 0).run P w = .ok #[] w := fun x => by simpa using run_loadCells_list (P := P) w x [] (by simp)
  cases d <;> cases a <;> simp [Builtin.copy_, run_underlying hu, Builtin.lenOf, Builtin.firstCells, sizeOf, typeInfo, hi, hn, storeCells, hl]

theorem run_append_zero (w : World) (t ty elem : TypeId) (i : TypeInfo) (hu : P.underlying t = some (.slice elem)) (hi : P.info? elem = some i)
    (d : Addr) (a : Option Addr) (n c sCap : Nat) (hn : n ≤ c) :
    (Builtin.append_ #[t, t] ty #[.slice (some d) n c, .slice a 0 sCap]).run P w = .ok (.slice (some d) n c) w := by
  have hl : ∀ (x : Addr), (loadCells x 0).run P w = .ok #[] w := fun x => by simpa using run_loadCells_list (P := P) w x [] (by simp)
  cases a <;> simp [Builtin.append_, run_underlying hu, Builtin.lenOf, Builtin.firstCells, sizeOf, typeInfo, hi, hn, storeCells, hl]

variable {ops : Array Oper} {o : Oper} {a : Act} {K : Act → World → Prop} {Q : Exit → Act → World → Prop} {E : Prop}

theorem step_copy_zero (hg : o.guard = none) (s x : Operand) (t u : TypeId) (hop : o.op = Op.call { callee := Callee.builtin Builtin.copy, args := #[s, x], argTypes := #[t, u] })
    (e : TypeId) (i : TypeInfo) (h1 : P.underlying t = some (.slice e)) (h2 : P.info? e = some i) (d b : Option Addr) (dLen dCap sLen sCap : Nat)
    (hs : a.eval s = .slice d dLen dCap) (hx : a.eval x = .slice b sLen sCap) (hn : Nat.min sLen dLen = 0) (hK : K (a.put o.dst (goInt 0)) w) :
    if Region.wanted o (yielded ops a.tmps) = true then Oper.wp P o a w K Q else E := by
  have hw : Region.wanted o (yielded ops a.tmps) = true := by simp [Region.wanted, hg]
  rw [if_pos hw]
  have hrun := run_copy_zero (P := P) w t u o.type e i h1 h2 d b dLen dCap sLen sCap hn
  unfold Oper.wp
  simp [execOp, hop, resolve, invoke, builtin, hs, hx, hrun, Result.andThen]
  exact hK

theorem step_append_zero (hg : o.guard = none) (s x : Operand) (t : TypeId) (hop : o.op = Op.call { callee := Callee.builtin Builtin.append, args := #[s, x], argTypes := #[t, t] })
    (e : TypeId) (i : TypeInfo) (h1 : P.underlying t = some (.slice e)) (h2 : P.info? e = some i) (d : Addr) (b : Option Addr) (n c sCap : Nat)
    (hs : a.eval s = .slice (some d) n c) (hx : a.eval x = .slice b 0 sCap) (hn : n ≤ c) (hK : K (a.put o.dst (.slice (some d) n c)) w) :
    if Region.wanted o (yielded ops a.tmps) = true then Oper.wp P o a w K Q else E := by
  have hw : Region.wanted o (yielded ops a.tmps) = true := by simp [Region.wanted, hg]
  rw [if_pos hw]
  have hrun := run_append_zero (P := P) w t o.type e i h1 h2 d b n c sCap hn
  unfold Oper.wp
  simp [execOp, hop, resolve, invoke, builtin, hs, hx, hrun, Result.andThen]
  exact hK

/-- 'clear' over one element of two cells. -/
theorem run_clear_two (w : World) (t ty elem : TypeId) (i : TypeInfo) (z0 z1 u0 u1 : Value) (hu : P.underlying t = some (.slice elem)) (hi : P.info? elem = some i) (hz : i.zero = some (.agg #[z0, z1]))
    (b c : Nat) (hc0 : w.cell? ⟨b, 0, none⟩ = some u0) (hc1 : w.cell? ⟨b, 1, none⟩ = some u1) (hf0 : w.frozen? ⟨b, 0, none⟩ = false) (hf1 : w.frozen? ⟨b, 1, none⟩ = false) (h0 : z0.oneCell' = true) (h1 : z1.oneCell' = true) :
    (Builtin.clear_ #[t] ty #[.slice (some ⟨b, 0, none⟩) 1 c]).run P w = .ok (.tuple #[]) (w.setCells b 0 [z0, z1]) := by
  have hst := run_storeCells_cells (P := P) b 0 [z0, z1] 0 w (by intro j hj; match j, hj with | 0, _ => simp [hc0] | 1, _ => simp [hc1]) (by intro j hj; match j, hj with | 0, _ => simpa using hf0 | 1, _ => simpa using hf1) (by simp [h0, h1])
  have hzc : (Builtin.zeroCells (Value.agg #[z0, z1]).cells 1).toList = [z0, z1] := by simp [Builtin.zeroCells, Value.cells, Array.range]
  simp [Builtin.clear_, run_underlying hu, zeroValue, typeInfo, hi, hz, hzc]
  rw [show (storeCells ⟨b, 0, none⟩ [z0, z1]).run P w = .ok () (w.setCells b 0 [z0, z1]) from by simpa using hst]
  rfl

theorem step_clear_two (hg : o.guard = none) (s : Operand) (t : TypeId) (hop : o.op = Op.call { callee := Callee.builtin Builtin.clear, args := #[s], argTypes := #[t] })
    (elem : TypeId) (i : TypeInfo) (z0 z1 u0 u1 : Value) (hu : P.underlying t = some (.slice elem)) (hi : P.info? elem = some i) (hz : i.zero = some (.agg #[z0, z1]))
    (b c : Nat) (hs : a.eval s = .slice (some ⟨b, 0, none⟩) 1 c) (hc0 : w.cell? ⟨b, 0, none⟩ = some u0) (hc1 : w.cell? ⟨b, 1, none⟩ = some u1) (hf0 : w.frozen? ⟨b, 0, none⟩ = false) (hf1 : w.frozen? ⟨b, 1, none⟩ = false) (h0 : z0.oneCell' = true) (h1 : z1.oneCell' = true)
    (hK : K (a.put o.dst (.tuple #[])) (w.setCells b 0 [z0, z1])) :
    if Region.wanted o (yielded ops a.tmps) = true then Oper.wp P o a w K Q else E := by
  have hw : Region.wanted o (yielded ops a.tmps) = true := by simp [Region.wanted, hg]
  rw [if_pos hw]
  have hrun := run_clear_two (P := P) w t o.type elem i z0 z1 u0 u1 hu hi hz b c hc0 hc1 hf0 hf1 h0 h1
  unfold Oper.wp
  simp [execOp, hop, resolve, invoke, builtin, hs, hrun, Result.andThen]
  exact hK
end

theorem upd_setCells (w : World) (b o : Nat) (vs : List Value) : Upd [b] w (w.setCells b o vs) := by
  induction vs generalizing w o with
  | nil => exact Upd.refl _ _
  | cons v vs ih => exact Upd.transTo (Upd.setCell (Upd.refl [b] w) (.inl (by simp)) v) (ih _ _) (by intro i hi; exact .inl hi)

end Go.Proofs.Ybulkcspi
