/-
  'append(b, s...)' OF A STRING's BYTES, AND WHERE THE NEW SLICE LIES.
-/
import Derived.Test.YbulkcskmFmtMem
import Derived.Lib.AppendStr
namespace Go.Proofs.YbulkcskmFmt
open Go.RowKit Go.Lib

section
variable {P : Program} (w : World)

theorem run_append_str_lies (base : Nat) (t u ty e : TypeId) (i : TypeInfo) (ht : P.underlying t = some (.slice e)) (hu : P.underlying u = some .string) (hi : P.info? e = some i) (hz : i.zero = some (.int .u8 0))
    (hsize : i.size = 1) (hby : i.bytes = 1) (v : Value) (n : Nat) (xs : List Value) (hown : w.ownsRow base e 1 v n xs) (s : ByteArray) (hs0 : 0 < s.size)
    (hbytes : n + s.size ≤ 140737488355328) (hbase : base ≤ w.heap.size) :
    ∃ g cap w', (Builtin.append_ #[t, u] ty #[v, .string s]).run P w = .ok (.slice (some ⟨g, 0, none⟩) (n + s.size) cap) w' ∧ w'.ownsRow base e 1 (.slice (some ⟨g, 0, none⟩) (n + s.size) cap) (n + s.size) (xs ++ strCells s) ∧ w.grownBy w' v.ownBlock ∧
      (v.ownBlock = some g ∨ g = w.heap.size) := by
  obtain ⟨v', w', hr, h2, h3, h4⟩ := run_append_own_string (P := P) w base t u ty e i ht hu hi hz hsize hby v n xs hown s (by unfold maxLen; omega) hbytes hbase
  obtain ⟨g', cap', hv', _, _⟩ := h2.form (by omega)
  subst hv'
  refine ⟨g', cap', w', hr, h2, h3, ?_⟩
  rcases hown.2 with ⟨rfl, rfl⟩ | ⟨g, cap, cur, rfl, hbg, hg, hnc, hcm, hcs, htake⟩
  · have hr2 := run_append_nil_string (P := P) w t u ty e i (.int .u8 0) ht hu hi hz s hs0 (by omega) (by rw [hby]; omega)
    rw [hr] at hr2
    simp only [Result.ok.injEq, Value.slice.injEq, Option.some.injEq, Addr.mk.injEq] at hr2
    exact .inr hr2.1.1.1
  · by_cases hroom : n + s.size ≤ cap
    · have hr2 := run_append_room_string (P := P) w t u ty e i ht hu hi hsize g n cap cur hg s hroom (by simp at hcs; omega)
      rw [hr] at hr2
      simp only [Result.ok.injEq, Value.slice.injEq, Option.some.injEq, Addr.mk.injEq] at hr2
      exact .inl (by simp [Value.ownBlock, hr2.1.1.1])
    · have holds : ∀ j u, xs[j]? = some u → w.cell? ((⟨g, 0, none⟩ : Addr).add j) = some u := hown.cells (g := g) rfl
      have hr2 := run_append_grow_string (P := P) w t u ty e i (.int .u8 0) ht hu hi hz ⟨g, 0, none⟩ n cap xs (by rw [hsize]; exact hown.1) holds s (by omega) (by omega) (by rw [hby]; exact growslice_fits (by omega) (by omega))
      rw [hr] at hr2
      simp only [Result.ok.injEq, Value.slice.injEq, Option.some.injEq, Addr.mk.injEq] at hr2
      exact .inr hr2.1.1.1

theorem wpList_append_str_lies {ops : Array Oper} {rest : List Oper} {o : Oper} {a : Act} {Q : Exit → Act → World → Prop} (hgd : o.guard = none) (sl x : Operand) (t u : TypeId)
    (ho : o.op = .call { callee := .builtin .append, args := #[sl, x], argTypes := #[t, u] })
    (base : Nat) (e : TypeId) (i : TypeInfo) (ht : P.underlying t = some (.slice e)) (hu : P.underlying u = some .string) (hi : P.info? e = some i) (hz : i.zero = some (.int .u8 0))
    (hsize : i.size = 1) (hby : i.bytes = 1)
    (v : Value) (n : Nat) (xs : List Value) (hs : a.eval sl = v) (hown : w.ownsRow base e 1 v n xs) (s : ByteArray) (hx : a.eval x = .string s) (hs0 : 0 < s.size)
    (hbytes : n + s.size ≤ 140737488355328) (hbase : base ≤ w.heap.size)
    (h : ∀ g cap w', w'.ownsRow base e 1 (.slice (some ⟨g, 0, none⟩) (n + s.size) cap) (n + s.size) (xs ++ strCells s) → w.grownBy w' v.ownBlock → (v.ownBlock = some g ∨ g = w.heap.size) → wpList P ops Q rest (a.put o.dst (.slice (some ⟨g, 0, none⟩) (n + s.size) cap)) w') : wpList P ops Q (o :: rest) a w := by
  refine wpList_plain hgd fun K hK => ?_
  obtain ⟨g, cap, w', hr, h2, h3, h4⟩ := run_append_str_lies (P := P) w base t u o.type e i ht hu hi hz hsize hby v n xs hown s hs0 hbytes hbase
  unfold Oper.wp execOp
  simp only [ho, resolve, invoke, builtin, Sem.run_bind, Sem.run_pure, Result.andThen_ok, List.map_toArray, List.map_cons, List.map_nil, hs, hx, hr]
  exact hK _ _ (h g cap w' h2 h3 h4)
end

end Go.Proofs.YbulkcskmFmt
