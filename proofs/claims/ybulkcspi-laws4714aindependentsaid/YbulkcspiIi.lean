/-
  INDEPENDENT, NINTH PART: Lsh 14 by 3, Cmp 15 of equals.
-/
import Derived.Test.YbulkcspiIh
namespace Go.Proofs.Ybulkcspi
open Go.RowKit Go.Lib
attribute [local go_sem ↓] Go.wp_at_zero Go.wp_at_succ

/-- The number of words behind the shift. -/
def shlM (X : Nat → Int) (m : Nat) : Nat := topOf (lshZ X m) (if m = 0 then 0 else m + 1)
def Wd0 (B : Nat) (w : World) (ib : Nat) (neg : Bool) (v : Value) (m : Nat) (X : Nat → Int) : Prop := w.heap[ib]? = some (.cells #[.bool neg, v] 39 (0,0)) ∧ w.ownsRow B 104 1 v m (vals X m)
/-- What Lsh answers. -/
def LshAns (B : Nat) (ib : Nat) (neg : Bool) (v : Value) (m' : Nat) (Z : Nat → Int) (w : World) (e : Ending) (w' : World) : Prop :=
  e = .returned (.pointer (some ⟨ib, 0, none⟩)) ∧ ∃ v', Wd0 B w' ib neg v' m' Z ∧ Upd (ib :: v.ownBlock.toList) w w' ∧ ∀ g', v'.ownBlock = some g' → g' ∈ v.ownBlock.toList ∨ w.heap.size ≤ g'

theorem nat_shl (B m : Nat) (v : Value) (X : Nat → Int) (w : World) (hm : m ≤ 501) (ho : w.ownsRow B 104 1 v m (vals X m)) (hW : Wrds X m) (hB : B ≤ w.heap.size) :
    Calls Yba.prog 34 #[v, v, .int .u64 3] w fun e w' => NatAnsS B v.ownBlock.toList (if m = 0 then 0 else m + 1) (lshZ X m) w e w' := by
  obtain ⟨a, c, rfl, _⟩ := owns_slice ho
  by_cases hm0 : m = 0
  · subst hm0
    exact natlsh_zero B c a X w (by simpa [vals] using ho)
  · obtain ⟨g, cap, hv, _, _⟩ := ho.form (by omega)
    simp only [Value.slice.injEq, true_and] at hv
    obtain ⟨rfl, rfl⟩ := hv
    obtain ⟨k, rfl⟩ : ∃ k, m = k + 1 := ⟨m - 1, by omega⟩
    rw [if_neg hm0]
    exact natlsh_any B g k c X w (by omega) hW ho hB

set_option maxRecDepth 100000 in
set_option maxHeartbeats 1000000 in
theorem IntLsh_any (B ib m : Nat) (neg : Bool) (v : Value) (X : Nat → Int) (w : World) (hm : m ≤ 501) (hI : Wds B w ib neg v m X) (hB : B ≤ w.heap.size) :
    Calls Yba.prog 14 #[.pointer (some ⟨ib, 0, none⟩), .pointer (some ⟨ib, 0, none⟩), .int .u64 3] w fun e w' => LshAns B ib neg v (shlM X m) (lshZ X m) w e w' := by
  obtain ⟨i1, i2, i3, i4, i5⟩ := hI
  have c0 : w.cell? ⟨ib, 0, none⟩ = some (.bool neg) := cell_at i1 0
  have c1 : w.cell? ⟨ib, 1, none⟩ = some v := cell_at i1 1
  have hib : ib ∉ v.ownBlock.toList := by simpa using owns_ne i2 i1 (by decide)
  have HW : Hid (w.heap[ib]? = some (.cells #[.bool neg, v] 39 (0,0))) := i1
  have Hcall : ∀ w2 : World, w2.heap = w.heap → Calls Yba.prog 34 #[v, v, .int .u64 3] w2 fun e w' => NatAnsS B v.ownBlock.toList (if m = 0 then 0 else m + 1) (lshZ X m) w2 e w' := by
    intro w2 hw2
    refine nat_shl B m v X w2 hm ?_ i3 (by rw [hw2]; exact hB)
    have h := i2
    unfold World.ownsRow at h ⊢
    rw [hw2]
    exact h
  obtain ⟨n, hn⟩ : ∃ n, (if m = 0 then 0 else m + 1) = n := ⟨_, rfl⟩
  rw [hn] at Hcall
  have HNN : Hid ((if m = 0 then 0 else m + 1) = n) := hn
  clear i1 i2 i3 i4 i5 hn
  go_enter Yba.func14, Yba.ntmps14
  go_wp2_with fail
  refine wp_region_lex [0,0,0,0,1,0,0,0,1,0,2,4,4,3] (fun w' => Upd v.ownBlock.toList w w') (by kernel_rfl) (by kernel_rfl) (fun _ _ _ _ _ h => h) ((Upd.refl _ w).drew) ?_
  simp only [List.zip_cons_cons, List.zip_nil_right]
  repeat (first
    | (refine lex0 ?_ rfl ?_ ?_; rotate_left; (focus (intro w'; go_simp; (first | done | with_reducible rfl))); simp only [Act.put, List.setIfInBounds_toArray, List.set_cons_zero, List.set_cons_succ])
    | (refine lex1 ?_ rfl ?_ ?_; rotate_left; (focus (intro w' hSw; replace hSw : Upd v.ownBlock.toList w w' := hSw; have e1 := hSw.cell c1 hib; go_simp; (first | done | with_reducible rfl))); simp only [Act.put, List.setIfInBounds_toArray, List.set_cons_zero, List.set_cons_succ]))
  refine lex2 (fun K hK => ?_)
  go_simp
  refine Calls.mono (Hcall _ ?_) ?_
  · rfl
  rintro e w1 ⟨v', rfl, ho', hu', hg'⟩
  have hU : Upd v.ownBlock.toList w w1 := ((Upd.refl v.ownBlock.toList w).drew).transTo hu' (fun i hi => .inl hi)
  refine hK _ _ hU ?_
  clear hK K
  have hi1 : w1.heap[ib]? = some (.cells #[.bool neg, v] 39 (0,0)) := hU.keep HW.out hib
  have d1 : w1.cell? ⟨ib, 1, none⟩ = some v := cell_at hi1 1
  have f1 := free_at hi1 1
  obtain ⟨T, hT⟩ : ∃ T, topOf (lshZ X m) n = T := ⟨_, rfl⟩
  rw [hT] at ho'
  have HT : Hid (topOf (lshZ X m) n = T) := hT
  clear hT
  obtain ⟨ua, uc, rfl, _⟩ := owns_slice ho'
  have HN : Hid (w1.heap[ib]? = some (.cells #[.bool neg, v] 39 (0,0)) ∧ w1.ownsRow B 104 1 (.slice ua T uc) T (vals (lshZ X m) T) ∧ Upd v.ownBlock.toList w w1 ∧ (∀ g', (Value.slice ua T uc).ownBlock = some g' → g' ∈ v.ownBlock.toList ∨ w.heap.size ≤ g')) := ⟨hi1, ho', hU, hg'⟩
  clear hi1 ho' hU hg' hu' Hcall
  try simp only [Act.put, List.setIfInBounds_toArray, List.set_cons_zero, List.set_cons_succ]
  repeat (refine lex4 ?_ rfl ?_ ?_; rotate_left; (focus (intro w'; go_simp; (first | done | with_reducible rfl))); simp only [Act.put, List.setIfInBounds_toArray, List.set_cons_zero, List.set_cons_succ])
  refine lex3 (fun K hK => ?_)
  go_simp
  refine hK _ _ ?_
  clear hK K
  try simp only [Act.put, List.setIfInBounds_toArray, List.set_cons_zero, List.set_cons_succ]
  refine lexE ?_
  have hi2 := set_at HN.out.1 1 (.slice ua T uc)
  have d3 : (w1.setCell ⟨ib, 1, none⟩ (.slice ua T uc)).cell? ⟨ib, 0, none⟩ = some (.bool neg) := (cell_at hi2 0).trans (by simp)
  have f2 := free_at hi2 0
  have HFIN : Hid (LshAns B ib neg v T (lshZ X m) w (.returned (.pointer (some ⟨ib, 0, none⟩))) ((w1.setCell ⟨ib, 1, none⟩ (.slice ua T uc)).setCell ⟨ib, 0, none⟩ (.bool neg))) := by
    have hnb := owns_ne HN.out.2.1 HN.out.1 (by decide)
    refine ⟨rfl, .slice ua T uc, ⟨?_, owns_set (owns_set HN.out.2.1 hnb _) hnb _⟩, ?_, HN.out.2.2.2⟩
    · have := set_at hi2 0 (.bool neg)
      simpa using this
    · exact Upd.setCell (Upd.setCell (HN.out.2.2.1.mono (fun i hi => List.mem_cons_of_mem _ hi)) (.inl (by simp)) _) (.inl (by simp)) _
  have ES : Hid (shlM X m = T) := by
    show shlM X m = T
    unfold shlM
    rw [HNN.out]
    exact HT.out
  clear hi2
  go_wp2
  go_ret
  rw [ES.out]
  exact HFIN.out

set_option maxRecDepth 100000 in
set_option maxHeartbeats 1000000 in
theorem IntCmp_same (B B' rb yb m : Nat) (neg : Bool) (v v' : Value) (X : Nat → Int) (w : World) (hm : m ≤ 600) (hne : rb ≠ yb) (hr : Wd0 B w rb neg v m X) (hy : Wd0 B' w yb neg v' m X) :
    Calls Yba.prog 15 #[.pointer (some ⟨rb, 0, none⟩), .pointer (some ⟨yb, 0, none⟩)] w fun e w' => e = .returned (.int .i64 0) ∧ Upd [] w w' := by
  obtain ⟨r1, r2⟩ := hr
  obtain ⟨y1, y2⟩ := hy
  have hq := (neq_int_other w hne r1 y1).2
  have c0 : w.cell? ⟨rb, 0, none⟩ = some (.bool neg) := cell_at r1 0
  have c1 : w.cell? ⟨rb, 1, none⟩ = some v := cell_at r1 1
  have c2 : w.cell? ⟨yb, 0, none⟩ = some (.bool neg) := cell_at y1 0
  have c3 : w.cell? ⟨yb, 1, none⟩ = some v' := cell_at y1 1
  have Hcall : ∀ w2 : World, Upd [] w w2 → Calls Yba.prog 32 #[v, v'] w2 fun e w' => e = .returned (.int .i64 0) ∧ Upd [] w2 w' := by
    intro w2 hw2
    exact natcmp_same B B' m v v' X w2 hm (hw2.owns r2 (by simp)) (hw2.owns y2 (by simp))
  clear r1 r2 y1 y2
  cases neg
  · go_enter Yba.func15, Yba.ntmps15
    go_wp2_with (go_quiet (fail))
    refine wp_region_lex [0,0,0,1,0,0,0,1,2,0] (fun w' => Upd [] w w') (by kernel_rfl) (by kernel_rfl) (fun _ _ _ _ _ h => h) (((Upd.refl _ w).drewN _).drew) ?_
    simp only [List.zip_cons_cons, List.zip_nil_right]
    repeat (first
      | (refine lex0 ?_ rfl ?_ ?_; rotate_left; (focus (intro w'; go_simp; (first | done | with_reducible rfl))); simp only [Act.put, List.setIfInBounds_toArray, List.set_cons_zero, List.set_cons_succ])
      | (refine lex1 ?_ rfl ?_ ?_; rotate_left; (focus (intro w' hSw; replace hSw : Upd [] w w' := hSw; have e1 := hSw.cell c1 (by simp); have e2 := hSw.cell c3 (by simp); go_simp; (first | done | with_reducible rfl))); simp only [Act.put, List.setIfInBounds_toArray, List.set_cons_zero, List.set_cons_succ]))
    refine lex2 (fun K hK => ?_)
    go_simp
    refine Calls.mono (Hcall _ ?_) ?_
    · exact ((Upd.refl _ w).drewN _).drew
    rintro e w1 ⟨rfl, hu1⟩
    have hU1 : Upd [] w w1 := (((Upd.refl [] w).drewN _).drew).transTo hu1 (by simp)
    refine hK _ _ hU1 ?_
    clear hK K Hcall
    try simp only [Act.put, List.setIfInBounds_toArray, List.set_cons_zero, List.set_cons_succ]
    repeat (first
      | (refine lex0 ?_ rfl ?_ ?_; rotate_left; (focus (intro w'; go_simp; (first | done | with_reducible rfl))); simp only [Act.put, List.setIfInBounds_toArray, List.set_cons_zero, List.set_cons_succ])
      | (refine lex1 ?_ rfl ?_ ?_; rotate_left; (focus (intro w' hSw; replace hSw : Upd [] w w' := hSw; have e1 := hSw.cell c1 (by simp); have e2 := hSw.cell c3 (by simp); go_simp; (first | done | with_reducible rfl))); simp only [Act.put, List.setIfInBounds_toArray, List.set_cons_zero, List.set_cons_succ]))
    refine lexE ?_
    have d0 := hU1.cell c0 (by simp)
    have HU : Hid (Upd [] w w1) := hU1
    clear hU1 hu1
    go_wp2
    go_ret
    exact ⟨rfl, HU.out⟩
  · go_enter Yba.func15, Yba.ntmps15
    go_wp2_with (go_quiet (fail))
    refine wp_region_lex [0,0,0,1,0,0,0,1,2,0] (fun w' => Upd [] w w') (by kernel_rfl) (by kernel_rfl) (fun _ _ _ _ _ h => h) (((Upd.refl _ w).drewN _).drew) ?_
    simp only [List.zip_cons_cons, List.zip_nil_right]
    repeat (first
      | (refine lex0 ?_ rfl ?_ ?_; rotate_left; (focus (intro w'; go_simp; (first | done | with_reducible rfl))); simp only [Act.put, List.setIfInBounds_toArray, List.set_cons_zero, List.set_cons_succ])
      | (refine lex1 ?_ rfl ?_ ?_; rotate_left; (focus (intro w' hSw; replace hSw : Upd [] w w' := hSw; have e1 := hSw.cell c1 (by simp); have e2 := hSw.cell c3 (by simp); go_simp; (first | done | with_reducible rfl))); simp only [Act.put, List.setIfInBounds_toArray, List.set_cons_zero, List.set_cons_succ]))
    refine lex2 (fun K hK => ?_)
    go_simp
    refine Calls.mono (Hcall _ ?_) ?_
    · exact ((Upd.refl _ w).drewN _).drew
    rintro e w1 ⟨rfl, hu1⟩
    have hU1 : Upd [] w w1 := (((Upd.refl [] w).drewN _).drew).transTo hu1 (by simp)
    refine hK _ _ hU1 ?_
    clear hK K Hcall
    try simp only [Act.put, List.setIfInBounds_toArray, List.set_cons_zero, List.set_cons_succ]
    repeat (first
      | (refine lex0 ?_ rfl ?_ ?_; rotate_left; (focus (intro w'; go_simp; (first | done | with_reducible rfl))); simp only [Act.put, List.setIfInBounds_toArray, List.set_cons_zero, List.set_cons_succ])
      | (refine lex1 ?_ rfl ?_ ?_; rotate_left; (focus (intro w' hSw; replace hSw : Upd [] w w' := hSw; have e1 := hSw.cell c1 (by simp); have e2 := hSw.cell c3 (by simp); go_simp; (first | done | with_reducible rfl))); simp only [Act.put, List.setIfInBounds_toArray, List.set_cons_zero, List.set_cons_succ]))
    refine lexE ?_
    have d0 := hU1.cell c0 (by simp)
    have HU : Hid (Upd [] w w1) := hU1
    clear hU1 hu1
    go_wp2
    go_ret
    exact ⟨rfl, HU.out⟩

end Go.Proofs.Ybulkcspi
