/-
  INDEPENDENT, EIGHTH PART: Add 13 of 1.
-/
import Derived.Test.YbulkcspiIg
namespace Go.Proofs.Ybulkcspi
open Go.RowKit Go.Lib
attribute [local go_sem ↓] Go.wp_at_zero Go.wp_at_succ

/-- A big.Int by its words. -/
def Wds (B : Nat) (w : World) (ib : Nat) (neg : Bool) (v : Value) (m : Nat) (X : Nat → Int) : Prop :=
  w.heap[ib]? = some (.cells #[.bool neg, v] 39 (0,0)) ∧ w.ownsRow B 104 1 v m (vals X m) ∧ Wrds X m ∧ (m = 0 ∨ X (m - 1) ≠ 0) ∧ (neg = true → 1 ≤ m)
/-- big.NewInt(1). -/
def IsOne (w : World) (ob yg : Nat) : Prop := w.heap[ob]? = some (.cells #[.bool false, .slice (some ⟨yg, 0, none⟩) 1 1] 39 (0,0)) ∧ w.heap[yg]? = some (.cells #[.int .u64 1] 104 (0,0))
/-- The words, their number behind the sum with 1. -/
def plusZ (neg : Bool) (X : Nat → Int) (m : Nat) : Nat → Int := match neg with | true => subZ X | false => addZ X m
def plusM (neg : Bool) (X : Nat → Int) (m : Nat) : Nat := match neg with | true => topOf (subZ X) m | false => topOf (addZ X m) (m + 1)
/-- What Add and Lsh answer. -/
def IntAns (B : Nat) (ib : Nat) (neg' : Bool) (v : Value) (m' : Nat) (Z : Nat → Int) (w : World) (e : Ending) (w' : World) : Prop :=
  e = .returned (.pointer (some ⟨ib, 0, none⟩)) ∧ ∃ v', Wds B w' ib neg' v' m' Z ∧ Upd (ib :: v.ownBlock.toList) w w' ∧ ∀ g', v'.ownBlock = some g' → g' ∈ v.ownBlock.toList ∨ w.heap.size ≤ g'

theorem one_owns {w : World} {ob yg : Nat} (h : IsOne w ob yg) : w.ownsRow 0 104 1 (.slice (some ⟨yg, 0, none⟩) 1 1) 1 [.int .u64 1] :=
  ⟨by simp, .inr ⟨yg, 1, _, rfl, Nat.zero_le _, h.2, Nat.le_refl _, by unfold maxLen; omega, by simp, by simp⟩⟩

/-- nat.add of 1, whatever the number. -/
theorem nat_plus (B m : Nat) (v : Value) (X : Nat → Int) (w : World) (ob yg : Nat) (hm : m ≤ 500) (ho : w.ownsRow B 104 1 v m (vals X m)) (hW : Wrds X m) (hR : Roomy v m) (h1 : IsOne w ob yg) (hne : v.ownBlock ≠ some yg) (hB : B ≤ w.heap.size) :
    Calls Yba.prog 31 #[v, v, .slice (some ⟨yg, 0, none⟩) 1 1] w fun e w' => NatAnsS B v.ownBlock.toList (m + 1) (addZ X m) w e w' := by
  obtain ⟨a, c, rfl, _⟩ := owns_slice ho
  by_cases hm0 : m = 0
  · subst hm0
    exact natadd_zero B yg 1 a c X w (by simpa [vals] using ho) h1.2 (one_owns h1) hB
  · obtain ⟨g, cap, hv, _, _⟩ := ho.form (by omega)
    simp only [Value.slice.injEq, true_and] at hv
    obtain ⟨rfl, rfl⟩ := hv
    refine (natadd_any B g m c yg 1 X w (by omega) hm hW ho (hR _ _ _ rfl) h1.2 (fun e => hne (by simp [Value.ownBlock, e])) (Nat.le_refl _) hB).mono ?_
    intro e w' h
    exact h.toS
theorem nat_minus (B m : Nat) (v : Value) (X : Nat → Int) (w : World) (ob yg : Nat) (hm1 : 1 ≤ m) (hm : m ≤ 500) (ho : w.ownsRow B 104 1 v m (vals X m)) (hW : Wrds X m) (hT : m = 0 ∨ X (m - 1) ≠ 0) (h1 : IsOne w ob yg) :
    Calls Yba.prog 33 #[v, v, .slice (some ⟨yg, 0, none⟩) 1 1] w fun e w' => NatAnsS B v.ownBlock.toList m (subZ X) w e w' := by
  obtain ⟨a, c, rfl, _⟩ := owns_slice ho
  obtain ⟨g, cap, hv, _, _⟩ := ho.form (by omega)
  simp only [Value.slice.injEq, true_and] at hv
  obtain ⟨rfl, rfl⟩ := hv
  refine (natsub_any B g m c yg 1 X w hm1 hm hW (by rcases hT with h | h; omega; exact h) ho h1.2 (Nat.le_refl _)).mono ?_
  intro e w' h
  exact h.toS
theorem nat_cmp1 (B m : Nat) (v : Value) (X : Nat → Int) (w : World) (ob yg : Nat) (hm1 : 1 ≤ m) (hm : m ≤ 500) (ho : w.ownsRow B 104 1 v m (vals X m)) (hW : Wrds X m) (hT : m = 0 ∨ X (m - 1) ≠ 0) (h1 : IsOne w ob yg) :
    Calls Yba.prog 32 #[v, .slice (some ⟨yg, 0, none⟩) 1 1] w fun e w' => CmpOne w e w' := by
  obtain ⟨a, c, rfl, _⟩ := owns_slice ho
  obtain ⟨g, cap, hv, _, _⟩ := ho.form (by omega)
  simp only [Value.slice.injEq, true_and] at hv
  obtain ⟨rfl, rfl⟩ := hv
  exact natcmp_one B g m c yg 1 X w hm1 hm hW (by rcases hT with h | h; omega; exact h) ho h1.2

set_option maxRecDepth 100000 in
set_option maxHeartbeats 1000000 in
theorem IntAdd_pos (B ib ob yg m : Nat) (v : Value) (X : Nat → Int) (w : World) (hm : m ≤ 500) (hI : Wds B w ib false v m X) (hR : Roomy v m) (h1 : IsOne w ob yg) (hne : v.ownBlock ≠ some yg) (hB : B ≤ w.heap.size) :
    Calls Yba.prog 13 #[.pointer (some ⟨ib, 0, none⟩), .pointer (some ⟨ib, 0, none⟩), .pointer (some ⟨ob, 0, none⟩)] w fun e w' => IntAns B ib (false && decide (0 < plusM false X m)) v (plusM false X m) (plusZ false X m) w e w' := by
  obtain ⟨i1, i2, i3, i4, i5⟩ := hI
  have c0 : w.cell? ⟨ib, 0, none⟩ = some (.bool false) := cell_at i1 0
  have c1 : w.cell? ⟨ib, 1, none⟩ = some v := cell_at i1 1
  have c2 : w.cell? ⟨ob, 0, none⟩ = some (.bool false) := cell_at h1.1 0
  have c3 : w.cell? ⟨ob, 1, none⟩ = some (.slice (some ⟨yg, 0, none⟩) 1 1) := cell_at h1.1 1
  have hib : ib ∉ v.ownBlock.toList := by simpa using owns_ne i2 i1 (by decide)
  have hob : ob ∉ v.ownBlock.toList := by simpa using owns_ne i2 h1.1 (by decide)
  have HW : Hid (w.heap[ib]? = some (.cells #[.bool false, v] 39 (0,0)) ∧ Wrds X m) := ⟨i1, i3⟩
  have Hcall : ∀ w2 : World, w2.heap = w.heap → Calls Yba.prog 31 #[v, v, .slice (some ⟨yg, 0, none⟩) 1 1] w2 fun e w' => NatAnsS B v.ownBlock.toList (m + 1) (addZ X m) w2 e w' := by
    intro w2 hw2
    refine nat_plus B m v X w2 ob yg hm ?_ i3 hR ⟨by rw [hw2]; exact h1.1, by rw [hw2]; exact h1.2⟩ hne (by rw [hw2]; exact hB)
    have h := i2
    unfold World.ownsRow at h ⊢
    rw [hw2]
    exact h
  have OKZ := addZ_ok i3
  obtain ⟨va, vc, hv, _⟩ := owns_slice i2
  subst hv
  obtain ⟨V, hV⟩ : ∃ V, V = Value.slice va m vc := ⟨_, rfl⟩
  rw [← hV] at c1 hib hob HW Hcall ⊢
  clear i1 i2 i3 i4 i5 h1 hR hne hV
  go_enter Yba.func13, Yba.ntmps13
  go_wp2_with (go_quiet (fail))
  refine wp_region_lex [0,0,0,0,1,0,0,0,1,0,0,0,1,2,4,4,3] (fun w' => Upd V.ownBlock.toList w w') (by kernel_rfl) (by kernel_rfl) (fun _ _ _ _ _ h => h) (((Upd.refl _ w).drewN _).drew) ?_
  simp only [List.zip_cons_cons, List.zip_nil_right]
  repeat (first
    | (refine lex0 ?_ rfl ?_ ?_; rotate_left; (focus (intro w'; go_simp; (first | done | with_reducible rfl))); simp only [Act.put, List.setIfInBounds_toArray, List.set_cons_zero, List.set_cons_succ])
    | (refine lex1 ?_ rfl ?_ ?_; rotate_left; (focus (intro w' hSw; replace hSw : Upd V.ownBlock.toList w w' := hSw; have e1 := hSw.cell c1 hib; have e2 := hSw.cell c3 hob; go_simp; (first | done | with_reducible rfl))); simp only [Act.put, List.setIfInBounds_toArray, List.set_cons_zero, List.set_cons_succ]))
  refine lex2 (fun K hK => ?_)
  go_simp
  refine Calls.mono (Hcall _ ?_) ?_
  · rfl
  rintro e w1 ⟨v', rfl, ho', hu', hg'⟩
  have hU : Upd V.ownBlock.toList w w1 := (((Upd.refl V.ownBlock.toList w).drewN _).drew).transTo hu' (fun i hi => .inl hi)
  refine hK _ _ hU ?_
  clear hK K
  have hi1 : w1.heap[ib]? = some (.cells #[.bool false, V] 39 (0,0)) := hU.keep HW.out.1 hib
  have d1 : w1.cell? ⟨ib, 1, none⟩ = some V := cell_at hi1 1
  have f1 := free_at hi1 1
  have htl := topOf_le (addZ X m) (m + 1)
  obtain ⟨T, hT⟩ : ∃ T, topOf (addZ X m) (m + 1) = T := ⟨_, rfl⟩
  rw [hT] at ho' htl
  have HT : Hid (topOf (addZ X m) (m + 1) = T) := hT
  clear hT
  obtain ⟨ua, uc, rfl, _⟩ := owns_slice ho'
  have HN : Hid (w1.heap[ib]? = some (.cells #[.bool false, V] 39 (0,0)) ∧ w1.ownsRow B 104 1 (.slice ua T uc) T (vals (addZ X m) T) ∧ Upd V.ownBlock.toList w w1 ∧ (∀ g', (Value.slice ua T uc).ownBlock = some g' → g' ∈ V.ownBlock.toList ∨ w.heap.size ≤ g')) := ⟨hi1, ho', hU, fun g' h => by rcases hg' g' h with q | q; exact .inl q; exact .inr (Nat.le_trans (Nat.le_refl _) q)⟩
  clear hi1 ho' hU hg' hu' Hcall
  try simp only [Act.put, List.setIfInBounds_toArray, List.set_cons_zero, List.set_cons_succ]
  repeat (refine lex4 ?_ rfl ?_ ?_; rotate_left; (focus (intro w'; go_simp; (first | done | with_reducible rfl))); simp only [Act.put, List.setIfInBounds_toArray, List.set_cons_zero, List.set_cons_succ])
  refine lex3 (fun K hK => ?_)
  go_simp
  refine hK _ _ ?_
  clear hK K
  try simp only [Act.put, List.setIfInBounds_toArray, List.set_cons_zero, List.set_cons_succ]
  refine lexE ?_
  have hi2 := set_at HN.out.1 1 (.slice ua T uc)
  have d2 : (w1.setCell ⟨ib, 1, none⟩ (.slice ua T uc)).cell? ⟨ib, 1, none⟩ = some (.slice ua T uc) := (cell_at hi2 1).trans (by simp)
  have d3 : (w1.setCell ⟨ib, 1, none⟩ (.slice ua T uc)).cell? ⟨ib, 0, none⟩ = some (.bool false) := (cell_at hi2 0).trans (by simp)
  have f2 := free_at hi2 0
  have hTb : T ≤ 600 := by omega
  have HFIN : Hid (∀ bb : Bool, bb = (false && decide (0 < T)) → IntAns B ib (false && decide (0 < T)) V T (addZ X m) w (.returned (.pointer (some ⟨ib, 0, none⟩))) ((w1.setCell ⟨ib, 1, none⟩ (.slice ua T uc)).setCell ⟨ib, 0, none⟩ (.bool bb))) := by
    intro bb hbb
    have hnb := owns_ne HN.out.2.1 HN.out.1 (by decide)
    refine ⟨rfl, .slice ua T uc, ⟨?_, owns_set (owns_set HN.out.2.1 hnb _) hnb _, ?_, ?_, ?_⟩, ?_, HN.out.2.2.2⟩
    · have := set_at hi2 0 (.bool bb)
      rw [hbb] at this ⊢
      simpa using this
    · exact fun k hk => OKZ k (by omega)
    · rw [← HT.out]; exact topOf_top _ _
    · intro h
      simp at h
      try omega
    · exact Upd.setCell (Upd.setCell (HN.out.2.2.1.mono (fun i hi => List.mem_cons_of_mem _ hi)) (.inl (by simp)) _) (.inl (by simp)) _
  clear hi2
  have EM : Hid (plusM false X m = T) := HT.out
  by_cases hT0 : T = 0
  · subst hT0
    go_wp2
    go_ret
    rw [EM.out]
    exact HFIN.out _ (by simp)
  · have hTp : (0 : Int) < (T : Int) := by omega
    have hTd : decide (0 < T) = true := by simp; omega
    go_wp2
    go_ret
    rw [EM.out]
    exact HFIN.out _ (by simp)

set_option maxRecDepth 100000 in
set_option maxHeartbeats 1000000 in
theorem IntAdd_neg (B ib ob yg m : Nat) (v : Value) (X : Nat → Int) (w : World) (hm : m ≤ 500) (hI : Wds B w ib true v m X) (hR : Roomy v m) (h1 : IsOne w ob yg) (hne : v.ownBlock ≠ some yg) (_hB : B ≤ w.heap.size) :
    Calls Yba.prog 13 #[.pointer (some ⟨ib, 0, none⟩), .pointer (some ⟨ib, 0, none⟩), .pointer (some ⟨ob, 0, none⟩)] w fun e w' => IntAns B ib (true && decide (0 < plusM true X m)) v (plusM true X m) (plusZ true X m) w e w' := by
  obtain ⟨i1, i2, i3, i4, i5⟩ := hI
  have c0 : w.cell? ⟨ib, 0, none⟩ = some (.bool true) := cell_at i1 0
  have c1 : w.cell? ⟨ib, 1, none⟩ = some v := cell_at i1 1
  have c2 : w.cell? ⟨ob, 0, none⟩ = some (.bool false) := cell_at h1.1 0
  have c3 : w.cell? ⟨ob, 1, none⟩ = some (.slice (some ⟨yg, 0, none⟩) 1 1) := cell_at h1.1 1
  have hib : ib ∉ v.ownBlock.toList := by simpa using owns_ne i2 i1 (by decide)
  have hob : ob ∉ v.ownBlock.toList := by simpa using owns_ne i2 h1.1 (by decide)
  have HW : Hid (w.heap[ib]? = some (.cells #[.bool true, v] 39 (0,0)) ∧ Wrds X m) := ⟨i1, i3⟩
  have hm1 : 1 ≤ m := i5 rfl
  have owns2 : ∀ w2 : World, w2.heap = w.heap → w2.ownsRow B 104 1 v m (vals X m) := by
    intro w2 hw2
    have h := i2
    unfold World.ownsRow at h ⊢
    rw [hw2]
    exact h
  have Hcmp : ∀ w2 : World, w2.heap = w.heap → Calls Yba.prog 32 #[v, .slice (some ⟨yg, 0, none⟩) 1 1] w2 fun e w' => CmpOne w2 e w' := by
    intro w2 hw2
    exact nat_cmp1 B m v X w2 ob yg hm1 hm (owns2 w2 hw2) i3 i4 ⟨by rw [hw2]; exact h1.1, by rw [hw2]; exact h1.2⟩
  have Hcall : ∀ w2 : World, Upd [] w w2 → Calls Yba.prog 33 #[v, v, .slice (some ⟨yg, 0, none⟩) 1 1] w2 fun e w' => NatAnsS B v.ownBlock.toList m (subZ X) w2 e w' := by
    intro w2 hw2
    exact nat_minus B m v X w2 ob yg hm1 hm (hw2.owns i2 (by simp)) i3 i4 ⟨hw2.keep h1.1 (by simp), hw2.keep h1.2 (by simp)⟩
  have OKZ := subZ_ok (X := X) (m := m)
  obtain ⟨va, vc, hv, _⟩ := owns_slice i2
  subst hv
  obtain ⟨V, hV⟩ : ∃ V, V = Value.slice va m vc := ⟨_, rfl⟩
  rw [← hV] at c1 hib hob HW Hcall Hcmp ⊢
  clear i1 i2 i3 i4 i5 h1 hR hne owns2 hV
  go_enter Yba.func13, Yba.ntmps13
  go_wp2_with (go_quiet (fail))
  refine wp_region_lex [0,0,0,1,0,0,0,1,2,0] (fun w' => Upd [] w w') (by kernel_rfl) (by kernel_rfl) (fun _ _ _ _ _ h => h) (((Upd.refl _ w).drewN _).drew) ?_
  simp only [List.zip_cons_cons, List.zip_nil_right]
  repeat (first
    | (refine lex0 ?_ rfl ?_ ?_; rotate_left; (focus (intro w'; go_simp; (first | done | with_reducible rfl))); simp only [Act.put, List.setIfInBounds_toArray, List.set_cons_zero, List.set_cons_succ])
    | (refine lex1 ?_ rfl ?_ ?_; rotate_left; (focus (intro w' hSw; replace hSw : Upd [] w w' := hSw; have e1 := hSw.cell c1 (by simp); have e2 := hSw.cell c3 (by simp); go_simp; (first | done | with_reducible rfl))); simp only [Act.put, List.setIfInBounds_toArray, List.set_cons_zero, List.set_cons_succ]))
  refine lex2 (fun K hK => ?_)
  go_simp
  refine Calls.mono (Hcmp _ ?_) ?_
  · rfl
  rintro e w0 ⟨r, rfl, hr0, hr1, hu0⟩
  have hU0 : Upd [] w w0 := (((Upd.refl [] w).drewN _).drew).transTo hu0 (by simp)
  refine hK _ _ hU0 ?_
  clear hK K Hcmp
  try simp only [Act.put, List.setIfInBounds_toArray, List.set_cons_zero, List.set_cons_succ]
  repeat (first
    | (refine lex0 ?_ rfl ?_ ?_; rotate_left; (focus (intro w'; go_simp; (first | done | with_reducible rfl))); simp only [Act.put, List.setIfInBounds_toArray, List.set_cons_zero, List.set_cons_succ])
    | (refine lex1 ?_ rfl ?_ ?_; rotate_left; (focus (intro w' hSw; replace hSw : Upd [] w w' := hSw; have e1 := hSw.cell c1 (by simp); have e2 := hSw.cell c3 (by simp); go_simp; (first | done | with_reducible rfl))); simp only [Act.put, List.setIfInBounds_toArray, List.set_cons_zero, List.set_cons_succ]))
  refine lexE ?_
  have HU0 : Hid (Upd [] w w0) := hU0
  clear hU0 hu0
  have hrb : (decide (0 ≤ r)) = true := by simp; omega
  go_wp2_with fail
  refine wp_region_lex [0,0,0,0,1,0,0,0,1,0,0,0,1,2,4,4,3] (fun w' => Upd V.ownBlock.toList w w') (by kernel_rfl) (by kernel_rfl) (fun _ _ _ _ _ h => h) ((HU0.out.mono (by simp)).drew) ?_
  simp only [List.zip_cons_cons, List.zip_nil_right]
  repeat (first
    | (refine lex0 ?_ rfl ?_ ?_; rotate_left; (focus (intro w'; go_simp; (first | done | with_reducible rfl))); simp only [Act.put, List.setIfInBounds_toArray, List.set_cons_zero, List.set_cons_succ])
    | (refine lex1 ?_ rfl ?_ ?_; rotate_left; (focus (intro w' hSw; replace hSw : Upd V.ownBlock.toList w w' := hSw; have e1 := hSw.cell c1 hib; have e2 := hSw.cell c3 hob; go_simp; (first | done | with_reducible rfl))); simp only [Act.put, List.setIfInBounds_toArray, List.set_cons_zero, List.set_cons_succ]))
  refine lex2 (fun K hK => ?_)
  go_simp
  refine Calls.mono (Hcall _ ?_) ?_
  · exact HU0.out.drew
  rintro e w1 ⟨v', rfl, ho', hu', hg'⟩
  have hU : Upd V.ownBlock.toList w w1 := (((HU0.out.mono (T := V.ownBlock.toList) (by simp)).drew)).transTo hu' (fun i hi => .inl hi)
  refine hK _ _ hU ?_
  clear hK K
  have hi1 : w1.heap[ib]? = some (.cells #[.bool true, V] 39 (0,0)) := hU.keep HW.out.1 hib
  have d1 : w1.cell? ⟨ib, 1, none⟩ = some V := cell_at hi1 1
  have f1 := free_at hi1 1
  have htl := topOf_le (subZ X) (m)
  obtain ⟨T, hT⟩ : ∃ T, topOf (subZ X) (m) = T := ⟨_, rfl⟩
  rw [hT] at ho' htl
  have HT : Hid (topOf (subZ X) (m) = T) := hT
  clear hT
  obtain ⟨ua, uc, rfl, _⟩ := owns_slice ho'
  have HN : Hid (w1.heap[ib]? = some (.cells #[.bool true, V] 39 (0,0)) ∧ w1.ownsRow B 104 1 (.slice ua T uc) T (vals (subZ X) T) ∧ Upd V.ownBlock.toList w w1 ∧ (∀ g', (Value.slice ua T uc).ownBlock = some g' → g' ∈ V.ownBlock.toList ∨ w.heap.size ≤ g')) := ⟨hi1, ho', hU, fun g' h => by rcases hg' g' h with q | q; exact .inl q; exact .inr (Nat.le_trans (HU0.out.size) q)⟩
  clear hi1 ho' hU hg' hu' Hcall
  try simp only [Act.put, List.setIfInBounds_toArray, List.set_cons_zero, List.set_cons_succ]
  repeat (refine lex4 ?_ rfl ?_ ?_; rotate_left; (focus (intro w'; go_simp; (first | done | with_reducible rfl))); simp only [Act.put, List.setIfInBounds_toArray, List.set_cons_zero, List.set_cons_succ])
  refine lex3 (fun K hK => ?_)
  go_simp
  refine hK _ _ ?_
  clear hK K
  try simp only [Act.put, List.setIfInBounds_toArray, List.set_cons_zero, List.set_cons_succ]
  refine lexE ?_
  have hi2 := set_at HN.out.1 1 (.slice ua T uc)
  have d2 : (w1.setCell ⟨ib, 1, none⟩ (.slice ua T uc)).cell? ⟨ib, 1, none⟩ = some (.slice ua T uc) := (cell_at hi2 1).trans (by simp)
  have d3 : (w1.setCell ⟨ib, 1, none⟩ (.slice ua T uc)).cell? ⟨ib, 0, none⟩ = some (.bool true) := (cell_at hi2 0).trans (by simp)
  have f2 := free_at hi2 0
  have hTb : T ≤ 600 := by omega
  have HFIN : Hid (∀ bb : Bool, bb = (true && decide (0 < T)) → IntAns B ib (true && decide (0 < T)) V T (subZ X) w (.returned (.pointer (some ⟨ib, 0, none⟩))) ((w1.setCell ⟨ib, 1, none⟩ (.slice ua T uc)).setCell ⟨ib, 0, none⟩ (.bool bb))) := by
    intro bb hbb
    have hnb := owns_ne HN.out.2.1 HN.out.1 (by decide)
    refine ⟨rfl, .slice ua T uc, ⟨?_, owns_set (owns_set HN.out.2.1 hnb _) hnb _, ?_, ?_, ?_⟩, ?_, HN.out.2.2.2⟩
    · have := set_at hi2 0 (.bool bb)
      rw [hbb] at this ⊢
      simpa using this
    · exact fun k hk => OKZ k (by omega)
    · rw [← HT.out]; exact topOf_top _ _
    · intro h
      simp at h
      try omega
    · exact Upd.setCell (Upd.setCell (HN.out.2.2.1.mono (fun i hi => List.mem_cons_of_mem _ hi)) (.inl (by simp)) _) (.inl (by simp)) _
  clear hi2
  have EM : Hid (plusM true X m = T) := HT.out
  by_cases hT0 : T = 0
  · subst hT0
    go_wp2
    go_ret
    rw [EM.out]
    exact HFIN.out _ (by simp)
  · have hTp : (0 : Int) < (T : Int) := by omega
    have hTd : decide (0 < T) = true := by simp; omega
    go_wp2
    go_ret
    rw [EM.out]
    exact HFIN.out _ (by simp [hTd])

end Go.Proofs.Ybulkcspi
