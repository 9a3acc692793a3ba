/-
  INDEPENDENT, FOURTH PART: nat.add 31 and nat.sub 33 with 1.
-/
import Derived.Test.YbulkcspiIc
namespace Go.Proofs.Ybulkcspi
open Go.RowKit Go.Lib
attribute [local go_sem ↓] Go.wp_at_zero Go.wp_at_succ

def vals (X : Nat → Int) (m : Nat) : List Value := (List.range m).map fun k => Value.int .u64 (X k)
theorem vals_len (X : Nat → Int) (m : Nat) : (vals X m).length = m := by simp [vals]
theorem vals_at {X : Nat → Int} {m k : Nat} (h : k < m) : (vals X m)[k]? = some (.int .u64 (X k)) := by simp [vals, h]
theorem vals_take {X : Nat → Int} {arr : Array Value} {t : Nat} (h : ∀ k, k < t → arr[k]? = some (.int .u64 (X k))) : arr.toList.take (t * 1) = vals X t := by
  apply List.ext_getElem?
  intro j
  rw [List.getElem?_take]
  by_cases hj : j < t
  · rw [if_pos (by omega), Array.getElem?_toList, h j hj, vals_at hj]
  · rw [if_neg (by omega), List.getElem?_eq_none (by rw [vals_len]; omega)]
/-- A row's words. -/
theorem vals_cells {X : Nat → Int} {B g m c : Nat} {w : World} (h : w.ownsRow B 104 1 (.slice (some ⟨g, 0, none⟩) m c) m (vals X m)) : ∃ arr, w.heap[g]? = some (.cells arr 104 (0,0)) ∧ arr.size = c ∧ m ≤ c ∧ c ≤ maxLen ∧ B ≤ g ∧ ∀ k, k < m → arr[k]? = some (.int .u64 (X k)) := by
  obtain ⟨arr, h1, h2, h3, h4, h5, h6⟩ := owns_open h
  refine ⟨arr, h1, by omega, h3, h4, h6, fun k hk => ?_⟩
  have := congrArg (fun l => l[k]?) h5
  simp only [List.getElem?_take, if_pos (show k < m * 1 by omega), Array.getElem?_toList, vals_at hk] at this
  exact this
theorem vals_owns {X : Nat → Int} {B g t c : Nat} {arr : Array Value} {w : World} (h1 : w.heap[g]? = some (.cells arr 104 (0,0))) (h2 : arr.size = c) (h3 : t ≤ c) (h4 : c ≤ maxLen) (h5 : B ≤ g) (h6 : ∀ k, k < t → arr[k]? = some (.int .u64 (X k))) : w.ownsRow B 104 1 (.slice (some ⟨g, 0, none⟩) t c) t (vals X t) :=
  ⟨by rw [vals_len]; omega, .inr ⟨g, c, arr, rfl, h5, h1, h3, h4, by omega, vals_take h6⟩⟩

/-- The words of the sum with 1. -/
def addZ (X : Nat → Int) (m : Nat) (j : Nat) : Int := if j < m then (X j + car 1 X j) % 18446744073709551616 else car 1 X m
/-- The words of the difference with 1. -/
def subZ (X : Nat → Int) (j : Nat) : Int := (X j - bor 1 X j) % 18446744073709551616
theorem addZ_ok {X : Nat → Int} {m : Nat} (h : Wrds X m) : Wrds (addZ X m) (m + 1) := by
  intro k hk
  unfold addZ
  split
  · omega
  · have := car_ok (c := 1) (by omega) h; omega
theorem subZ_ok {X : Nat → Int} {m : Nat} : Wrds (subZ X) m := by
  intro k _
  unfold subZ
  omega

/-- What nat.add and nat.sub answer. -/
def NatAns (B g n : Nat) (Z : Nat → Int) (w : World) (e : Ending) (w' : World) : Prop :=
  ∃ v', e = .returned v' ∧ w'.ownsRow B 104 1 v' (topOf Z n) (vals Z (topOf Z n)) ∧ Upd [g] w w' ∧ ∀ g', v'.ownBlock = some g' → g' = g ∨ w.heap.size ≤ g'

set_option maxRecDepth 100000 in
set_option maxHeartbeats 1000000 in
theorem natadd_any (B g m c yg cy : Nat) (X : Nat → Int) (w : World) (hm : 1 ≤ m) (hm2 : m ≤ 500) (hW : Wrds X m) (ho : w.ownsRow B 104 1 (.slice (some ⟨g, 0, none⟩) m c) m (vals X m)) (hR : m ≤ 1 ∨ m + 1 ≤ c) (hy : w.heap[yg]? = some (.cells #[.int .u64 1] 104 (0,0))) (hne : yg ≠ g) (hcy : 1 ≤ cy) (hB : B ≤ w.heap.size) :
    Calls Yba.prog 31 #[.slice (some ⟨g, 0, none⟩) m c, .slice (some ⟨g, 0, none⟩) m c, .slice (some ⟨yg, 0, none⟩) 1 cy] w fun e w' => NatAns B g (m + 1) (addZ X m) w e w' := by
  obtain ⟨arr, h1, h2, h3, h4, h5, h6⟩ := vals_cells ho
  have h4' : c ≤ 9223372036854775807 := by unfold maxLen at h4; omega
  have HH : Hid (w.heap[g]? = some (.cells arr 104 (0,0)) ∧ (∀ k, k < m → arr[k]? = some (.int .u64 (X k))) ∧ Wrds X m ∧ w.heap[yg]? = some (.cells #[.int .u64 1] 104 (0,0)) ∧ c ≤ maxLen) := ⟨h1, h6, hW, hy, h4⟩
  have HC : ∀ (args : Array Value) (w : World), (callFunc 43 args).run Yba.prog w = .ok (.enter 24 args) w := twin_addVV
  obtain ⟨M, hM⟩ : ∃ M : Nat, M = m + 1 := ⟨_, rfl⟩
  have e0 : (m : Int) + 1 = (M : Int) := by omega
  have Hmk := remake_any M g m c w (by omega) (by omega) h4'
  have HM : Hid (M = m + 1) := hM
  have hM1 : m < M := by omega
  have hM2 : M ≤ 501 := by omega
  clear hM
  have q1 : ((m : Int) == 0) = false := by simp; omega
  clear ho h1 h6 hW hy h4
  go_enter Yba.func31, Yba.ntmps31
  go_wp2_with fail
  refine Hmk.mono ?_
  rintro e w1 hans
  clear Hmk
  -- the row that is written: the same, or a new one; whence word 0 and the 1 are read
  obtain ⟨zg, zc, zarr, rfl, z1, z2, z3, z4, z5, z6, z7, z8⟩ : ∃ (zg zc : Nat) (zarr : Array Value), e = .returned (.slice (some ⟨zg, 0, none⟩) M zc) ∧ w1.heap[zg]? = some (.cells zarr 104 (0,0)) ∧ zarr.size = zc ∧ M ≤ zc ∧ zc ≤ maxLen ∧ B ≤ zg ∧ (zg = g ∨ w.heap.size ≤ zg) ∧ Upd [] w w1 ∧ (1 < m → zg = g ∧ zarr = arr ∧ zc = c) := by
    rcases hans with ⟨q1, rfl, rfl⟩ | ⟨q1, c', rfl, q2, q3, rfl⟩
    · exact ⟨g, c, arr, rfl, HH.out.1, h2, q1, HH.out.2.2.2.2, h5, .inl rfl, Upd.refl _ _, fun _ => ⟨rfl, rfl, rfl⟩⟩
    · exact ⟨w.heap.size, c', _, rfl, heap_last _ _ _ rfl, size_madeCells _ _, q2, by unfold maxLen; omega, hB, .inr (Nat.le_refl _), Upd.alloc (Upd.refl _ _) _, fun h => by omega⟩
  have z4' : zc ≤ 9223372036854775807 := by unfold maxLen at z4; omega
  have HZ : Hid (w1.heap[zg]? = some (.cells zarr 104 (0,0)) ∧ zarr.size = zc ∧ zc ≤ maxLen ∧ (zg = g ∨ w.heap.size ≤ zg) ∧ Upd [] w w1 ∧ (1 < m → zg = g ∧ zarr = arr ∧ zc = c)) := ⟨z1, z2, z4, z6, z7, z8⟩
  have cx : w1.cell? ⟨g, 0, none⟩ = some (.int .u64 (X 0)) := (cell_at (z7.keep HH.out.1 (by simp)) 0).trans (HH.out.2.1 0 (by omega))
  have cy1 : w1.cell? ⟨yg, 0, none⟩ = some (.int .u64 1) := cell_at (z7.keep HH.out.2.2.2.1 (by simp)) 0
  have hx0 := HH.out.2.2.1 0 (by omega)
  have hyz : yg ≠ zg := by
    rcases z6 with h | h
    · rw [h]; exact hne
    · have := lt_of_heap HH.out.2.2.2.1; omega
  obtain ⟨c1, hc1⟩ : ∃ c1 : Int, c1 = car 1 X 1 := ⟨_, rfl⟩
  obtain ⟨y0, hy0⟩ : ∃ y0 : Int, y0 = (X 0 + 1) % 18446744073709551616 := ⟨_, rfl⟩
  have Hadd : ∀ w2 : World, Upd [] w1 w2 → Calls Yba.prog 24 #[.slice (some ⟨zg, 0, none⟩) 1 zc, .slice (some ⟨g, 0, none⟩) 1 c, .slice (some ⟨yg, 0, none⟩) 1 cy] w2 fun e w' => e = .returned (.int .u64 c1) ∧ w'.heap[zg]? = some (.cells (zarr.setIfInBounds 0 (.int .u64 y0)) 104 (0,0)) ∧ Upd [zg] w2 w' := by
    intro w2 hu
    rw [hc1, hy0]
    exact addVV_one zg g yg zc c cy (X 0) 1 zarr w2 (hu.keep HZ.out.1 (by simp)) (by omega) (hu.cell cx (by simp)) (hu.cell cy1 (by simp)) hx0.1 (by omega)
  have HE : Hid (c1 = car 1 X 1 ∧ y0 = (X 0 + 1) % 18446744073709551616) := ⟨hc1, hy0⟩
  clear z1 z2 z4 z6 z7 z8 cx cy1 hans hc1 hy0
  have k1 : (1 : Int) ≤ (zc : Int) := by omega
  have k2 : (1 : Int) ≤ (c : Int) := by omega
  have k3 : (1 : Int) ≤ (cy : Int) := by omega
  have k4 : 1 ≤ zc := by omega
  have k5 : 1 ≤ c := by omega
  go_wp2_with fail
  refine wp_region_lex [0,0,0,0,0,0,0,0,0,2,0] (fun w' => Upd [] w1 w' ∨ Upd [zg] w1 w') (by kernel_rfl) (by kernel_rfl) (fun _ _ _ _ _ h => h) (.inl (Upd.refl [] w1).drew) ?_
  simp only [List.zip_cons_cons, List.zip_nil_right]
  repeat (first
    | (refine lex0 ?_ rfl ?_ ?_; rotate_left; (focus (intro w'; go_simp; (first | done | with_reducible rfl))); simp only [Act.put, List.setIfInBounds_toArray, List.set_cons_zero, List.set_cons_succ])
    | (refine lex1 ?_ rfl ?_ ?_; rotate_left; (focus (intro w' hSw; go_simp; (first | done | with_reducible rfl))); simp only [Act.put, List.setIfInBounds_toArray, List.set_cons_zero, List.set_cons_succ]))
  refine lex2 (fun K hK => ?_)
  go_simp
  refine (Hadd _ (Upd.refl [] w1).drew).mono ?_
  rintro e w2 ⟨rfl, hz2, hu2⟩
  have hU2 : Upd [zg] w1 w2 := ((Upd.refl [zg] w1).drew).transTo hu2 (fun i hi => .inl hi)
  refine hK _ _ (.inr hU2) ?_
  clear hK K Hadd
  try simp only [Act.put, List.setIfInBounds_toArray, List.set_cons_zero, List.set_cons_succ]
  repeat (first
    | (refine lex0 ?_ rfl ?_ ?_; rotate_left; (focus (intro w'; go_simp; (first | done | with_reducible rfl))); simp only [Act.put, List.setIfInBounds_toArray, List.set_cons_zero, List.set_cons_succ])
    | (refine lex1 ?_ rfl ?_ ?_; rotate_left; (focus (intro w' hSw; go_simp; (first | done | with_reducible rfl))); simp only [Act.put, List.setIfInBounds_toArray, List.set_cons_zero, List.set_cons_succ]))
  refine lexE ?_
  have H2 : Hid (w2.heap[zg]? = some (.cells (zarr.setIfInBounds 0 (.int .u64 y0)) 104 (0,0)) ∧ Upd [zg] w1 w2) := ⟨hz2, hU2⟩
  clear hz2 hu2 hU2
  by_cases hm1 : m = 1
  · subst hm1
    obtain rfl : M = 2 := HM.out
    have hsz : 1 < zarr.size := by rw [HZ.out.2.1]; omega
    have d1 : w2.cell? ⟨zg, 1, none⟩ = some (zarr[1]'hsz) := (cell_at H2.out.1 1).trans (by rw [Array.getElem?_setIfInBounds, if_neg (by omega)]; exact Array.getElem?_eq_getElem _)
    have f1 := free_at H2.out.1 1
    generalize zarr[1]'hsz = old at d1
    have hz3 := set_at H2.out.1 1 (.int .u64 c1)
    have ha3 : ∀ k, k < 2 → ((zarr.setIfInBounds 0 (.int .u64 y0)).setIfInBounds 1 (.int .u64 c1))[k]? = some (.int .u64 (addZ X 1 k)) := by
      intro k hk
      rcases (by omega : k = 0 ∨ k = 1) with rfl | rfl
      · rw [Array.getElem?_setIfInBounds, if_neg (by omega), Array.getElem?_setIfInBounds_self_of_lt (by omega), HE.out.2]
        rfl
      · rw [Array.getElem?_setIfInBounds_self_of_lt (by simp; omega), HE.out.1]
        rfl
    have Hn := norm_top zg 2 zc (addZ X 1) _ _ hz3 ha3 (by omega) (by omega)
    have HF : Hid (NatAns B g (1 + 1) (addZ X 1) w (.returned (.slice (some ⟨zg, 0, none⟩) (topOf (addZ X 1) 2) zc)) (w2.setCell ⟨zg, 1, none⟩ (.int .u64 c1))) := by
      have htl := topOf_le (addZ X 1) 2
      refine ⟨_, rfl, vals_owns hz3 (by simpa using HZ.out.2.1) (by show topOf (addZ X 1) 2 ≤ zc; omega) HZ.out.2.2.1 z5 (fun k hk => ha3 k (by have : k < topOf (addZ X 1) 2 := hk; omega)), ?_, ?_⟩
      · have hU3 : Upd [zg] w (w2.setCell ⟨zg, 1, none⟩ (.int .u64 c1)) := Upd.setCell ((HZ.out.2.2.2.2.1.mono (by simp)).transTo H2.out.2 (fun i hi => .inl hi)) (.inl (by simp)) _
        rcases HZ.out.2.2.2.1 with h | h
        · rw [← h]; exact hU3
        · exact (Upd.refl [g] w).transTo hU3 (by intro i hi; right; simp at hi; omega)
      · intro g' hg'
        simp [Value.ownBlock] at hg'
        rw [← hg']
        exact HZ.out.2.2.2.1
    clear hz3 ha3
    go_wp2_with fail
    refine Hn.mono ?_
    rintro e w3 ⟨rfl, rfl⟩
    go_wp2
    go_ret
    exact HF.out
  · obtain ⟨k, rfl⟩ : ∃ k, m = k + 1 := ⟨m - 1, by omega⟩
    obtain ⟨hzg, hza, hzc⟩ := HZ.out.2.2.2.2.2 (by omega)
    subst hzg hza hzc
    have hk1 : 1 ≤ k := by omega
    have hW := HH.out.2.2.1
    have c1ok := car_ok (c := 1) (X := X) (by omega) (m := 1) (fun j hj => hW j (by omega))
    rw [← HE.out.1] at c1ok
    have ha2 : ∀ j, j < k → (zarr.setIfInBounds 0 (.int .u64 y0))[1 + j]? = some (.int .u64 (X (j + 1))) := by
      intro j hj
      rw [Array.getElem?_setIfInBounds, if_neg (by omega), Nat.add_comm 1 j]
      exact HH.out.2.1 (j + 1) (by omega)
    have Hvw : ∀ w3 : World, w3.heap = w2.heap → Calls Yba.prog 44 #[.slice (some ⟨zg, 1, none⟩) k (zc - 1), .slice (some ⟨zg, 1, none⟩) k (zc - 1), .int .u64 c1] w3 fun e w' => e = .returned (.int .u64 (car c1 (fun j => X (j + 1)) k)) ∧ Half zg k k (fun j => X (j + 1)) (fun j => (X (j + 1) + car c1 (fun j => X (j + 1)) j) % 18446744073709551616) (zarr.setIfInBounds 0 (.int .u64 y0)) w' ∧ Upd [zg] w3 w' := by
      intro w3 hw3
      exact addVW_any zg k (zc - 1) (zc - 1) c1 (fun j => X (j + 1)) _ w3 hk1 (by omega) c1ok.1 c1ok.2 (fun j hj => hW (j + 1) (by omega)) (by rw [hw3]; exact H2.out.1) (by simp; rw [HZ.out.2.1]; omega) ha2
    have s1 : (1 : Int) ≤ ((k + 1 : Nat) : Int) := by omega
    have s2 : ((k + 1 : Nat) : Int) ≤ (zc : Int) := by omega
    have s3 : 1 < zc := by omega
    have s4 : (1 : Int) < ((k + 1 : Nat) : Int) := by omega
    have t1 : (0 : Int) ≤ (k : Int) + 1 := by omega
    have t2 : (k : Int) + 1 ≤ (zc : Int) := by omega
    have t3 : (1 : Int) ≤ (k : Int) + 1 := by omega
    have t4 : ¬ zc = 1 := by omega
    clear hW ha2
    go_wp2_with fail
    refine wp_region_lex [0,0,0,0,0,0,0,0,2,0] (fun w' => w'.heap = w2.heap ∨ Upd [zg] w2 w') (by kernel_rfl) (by kernel_rfl) (fun _ _ _ _ _ h => h) (.inl rfl) ?_
    simp only [List.zip_cons_cons, List.zip_nil_right]
    repeat (first
      | (refine lex0 ?_ rfl ?_ ?_; rotate_left; (focus (intro w'; go_simp; (first | done | with_reducible rfl))); simp only [Act.put, List.setIfInBounds_toArray, List.set_cons_zero, List.set_cons_succ])
      | (refine lex1 ?_ rfl ?_ ?_; rotate_left; (focus (intro w' hSw; go_simp; (first | done | with_reducible rfl))); simp only [Act.put, List.setIfInBounds_toArray, List.set_cons_zero, List.set_cons_succ]))
    refine lex2 (fun K hK => ?_)
    go_simp
    refine (Hvw w2.drew rfl).mono ?_
    rintro e w3 ⟨rfl, hH3, hu3⟩
    have hU3 : Upd [zg] w2 w3 := ((Upd.refl [zg] w2).drew).transTo hu3 (fun i hi => .inl hi)
    refine hK _ _ (.inr hU3) ?_
    clear hK K Hvw
    try simp only [Act.put, List.setIfInBounds_toArray, List.set_cons_zero, List.set_cons_succ]
    repeat (first
      | (refine lex0 ?_ rfl ?_ ?_; rotate_left; (focus (intro w'; go_simp; (first | done | with_reducible rfl))); simp only [Act.put, List.setIfInBounds_toArray, List.set_cons_zero, List.set_cons_succ])
      | (refine lex1 ?_ rfl ?_ ?_; rotate_left; (focus (intro w' hSw; go_simp; (first | done | with_reducible rfl))); simp only [Act.put, List.setIfInBounds_toArray, List.set_cons_zero, List.set_cons_succ]))
    refine lexE ?_
    obtain ⟨arr3, a1, a2, a3, a4, a5⟩ := hH3
    obtain rfl : M = k + 1 + 1 := HM.out
    have hsz : k + 1 < arr3.size := by rw [a2]; simp; rw [HZ.out.2.1]; omega
    have ecar : car c1 (fun j => X (j + 1)) k = car 1 X (k + 1) := by rw [HE.out.1]; exact car_shift 1 X k
    rw [ecar]
    obtain ⟨cl, hcl⟩ : ∃ cl : Int, cl = car 1 X (k + 1) := ⟨_, rfl⟩
    rw [← hcl]
    have d1 : w3.cell? ⟨zg, k + 1, none⟩ = some (arr3[k + 1]'hsz) := (cell_at a1 _).trans (Array.getElem?_eq_getElem _)
    have f1 := free_at a1 (k + 1)
    generalize arr3[k + 1]'hsz = old at d1
    have hz4 := set_at a1 (k + 1) (.int .u64 cl)
    have ha4 : ∀ j, j < k + 1 + 1 → (arr3.setIfInBounds (k + 1) (.int .u64 cl))[j]? = some (.int .u64 (addZ X (k + 1) j)) := by
      intro j hj
      by_cases hjk : j = k + 1
      · subst hjk
        rw [Array.getElem?_setIfInBounds_self_of_lt hsz, hcl]
        simp [addZ]
      · rw [Array.getElem?_setIfInBounds, if_neg (fun e => hjk e.symm)]
        cases j with
        | zero =>
          rw [a5 0 (.inl rfl), Array.getElem?_setIfInBounds_self_of_lt (by rw [HZ.out.2.1]; omega), HE.out.2]
          rfl
        | succ j =>
          have h := a3 j (by omega)
          rw [Nat.add_comm 1 j] at h
          rw [h, HE.out.1]
          have e := car_shift 1 X j
          simp only [e, addZ, if_pos (show j + 1 < k + 1 by omega)]
    have Hn := norm_top zg (k + 1 + 1) zc (addZ X (k + 1)) _ _ hz4 ha4 (by omega) (by omega)
    have HF : Hid (NatAns B zg (k + 1 + 1) (addZ X (k + 1)) w (.returned (.slice (some ⟨zg, 0, none⟩) (topOf (addZ X (k + 1)) (k + 1 + 1)) zc)) (w3.setCell ⟨zg, k + 1, none⟩ (.int .u64 cl))) := by
      have htl := topOf_le (addZ X (k + 1)) (k + 1 + 1)
      refine ⟨_, rfl, vals_owns hz4 (by simp; rw [a2]; simpa using HZ.out.2.1) (by omega) HZ.out.2.2.1 z5 (fun j hj => ha4 j (by omega)), ?_, ?_⟩
      · exact Upd.setCell (((HZ.out.2.2.2.2.1.mono (by simp)).transTo H2.out.2 (fun i hi => .inl hi)).transTo hU3 (fun i hi => .inl hi)) (.inl (by simp)) _
      · intro g' hg'
        simp [Value.ownBlock] at hg'
        exact .inl hg'.symm
    have b5 : (0 : Int) ≤ (k : Int) + 1 := by omega
    have b6 : (k : Int) + 1 < ((k + 1 + 1 : Nat) : Int) := by omega
    clear hz4 ha4 a1 a3 a4 a5 hU3 hu3 ecar hcl
    go_wp2_with fail
    refine Hn.mono ?_
    rintro e w4 ⟨rfl, rfl⟩
    go_wp2
    go_ret
    exact HF.out

end Go.Proofs.Ybulkcspi
