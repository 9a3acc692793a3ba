/-
  INDEPENDENT, FIFTH PART: nat.sub 33 of 1 in place.
-/
import Derived.Test.YbulkcspiId
namespace Go.Proofs.Ybulkcspi
open Go.RowKit Go.Lib
attribute [local go_sem ↓] Go.wp_at_zero Go.wp_at_succ

set_option maxRecDepth 100000 in
set_option maxHeartbeats 1000000 in
theorem natsub_any (B g m c yg cy : Nat) (X : Nat → Int) (w : World) (hm : 1 ≤ m) (hm2 : m ≤ 500) (hW : Wrds X m) (hT : X (m - 1) ≠ 0) (ho : w.ownsRow B 104 1 (.slice (some ⟨g, 0, none⟩) m c) m (vals X m)) (hy : w.heap[yg]? = some (.cells #[.int .u64 1] 104 (0,0))) (hcy : 1 ≤ cy) :
    Calls Yba.prog 33 #[.slice (some ⟨g, 0, none⟩) m c, .slice (some ⟨g, 0, none⟩) m c, .slice (some ⟨yg, 0, none⟩) 1 cy] w fun e w' => NatAns B g m (subZ X) w e w' := by
  obtain ⟨arr, h1, h2, h3, h4, h5, h6⟩ := vals_cells ho
  have h4' : c ≤ 9223372036854775807 := by unfold maxLen at h4; omega
  have HH : Hid (w.heap[g]? = some (.cells arr 104 (0,0)) ∧ (∀ k, k < m → arr[k]? = some (.int .u64 (X k))) ∧ Wrds X m ∧ c ≤ maxLen) := ⟨h1, h6, hW, h4⟩
  have HB0 : Hid (bor 1 X m = 0) := by
    have hb := bor_ok (c := 1) (X := X) (by omega) m
    by_cases hz : bor 1 X m = 1
    · exact absurd (bor_one hW hz (m - 1) (by omega)) hT
    · show bor 1 X m = 0
      omega
  have HC : ∀ (args : Array Value) (w : World), (callFunc 47 args).run Yba.prog w = .ok (.enter 25 args) w := twin_subVV
  have Hmk := remake_any m g m c w (by omega) (by omega) h4'
  have q1 : ((m : Int) == 0) = false := by simp; omega
  have hx0 := hW 0 (by omega)
  have cx : w.cell? ⟨g, 0, none⟩ = some (.int .u64 (X 0)) := (cell_at h1 0).trans (h6 0 (by omega))
  have cy1 : w.cell? ⟨yg, 0, none⟩ = some (.int .u64 1) := cell_at hy 0
  obtain ⟨c1, hc1⟩ : ∃ c1 : Int, c1 = bor 1 X 1 := ⟨_, rfl⟩
  obtain ⟨y0, hy0⟩ : ∃ y0 : Int, y0 = (X 0 - 1) % 18446744073709551616 := ⟨_, rfl⟩
  have Hsub : ∀ w2 : World, Upd [] w w2 → Calls Yba.prog 25 #[.slice (some ⟨g, 0, none⟩) 1 c, .slice (some ⟨g, 0, none⟩) 1 c, .slice (some ⟨yg, 0, none⟩) 1 cy] w2 fun e w' => e = .returned (.int .u64 c1) ∧ w'.heap[g]? = some (.cells (arr.setIfInBounds 0 (.int .u64 y0)) 104 (0,0)) ∧ Upd [g] w2 w' := by
    intro w2 hu
    rw [hc1, hy0]
    exact subVV_one g g yg c c cy (X 0) 1 arr w2 (hu.keep h1 (by simp)) (by omega) (hu.cell cx (by simp)) (hu.cell cy1 (by simp)) hx0.1 hx0.2 (by omega) (by omega)
  have HE : Hid (c1 = bor 1 X 1 ∧ y0 = (X 0 - 1) % 18446744073709551616) := ⟨hc1, hy0⟩
  have k2 : (1 : Int) ≤ (c : Int) := by omega
  have k3 : (1 : Int) ≤ (cy : Int) := by omega
  have k5 : 1 ≤ c := by omega
  clear ho h1 h6 hW hy h4 cx cy1 hc1 hy0 hT
  go_enter Yba.func33, Yba.ntmps33
  go_wp2_with fail
  refine Hmk.mono ?_
  rintro e w1 hans
  clear Hmk
  obtain ⟨rfl, rfl⟩ : e = .returned (.slice (some ⟨g, 0, none⟩) m c) ∧ w1 = w := by
    rcases hans with ⟨_, q2, q3⟩ | ⟨q1, _⟩
    · exact ⟨q2, q3⟩
    · omega
  clear hans
  go_wp2_with fail
  refine wp_region_lex [0,0,0,0,0,0,0,0,0,2,0] (fun w' => Upd [] w1 w' ∨ Upd [g] w1 w') (by kernel_rfl) (by kernel_rfl) (fun _ _ _ _ _ h => h) (.inl (Upd.refl [] w1).drew) ?_
  simp only [List.zip_cons_cons, List.zip_nil_right]
  repeat (first
    | (refine lex0 ?_ rfl ?_ ?_; rotate_left; (focus (intro w'; go_simp; (first | done | with_reducible rfl))); simp only [Act.put, List.setIfInBounds_toArray, List.set_cons_zero, List.set_cons_succ])
    | (refine lex1 ?_ rfl ?_ ?_; rotate_left; (focus (intro w' hSw; go_simp; (first | done | with_reducible rfl))); simp only [Act.put, List.setIfInBounds_toArray, List.set_cons_zero, List.set_cons_succ]))
  refine lex2 (fun K hK => ?_)
  go_simp
  refine (Hsub _ (Upd.refl [] w1).drew).mono ?_
  rintro e w2 ⟨rfl, hz2, hu2⟩
  have hU2 : Upd [g] w1 w2 := ((Upd.refl [g] w1).drew).transTo hu2 (fun i hi => .inl hi)
  refine hK _ _ (.inr hU2) ?_
  clear hK K Hsub
  try simp only [Act.put, List.setIfInBounds_toArray, List.set_cons_zero, List.set_cons_succ]
  repeat (first
    | (refine lex0 ?_ rfl ?_ ?_; rotate_left; (focus (intro w'; go_simp; (first | done | with_reducible rfl))); simp only [Act.put, List.setIfInBounds_toArray, List.set_cons_zero, List.set_cons_succ])
    | (refine lex1 ?_ rfl ?_ ?_; rotate_left; (focus (intro w' hSw; go_simp; (first | done | with_reducible rfl))); simp only [Act.put, List.setIfInBounds_toArray, List.set_cons_zero, List.set_cons_succ]))
  refine lexE ?_
  have H2 : Hid (w2.heap[g]? = some (.cells (arr.setIfInBounds 0 (.int .u64 y0)) 104 (0,0)) ∧ Upd [g] w1 w2) := ⟨hz2, hU2⟩
  clear hz2 hu2 hU2
  by_cases hm1 : m = 1
  · subst hm1
    obtain rfl : c1 = 0 := HE.out.1.trans HB0.out
    have ha3 : ∀ k, k < 1 → (arr.setIfInBounds 0 (.int .u64 y0))[k]? = some (.int .u64 (subZ X k)) := by
      intro k hk
      obtain rfl : k = 0 := by omega
      rw [Array.getElem?_setIfInBounds_self_of_lt (by omega), HE.out.2]
      rfl
    have Hn := norm_top g 1 c (subZ X) _ _ H2.out.1 ha3 (by omega) (by omega)
    have HF : Hid (NatAns B g 1 (subZ X) w1 (.returned (.slice (some ⟨g, 0, none⟩) (topOf (subZ X) 1) c)) w2) := by
      have htl := topOf_le (subZ X) 1
      exact ⟨_, rfl, vals_owns H2.out.1 (by simpa using h2) (by omega) HH.out.2.2.2 h5 (fun k hk => ha3 k (by omega)), H2.out.2, fun g' hg' => by simp [Value.ownBlock] at hg'; exact .inl hg'.symm⟩
    clear ha3
    go_wp2_with fail
    refine Hn.mono ?_
    rintro e w3 ⟨rfl, rfl⟩
    go_wp2
    go_ret
    exact HF.out
  · obtain ⟨k, rfl⟩ : ∃ k, m = k + 1 := ⟨m - 1, by omega⟩
    have hk1 : 1 ≤ k := by omega
    have hW := HH.out.2.2.1
    have c1ok := bor_ok (c := 1) (X := X) (by omega) 1
    rw [← HE.out.1] at c1ok
    have ha2 : ∀ j, j < k → (arr.setIfInBounds 0 (.int .u64 y0))[1 + j]? = some (.int .u64 (X (j + 1))) := by
      intro j hj
      rw [Array.getElem?_setIfInBounds, if_neg (by omega), Nat.add_comm 1 j]
      exact HH.out.2.1 (j + 1) (by omega)
    have ecar : bor c1 (fun j => X (j + 1)) k = 0 := by
      rw [HE.out.1, bor_shift 1 X k]
      exact HB0.out
    have Hvw : ∀ w3 : World, w3.heap = w2.heap → Calls Yba.prog 48 #[.slice (some ⟨g, 1, none⟩) k (c - 1), .slice (some ⟨g, 1, none⟩) k (c - 1), .int .u64 c1] w3 fun e w' => e = .returned (.int .u64 0) ∧ Half g k k (fun j => X (j + 1)) (fun j => (X (j + 1) - bor c1 (fun j => X (j + 1)) j) % 18446744073709551616) (arr.setIfInBounds 0 (.int .u64 y0)) w' ∧ Upd [g] w3 w' := by
      intro w3 hw3
      have h := subVW_any g k (c - 1) (c - 1) c1 (fun j => X (j + 1)) _ w3 hk1 (by omega) c1ok.1 c1ok.2 (fun j hj => hW (j + 1) (by omega)) (by rw [hw3]; exact H2.out.1) (by simp; omega) ha2
      rw [ecar] at h
      exact h
    have s1 : (1 : Int) ≤ ((k + 1 : Nat) : Int) := by omega
    have s2 : ((k + 1 : Nat) : Int) ≤ (c : Int) := by omega
    have s3 : 1 < c := by omega
    have s4 : (1 : Int) < ((k + 1 : Nat) : Int) := by omega
    have t1 : (0 : Int) ≤ (k : Int) + 1 := by omega
    have t2 : (k : Int) + 1 ≤ (c : Int) := by omega
    have t3 : (1 : Int) ≤ (k : Int) + 1 := by omega
    have t4 : ¬ c = 1 := by omega
    clear hW ha2 ecar
    go_wp2_with fail
    refine wp_region_lex [0,0,0,0,0,0,0,2,0] (fun w' => w'.heap = w2.heap ∨ Upd [g] w2 w') (by kernel_rfl) (by kernel_rfl) (fun _ _ _ _ _ h => h) (.inl rfl) ?_
    simp only [List.zip_cons_cons, List.zip_nil_right]
    repeat (first
      | (refine lex0 ?_ rfl ?_ ?_; rotate_left; (focus (intro w'; go_simp; (first | done | with_reducible rfl))); simp only [Act.put, List.setIfInBounds_toArray, List.set_cons_zero, List.set_cons_succ])
      | (refine lex1 ?_ rfl ?_ ?_; rotate_left; (focus (intro w' hSw; go_simp; (first | done | with_reducible rfl))); simp only [Act.put, List.setIfInBounds_toArray, List.set_cons_zero, List.set_cons_succ]))
    refine lex2 (fun K hK => ?_)
    go_simp
    refine (Hvw w2.drew rfl).mono ?_
    rintro e w3 ⟨rfl, hH3, hu3⟩
    have hU3 : Upd [g] w2 w3 := ((Upd.refl [g] w2).drew).transTo hu3 (fun i hi => .inl hi)
    refine hK _ _ (.inr hU3) ?_
    clear hK K Hvw
    try simp only [Act.put, List.setIfInBounds_toArray, List.set_cons_zero, List.set_cons_succ]
    repeat (first
      | (refine lex0 ?_ rfl ?_ ?_; rotate_left; (focus (intro w'; go_simp; (first | done | with_reducible rfl))); simp only [Act.put, List.setIfInBounds_toArray, List.set_cons_zero, List.set_cons_succ])
      | (refine lex1 ?_ rfl ?_ ?_; rotate_left; (focus (intro w' hSw; go_simp; (first | done | with_reducible rfl))); simp only [Act.put, List.setIfInBounds_toArray, List.set_cons_zero, List.set_cons_succ]))
    refine lexE ?_
    obtain ⟨arr3, a1, a2, a3, a4, a5⟩ := hH3
    have ha4 : ∀ j, j < k + 1 → arr3[j]? = some (.int .u64 (subZ X j)) := by
      intro j hj
      cases j with
      | zero =>
        rw [a5 0 (.inl rfl), Array.getElem?_setIfInBounds_self_of_lt (by omega), HE.out.2]
        rfl
      | succ j =>
        have h := a3 j (by omega)
        rw [Nat.add_comm 1 j] at h
        rw [h, HE.out.1]
        have e := bor_shift 1 X j
        simp only [e, subZ]
    have Hn := norm_top g (k + 1) c (subZ X) _ _ a1 ha4 (by omega) (by omega)
    have HF : Hid (NatAns B g (k + 1) (subZ X) w1 (.returned (.slice (some ⟨g, 0, none⟩) (topOf (subZ X) (k + 1)) c)) w3) := by
      have htl := topOf_le (subZ X) (k + 1)
      exact ⟨_, rfl, vals_owns a1 (by rw [a2]; simpa using h2) (by omega) HH.out.2.2.2 h5 (fun j hj => ha4 j (by omega)), H2.out.2.transTo hU3 (fun i hi => .inl hi), fun g' hg' => by simp [Value.ownBlock] at hg'; exact .inl hg'.symm⟩
    clear ha4 a1 a3 a4 a5 hU3 hu3
    go_wp2_with fail
    refine Hn.mono ?_
    rintro e w4 ⟨rfl, rfl⟩
    go_wp2
    go_ret
    exact HF.out

end Go.Proofs.Ybulkcspi
