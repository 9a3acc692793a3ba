/-
  INDEPENDENT, TENTH PART: the law LawS4714AIndependent 4.
-/
import Derived.Test.YbulkcspiIi
namespace Go.Proofs.Ybulkcspi
open Go.RowKit Go.Lib
attribute [local go_sem ↓] Go.wp_at_zero Go.wp_at_succ

theorem IntAdd_any (B ib ob yg m : Nat) (neg : Bool) (v : Value) (X : Nat → Int) (w : World) (hm : m ≤ 500) (hI : Wds B w ib neg v m X) (hR : Roomy v m) (h1 : IsOne w ob yg) (hne : v.ownBlock ≠ some yg) (hB : B ≤ w.heap.size) :
    Calls Yba.prog 13 #[.pointer (some ⟨ib, 0, none⟩), .pointer (some ⟨ib, 0, none⟩), .pointer (some ⟨ob, 0, none⟩)] w fun e w' => IntAns B ib (neg && decide (0 < plusM neg X m)) v (plusM neg X m) (plusZ neg X m) w e w' := by
  cases neg
  · exact IntAdd_pos B ib ob yg m v X w hm hI hR h1 hne hB
  · exact IntAdd_neg B ib ob yg m v X w hm hI hR h1 hne hB
theorem plusM_le (neg : Bool) (X : Nat → Int) (m : Nat) : plusM neg X m ≤ m + 1 := by
  cases neg
  · exact topOf_le _ _
  · have := topOf_le (subZ X) m
    show topOf (subZ X) m ≤ m + 1
    omega
theorem shlM_le (X : Nat → Int) (m : Nat) : shlM X m ≤ m + 1 := by
  unfold shlM
  by_cases hm : m = 0
  · rw [if_pos hm]
    have := topOf_le (lshZ X m) 0
    omega
  · rw [if_neg hm]
    exact topOf_le (lshZ X m) (m + 1)
theorem Top.only {bs : List Int} {m m' : Nat} (h : Top bs m) (h' : Top bs m') : m = m' := by
  have h1 := topOf_only (X := word bs) (n := 200) h.1 (fun k hk _ => h.2.1 k hk) h.2.2
  have h2 := topOf_only (X := word bs) (n := 200) h'.1 (fun k hk _ => h'.2.1 k hk) h'.2.2
  omega

/-- An Int by its words, with what is asked of it by Add. -/
def Ready (B : Nat) (w : World) (ib : Nat) (neg : Bool) (m : Nat) (X : Nat → Int) (v : Value) : Prop := Wds B w ib neg v m X ∧ Roomy v m ∧ m ≤ 200
theorem IntIs.ready {B ib m : Nat} {w : World} {neg : Bool} {bs : List Int} (h : IntIs B w ib (neg && decide (0 < m)) bs m) (hb : Octets bs) : ∃ v, Ready B w ib (neg && decide (0 < m)) m (word bs) v := by
  obtain ⟨v, e1, e2, e3, e4⟩ := h
  refine ⟨v, ⟨e1, e2, fun k _ => word_ok hb k, e3.2.2, fun hn => ?_⟩, e4, e3.1⟩
  simp at hn
  omega
theorem Ready.keep {B ib m : Nat} {w w' : World} {neg : Bool} {X : Nat → Int} {v : Value} (h : Ready B w ib neg m X v) (hu : Upd [] w w') : Ready B w' ib neg m X v :=
  ⟨⟨hu.keep h.1.1 (by simp), hu.owns h.1.2.1 (by simp), h.1.2.2⟩, h.2⟩
theorem Wd0.keep {B ib m : Nat} {w w' : World} {neg : Bool} {X : Nat → Int} {v : Value} (h : Wd0 B w ib neg v m X) (hu : Upd [] w w') : Wd0 B w' ib neg v m X := ⟨hu.keep h.1 (by simp), hu.owns h.2 (by simp)⟩
theorem IsOne.keep {w w' : World} {ob yg : Nat} (h : IsOne w ob yg) {S : List Nat} (hu : Upd S w w') (h1 : ob ∉ S) (h2 : yg ∉ S) : IsOne w' ob yg := ⟨hu.keep h.1 h1, hu.keep h.2 h2⟩
/-- The blocks of an Int lie at B or behind. -/
theorem own_ge {B ib m : Nat} {w : World} {v : Value} {X : Nat → Int} (ho : w.ownsRow B 104 1 v m (vals X m)) (hib : B ≤ ib) : ∀ i, i ∈ ib :: v.ownBlock.toList → B ≤ i := by
  intro i hi
  simp only [List.mem_cons, Option.mem_toList] at hi
  rcases hi with rfl | hi
  · exact hib
  · exact (owns_block ho hi).choose_spec.2
theorem own_lt {B m : Nat} {w : World} {v : Value} {X : Nat → Int} (ho : w.ownsRow B 104 1 v m (vals X m)) {g : Nat} (hg : v.ownBlock = some g) : g < w.heap.size := lt_of_heap (owns_block ho hg).choose_spec.1

set_option maxRecDepth 100000 in
set_option maxHeartbeats 1000000 in
theorem indep_nil (neg : Bool) (L c : Nat) (a : Option Addr) (bs : List Int) (w : World) (hL : L ≤ 1024) (hLc : L ≤ c) (hB : Byts w a L bs) :
    Calls Yba.prog 4 #[.bool true, .bool neg, .slice a L c] w fun e w' => e = .returned (.bool true) ∧ Upd [] w w' := by
  have HB : Hid (Byts w a L bs) := hB
  clear hB
  go_enter Yba.func4, Yba.ntmps4
  go_wp2_with fail
  refine (build_nil neg a L c w).mono ?_
  rintro e w1 ⟨rfl, rfl⟩
  go_wp2_with fail
  refine (clone_nil w1).mono ?_
  rintro e w2 ⟨rfl, hI2, hu2⟩
  obtain ⟨v, hR2⟩ := IntIs.ready (neg := false) hI2 (fun b hb => by cases hb)
  obtain ⟨rb, hrb⟩ : ∃ rb, w1.heap.size = rb := ⟨_, rfl⟩
  rw [hrb] at hR2 ⊢
  have HR2 : Hid (Ready rb w2 rb false 0 (word []) v) := hR2
  have U12 : Hid (Upd [] w1 w2) := hu2
  have HRB : rb ≤ rb := Nat.le_refl _
  have HS2 : rb ≤ w2.heap.size := by have := hu2.size; omega
  have hrbw : w1.heap.size ≤ rb := by omega
  clear hI2 hu2 hR2
  have hsz2 : rb ≤ w2.heap.size := HS2
  go_wp2_with fail
  refine (NewInt_one w2).mono ?_
  rintro e w3 ⟨rfl, o1, o2, hu3⟩
  obtain ⟨yg, hyg⟩ : ∃ yg, w2.heap.size = yg := ⟨_, rfl⟩
  rw [hyg] at o1 o2 ⊢
  have HO3 : Hid (IsOne w3 (yg + 1) yg) := ⟨o1, o2⟩
  have hR3 := HR2.out.keep hu3
  have hne : v.ownBlock ≠ some yg := by
    intro h
    have := own_lt HR2.out.1.2.1 h
    omega
  have hBw3 : rb ≤ w3.heap.size := by have := hu3.size; omega
  have Hadd := IntAdd_any rb rb (yg + 1) yg 0 false v (word []) w3 (by have := hR3.2.2; omega) hR3.1 hR3.2.1 HO3.out hne hBw3
  have H3 : Hid (Upd [] w2 w3 ∧ w2.heap.size = yg ∧ v.ownBlock ≠ some yg ∧ w3.ownsRow rb 104 1 v 0 (vals (word []) 0)) := ⟨hu3, hyg, hne, hR3.1.2.1⟩
  have hm0 : 0 ≤ 200 := hR3.2.2
  have hpl := plusM_le false (word []) 0
  have hsl := shlM_le (plusZ false (word []) 0) (plusM false (word []) 0)
  clear o1 o2 hu3 hR3 hne hyg
  go_wp2_with fail
  refine Hadd.mono ?_
  rintro e w4 ⟨rfl, v4, hW4, hu4, hg4⟩
  have hsz4 : rb ≤ w4.heap.size := by have := hu4.size; omega
  have Hlsh := IntLsh_any rb rb (plusM false (word []) 0) _ v4 (plusZ false (word []) 0) w4 (by omega) hW4 hsz4
  have H4 : Hid (Upd (rb :: v.ownBlock.toList) w3 w4 ∧ (∀ g', v4.ownBlock = some g' → g' ∈ v.ownBlock.toList ∨ w3.heap.size ≤ g') ∧ w4.ownsRow rb 104 1 v4 (plusM false (word []) 0) (vals (plusZ false (word []) 0) (plusM false (word []) 0))) := ⟨hu4, hg4, hW4.2.1⟩
  clear hW4 hu4 hg4 Hadd
  go_wp2_with fail
  refine Hlsh.mono ?_
  rintro e w5 ⟨rfl, v5, hW5, hu5, hg5⟩
  clear Hlsh
  -- seen from w2 nothing has turned but r
  have H5 : Hid (Wd0 rb w5 rb (false && decide (0 < plusM false (word []) 0)) v5 (shlM (plusZ false (word []) 0) (plusM false (word []) 0)) (lshZ (plusZ false (word []) 0) (plusM false (word []) 0)) ∧ (∀ (z : World), Upd [] z w2 → z.heap.size ≤ rb → Upd [] z w5) ∧ IsOne w5 (yg + 1) yg ∧ w2.heap.size ≤ w5.heap.size) := by
    have q1 : rb < w2.heap.size := lt_of_heap HR2.out.1.1
    have q2 : w2.heap.size ≤ w3.heap.size := H3.out.1.size
    have q3 : yg < w3.heap.size := lt_of_heap HO3.out.2
    have q4 : yg + 1 < w3.heap.size := lt_of_heap HO3.out.1
    have q5 : w2.heap.size = yg := H3.out.2.1
    have s4 := H4.out.1.size
    have s5 := hu5.size
    refine ⟨hW5, ?_, ?_, by omega⟩
    · intro z hz hzB
      refine ((hz.transTo H3.out.1 (by simp)).transTo H4.out.1 (fun i hi => .inr ?_)).transTo hu5 (fun i hi => .inr ?_)
      · have := own_ge H3.out.2.2.2 HRB i hi
        omega
      · have := own_ge H4.out.2.2 HRB i hi
        omega
    · have hx1 : yg + 1 ∉ rb :: v.ownBlock.toList := by
        simp only [List.mem_cons, Option.mem_toList, not_or]
        refine ⟨by omega, fun h => ?_⟩
        exact (owns_ne H3.out.2.2.2 HO3.out.1 (by decide)) h
      have hx2 : yg ∉ rb :: v.ownBlock.toList := by
        simp only [List.mem_cons, Option.mem_toList, not_or]
        exact ⟨by omega, H3.out.2.2.1⟩
      have h4 := HO3.out.keep H4.out.1 hx1 hx2
      refine h4.keep hu5 ?_ ?_
      · simp only [List.mem_cons, Option.mem_toList, not_or]
        exact ⟨by omega, fun h => (owns_ne H4.out.2.2 h4.1 (by decide)) h⟩
      · simp only [List.mem_cons, Option.mem_toList, not_or]
        refine ⟨by omega, fun h => ?_⟩
        rcases H4.out.2.1 yg h with h' | h'
        · exact hx2 (List.mem_cons_of_mem _ h')
        · omega
  clear H4 H3 HO3 hW5 hu5 hg5
  have U15 : Hid (Upd [] w1 w5) := H5.out.2.1 w1 U12.out hrbw
  go_wp2_with fail
  refine (build_any neg L c a bs w5 hL hLc (HB.out.keep U15.out (by simp))).mono ?_
  rintro e w6' ⟨rfl, _, hu6⟩
  obtain ⟨w6, hw6⟩ : ∃ w6, w6 = w6'.alloc (.cells #[.bool false, .slice none 0 0] 39) := ⟨_, rfl⟩
  have U56 : Hid (Upd [] w5 w6) := by rw [hw6]; exact hu6.alloc _
  obtain ⟨yb, hyb⟩ : ∃ yb, w6'.heap.size = yb := ⟨_, rfl⟩
  have HYB : w5.heap.size ≤ yb := by have := hu6.size; omega
  obtain ⟨vy, hvy⟩ : ∃ vy : Value, vy = .slice none 0 0 := ⟨_, rfl⟩
  have HR6 : Hid (Ready w5.heap.size w6 yb false 0 (word []) vy) := by
    rw [hvy, hw6]
    exact ⟨⟨heap_last _ _ _ hyb.symm, World.ownsRow_nil _ _ _ _, fun k hk => by omega, .inl rfl, fun h => by cases h⟩, fun _ _ _ _ => .inl (by omega), by omega⟩
  clear hu6 hvy
  go_wp2_with (fail)
  rw [← hw6]
  clear hyb hw6
  have hO6 := H5.out.2.2.1.keep U56.out (by simp) (by simp)
  have hne6 : vy.ownBlock ≠ some yg := by
    intro h
    have h1 := (owns_block HR6.out.1.2.1 h).choose_spec.2
    have h2 := lt_of_heap H5.out.2.2.1.2
    omega
  have hs6 : w5.heap.size ≤ w6.heap.size := U56.out.size
  have Hadd := IntAdd_any w5.heap.size yb (yg + 1) yg 0 false vy (word []) w6 (by omega) HR6.out.1 HR6.out.2.1 hO6 hne6 hs6
  have hoy6 : Hid (w6.ownsRow w5.heap.size 104 1 vy 0 (vals (word []) 0)) := HR6.out.1.2.1
  clear hO6 hne6
  refine Hadd.mono ?_
  rintro e w7 ⟨rfl, v7, hW7, hu7, _⟩
  clear Hadd
  have hs7 : w5.heap.size ≤ w7.heap.size := by have := hu7.size; omega
  have Hlsh := IntLsh_any w5.heap.size yb (plusM false (word []) 0) _ v7 (plusZ false (word []) 0) w7 (by omega) hW7 hs7
  have H7 : Hid (Upd (yb :: vy.ownBlock.toList) w6 w7 ∧ w7.ownsRow w5.heap.size 104 1 v7 (plusM false (word []) 0) (vals (plusZ false (word []) 0) (plusM false (word []) 0))) := ⟨hu7, hW7.2.1⟩
  clear hW7 hu7
  go_wp2_with fail
  refine Hlsh.mono ?_
  rintro e w8 ⟨rfl, v8, hW8, hu8, _⟩
  clear Hlsh
  have U58 : Hid (Upd [] w5 w8) := by
    refine ((U56.out.transTo H7.out.1 (fun i hi => .inr ?_)).transTo hu8 (fun i hi => .inr ?_))
    · exact own_ge hoy6.out HYB i hi
    · exact own_ge H7.out.2 HYB i hi
  have hrb5 : rb < w5.heap.size := lt_of_heap H5.out.1.1
  have Hcmp := IntCmp_same rb w5.heap.size rb yb (shlM (plusZ false (word []) 0) (plusM false (word []) 0)) _ v5 v8 _ w8 (by omega) (by omega) (H5.out.1.keep U58.out) hW8
  clear hW8 hu8 H7 hoy6
  go_wp2_with fail
  refine Hcmp.mono ?_
  rintro e w9 ⟨rfl, hu9⟩
  clear Hcmp
  have U59 : Hid (Upd [] w5 w9) := U58.out.transTo hu9 (by simp)
  clear hu9 U58
  go_wp2_with fail
  refine (want_nil neg a L c w9).mono ?_
  rintro e w10 ⟨rfl, rfl⟩
  go_wp2
  go_ret
  exact ⟨rfl, U15.out.transTo U59.out (by simp)⟩

set_option maxRecDepth 100000 in
set_option maxHeartbeats 1000000 in
theorem indep_any (neg : Bool) (L c : Nat) (a : Option Addr) (bs : List Int) (w : World) (hL : L ≤ 1024) (hLc : L ≤ c) (hc : c ≤ maxLen) (hB : Byts w a L bs) :
    Calls Yba.prog 4 #[.bool false, .bool neg, .slice a L c] w fun e w' => e = .returned (.bool true) ∧ Upd [] w w' := by
  have HB : Hid (Byts w a L bs) := hB
  have Hc : Hid (c ≤ maxLen) := hc
  clear hB hc
  go_enter Yba.func4, Yba.ntmps4
  go_wp2_with fail
  refine (build_any neg L c a bs w hL hLc HB.out).mono ?_
  rintro e w1 ⟨rfl, ⟨m, hX⟩, hu1⟩
  have H1 : Hid (IntIs w.heap.size w1 w.heap.size (neg && decide (0 < m)) bs m ∧ Upd [] w w1) := ⟨hX, hu1⟩
  clear hX hu1
  go_wp2_with fail
  refine (clone_any _ _ _ _ _ w1 H1.out.1).mono ?_
  rintro e w2 ⟨rfl, hI2, hu2⟩
  obtain ⟨v, hR2⟩ := hI2.ready HB.out.2.2.2
  obtain ⟨rb, hrb⟩ : ∃ rb, w1.heap.size = rb := ⟨_, rfl⟩
  rw [hrb] at hR2 ⊢
  obtain ⟨nn, hnn⟩ : ∃ nn, (neg && decide (0 < m)) = nn := ⟨_, rfl⟩
  rw [hnn] at hR2
  have HNN : Hid ((neg && decide (0 < m)) = nn) := hnn
  have HR2 : Hid (Ready rb w2 rb nn m (word bs) v) := hR2
  have U12 : Hid (Upd [] w1 w2) := hu2
  have HRB : rb ≤ rb := Nat.le_refl _
  have HS2 : rb ≤ w2.heap.size := by have := hu2.size; omega
  have hrbw : w1.heap.size ≤ rb := by omega
  clear hI2 hu2 hR2 hnn
  have hsz2 : rb ≤ w2.heap.size := HS2
  go_wp2_with fail
  refine (NewInt_one w2).mono ?_
  rintro e w3 ⟨rfl, o1, o2, hu3⟩
  obtain ⟨yg, hyg⟩ : ∃ yg, w2.heap.size = yg := ⟨_, rfl⟩
  rw [hyg] at o1 o2 ⊢
  have HO3 : Hid (IsOne w3 (yg + 1) yg) := ⟨o1, o2⟩
  have hR3 := HR2.out.keep hu3
  have hne : v.ownBlock ≠ some yg := by
    intro h
    have := own_lt HR2.out.1.2.1 h
    omega
  have hBw3 : rb ≤ w3.heap.size := by have := hu3.size; omega
  have Hadd := IntAdd_any rb rb (yg + 1) yg m nn v (word bs) w3 (by have := hR3.2.2; omega) hR3.1 hR3.2.1 HO3.out hne hBw3
  have H3 : Hid (Upd [] w2 w3 ∧ w2.heap.size = yg ∧ v.ownBlock ≠ some yg ∧ w3.ownsRow rb 104 1 v m (vals (word bs) m)) := ⟨hu3, hyg, hne, hR3.1.2.1⟩
  have hm0 : m ≤ 200 := hR3.2.2
  have hpl := plusM_le nn (word bs) m
  have hsl := shlM_le (plusZ nn (word bs) m) (plusM nn (word bs) m)
  clear o1 o2 hu3 hR3 hne hyg
  go_wp2_with fail
  refine Hadd.mono ?_
  rintro e w4 ⟨rfl, v4, hW4, hu4, hg4⟩
  have hsz4 : rb ≤ w4.heap.size := by have := hu4.size; omega
  have Hlsh := IntLsh_any rb rb (plusM nn (word bs) m) _ v4 (plusZ nn (word bs) m) w4 (by omega) hW4 hsz4
  have H4 : Hid (Upd (rb :: v.ownBlock.toList) w3 w4 ∧ (∀ g', v4.ownBlock = some g' → g' ∈ v.ownBlock.toList ∨ w3.heap.size ≤ g') ∧ w4.ownsRow rb 104 1 v4 (plusM nn (word bs) m) (vals (plusZ nn (word bs) m) (plusM nn (word bs) m))) := ⟨hu4, hg4, hW4.2.1⟩
  clear hW4 hu4 hg4 Hadd
  go_wp2_with fail
  refine Hlsh.mono ?_
  rintro e w5 ⟨rfl, v5, hW5, hu5, hg5⟩
  clear Hlsh
  -- seen from w2 nothing has turned but r
  have H5 : Hid (Wd0 rb w5 rb (nn && decide (0 < plusM nn (word bs) m)) v5 (shlM (plusZ nn (word bs) m) (plusM nn (word bs) m)) (lshZ (plusZ nn (word bs) m) (plusM nn (word bs) m)) ∧ (∀ (z : World), Upd [] z w2 → z.heap.size ≤ rb → Upd [] z w5) ∧ IsOne w5 (yg + 1) yg ∧ w2.heap.size ≤ w5.heap.size) := by
    have q1 : rb < w2.heap.size := lt_of_heap HR2.out.1.1
    have q2 : w2.heap.size ≤ w3.heap.size := H3.out.1.size
    have q3 : yg < w3.heap.size := lt_of_heap HO3.out.2
    have q4 : yg + 1 < w3.heap.size := lt_of_heap HO3.out.1
    have q5 : w2.heap.size = yg := H3.out.2.1
    have s4 := H4.out.1.size
    have s5 := hu5.size
    refine ⟨hW5, ?_, ?_, by omega⟩
    · intro z hz hzB
      refine ((hz.transTo H3.out.1 (by simp)).transTo H4.out.1 (fun i hi => .inr ?_)).transTo hu5 (fun i hi => .inr ?_)
      · have := own_ge H3.out.2.2.2 HRB i hi
        omega
      · have := own_ge H4.out.2.2 HRB i hi
        omega
    · have hx1 : yg + 1 ∉ rb :: v.ownBlock.toList := by
        simp only [List.mem_cons, Option.mem_toList, not_or]
        refine ⟨by omega, fun h => ?_⟩
        exact (owns_ne H3.out.2.2.2 HO3.out.1 (by decide)) h
      have hx2 : yg ∉ rb :: v.ownBlock.toList := by
        simp only [List.mem_cons, Option.mem_toList, not_or]
        exact ⟨by omega, H3.out.2.2.1⟩
      have h4 := HO3.out.keep H4.out.1 hx1 hx2
      refine h4.keep hu5 ?_ ?_
      · simp only [List.mem_cons, Option.mem_toList, not_or]
        exact ⟨by omega, fun h => (owns_ne H4.out.2.2 h4.1 (by decide)) h⟩
      · simp only [List.mem_cons, Option.mem_toList, not_or]
        refine ⟨by omega, fun h => ?_⟩
        rcases H4.out.2.1 yg h with h' | h'
        · exact hx2 (List.mem_cons_of_mem _ h')
        · omega
  clear H4 H3 HO3 hW5 hu5 hg5
  have U15 : Hid (Upd [] w1 w5) := H5.out.2.1 w1 U12.out hrbw
  go_wp2_with fail
  refine (build_any neg L c a bs w5 hL hLc (HB.out.keep (H1.out.2.transTo U15.out (by simp)) (by simp))).mono ?_
  rintro e w6 ⟨rfl, ⟨m', hI6⟩, hu6⟩
  obtain rfl : m' = m := by
    obtain ⟨_, _, _, t1, _⟩ := hI6
    obtain ⟨_, _, _, t2, _⟩ := H1.out.1
    exact t1.only t2
  obtain ⟨vy, hR6⟩ := hI6.ready HB.out.2.2.2
  rw [HNN.out] at hR6
  obtain ⟨yb, hyb⟩ : ∃ yb, w5.heap.size = yb := ⟨_, rfl⟩
  have HYB : w5.heap.size ≤ yb := by omega
  have HR6 : Hid (Ready w5.heap.size w6 yb nn m' (word bs) vy) := by rw [← hyb]; exact hR6
  have U56 : Hid (Upd [] w5 w6) := hu6
  rw [hyb]
  clear hI6 hu6 hR6 hyb
  have hO6 := H5.out.2.2.1.keep U56.out (by simp) (by simp)
  have hne6 : vy.ownBlock ≠ some yg := by
    intro h
    have h1 := (owns_block HR6.out.1.2.1 h).choose_spec.2
    have h2 := lt_of_heap H5.out.2.2.1.2
    omega
  have hs6 : w5.heap.size ≤ w6.heap.size := U56.out.size
  have Hadd := IntAdd_any w5.heap.size yb (yg + 1) yg m' nn vy (word bs) w6 (by omega) HR6.out.1 HR6.out.2.1 hO6 hne6 hs6
  have hoy6 : Hid (w6.ownsRow w5.heap.size 104 1 vy m' (vals (word bs) m')) := HR6.out.1.2.1
  clear hO6 hne6
  go_wp2_with fail
  refine Hadd.mono ?_
  rintro e w7 ⟨rfl, v7, hW7, hu7, _⟩
  clear Hadd
  have hs7 : w5.heap.size ≤ w7.heap.size := by have := hu7.size; omega
  have Hlsh := IntLsh_any w5.heap.size yb (plusM nn (word bs) m') _ v7 (plusZ nn (word bs) m') w7 (by omega) hW7 hs7
  have H7 : Hid (Upd (yb :: vy.ownBlock.toList) w6 w7 ∧ w7.ownsRow w5.heap.size 104 1 v7 (plusM nn (word bs) m') (vals (plusZ nn (word bs) m') (plusM nn (word bs) m'))) := ⟨hu7, hW7.2.1⟩
  clear hW7 hu7
  go_wp2_with fail
  refine Hlsh.mono ?_
  rintro e w8 ⟨rfl, v8, hW8, hu8, _⟩
  clear Hlsh
  have U58 : Hid (Upd [] w5 w8) := by
    refine ((U56.out.transTo H7.out.1 (fun i hi => .inr ?_)).transTo hu8 (fun i hi => .inr ?_))
    · exact own_ge hoy6.out HYB i hi
    · exact own_ge H7.out.2 HYB i hi
  have hrb5 : rb < w5.heap.size := lt_of_heap H5.out.1.1
  have Hcmp := IntCmp_same rb w5.heap.size rb yb (shlM (plusZ nn (word bs) m') (plusM nn (word bs) m')) _ v5 v8 _ w8 (by omega) (by omega) (H5.out.1.keep U58.out) hW8
  clear hW8 hu8 H7 hoy6
  go_wp2_with fail
  refine Hcmp.mono ?_
  rintro e w9 ⟨rfl, hu9⟩
  clear Hcmp
  have U59 : Hid (Upd [] w5 w9) := U58.out.transTo hu9 (by simp)
  clear hu9 U58
  have U19 : Hid (Upd [] w1 w9) := U15.out.transTo U59.out (by simp)
  have hX9 : Hid (IntIs w.heap.size w9 w.heap.size (neg && decide (0 < m')) bs m') := H1.out.1.keep U19.out (by simp) (by simp)
  have U09 : Hid (Upd [] w w9) := H1.out.2.transTo U19.out (by simp)
  go_wp2_with fail
  refine (want_any neg L c a bs w9 hL hLc Hc.out (HB.out.keep U09.out (by simp))).mono ?_
  rintro e w10 ⟨x, T, d, rfl, hT1, hT2, hT3, rfl⟩
  have hoct : Octets bs := HB.out.2.2.2
  have htop : Top bs m' := by obtain ⟨_, _, _, h⟩ := hX9.out; exact h.1
  have hsg : sgn (neg && decide (0 < m')) m' = sgn neg T := sgn_eq (htop.zero hoct hT2)
  have HT : Hid (Octets bs ∧ Stripped bs T ∧ Byts w10 x T (spell bs T)) := ⟨hoct, hT2, hT3⟩
  clear hT2 hT3 hoct htop
  have S2 := Sign_any _ _ _ _ _ w10 hX9.out
  rw [hsg] at S2
  generalize sgn neg T = sg at *
  go_wp2_with fail
  refine S2.mono ?_
  rintro e w11 ⟨rfl, rfl⟩
  clear S2
  go_wp2_with fail
  refine (Bytes_any _ _ _ _ _ w11 hX9.out HT.out.1).mono ?_
  rintro e w12 ⟨y', T2, d2, rfl, _, h2, h3, h4⟩
  obtain rfl : T2 = T := h2.only HT.out.2.1
  have H8 : Hid (Byts w12 y' T2 (spell bs T2) ∧ Upd [] w11 w12) := ⟨h3, h4⟩
  clear h2 h3 h4
  go_wp2_with fail
  refine (eq_any T2 d2 d y' x _ w12 (by omega) H8.out.1 (HT.out.2.2.keep H8.out.2 (by simp))).mono ?_
  rintro e w13 ⟨rfl, hu13⟩
  go_wp2
  go_ret
  exact ⟨rfl, (U09.out.transTo H8.out.2 (by simp)).transTo hu13 (by simp)⟩

theorem indep_long (nil neg : Bool) (L c : Nat) (a : Option Addr) (w : World) (hL : 1024 < L) (hm : L ≤ maxLen) :
    Calls Yba.prog 4 #[.bool nil, .bool neg, .slice a L c] w fun e w' => e = .returned (.bool true) ∧ Upd [] w w' := by
  unfold maxLen at hm
  go_enter Yba.func4, Yba.ntmps4
  go_wp2
  go_ret
  exact ⟨rfl, Upd.refl _ _⟩

end Go.Proofs.Ybulkcspi
