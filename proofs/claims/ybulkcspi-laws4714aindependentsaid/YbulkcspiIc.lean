/-
  INDEPENDENT, THIRD PART: addVW 44 and subVW 48 in place.
-/
import Derived.Test.YbulkcspiIb
namespace Go.Proofs.Ybulkcspi
open Go.RowKit Go.Lib
attribute [local go_sem ↓] Go.wp_at_zero Go.wp_at_succ

theorem neq_word_same (a : Addr) (w : World) : (binOp .neq 148 (.pointer (some a)) (.pointer (some a))).run Yba.prog w = .ok (.bool false) w := by
  obtain ⟨i0, hi, _⟩ := info_parts Yba.info104
  have h : ∀ d : Nat, (Op.equalIn (d + 1) 148 (.pointer (some a)) (.pointer (some a))).run Yba.prog w = .ok true w := fun d => by
    simp [Op.equalIn, run_underlying Yba.underlying148, sizeOf, typeInfo, hi, run_sameAddr_same]
  simp only [binOp]
  simp [Op.equal, Op.maxDepth, h 9999]

theorem bor_zero {X : Nat → Int} : ∀ {m : Nat}, Wrds X m → bor 0 X m = 0
  | 0, _ => rfl
  | m + 1, h => by
    have h1 := bor_zero (m := m) (fun k hk => h k (by omega))
    have h2 := h m (by omega)
    simp only [bor, h1]
    rw [if_neg (by omega)]
/-- Once there is no carry there is none. -/
theorem car_dead {c : Int} {X : Nat → Int} {i : Nat} (hz : car c X i = 0) : ∀ {j : Nat}, i ≤ j → Wrds X j → car c X j = 0
  | 0, h, _ => by obtain rfl : i = 0 := by omega
                  exact hz
  | j + 1, h, hW => by
    by_cases hij : i = j + 1
    · rw [← hij]; exact hz
    · have h1 := car_dead hz (j := j) (by omega) (fun k hk => hW k (by omega))
      have h2 := hW j (by omega)
      simp only [car, h1]
      omega
theorem bor_dead {c : Int} {X : Nat → Int} {i : Nat} (hz : bor c X i = 0) : ∀ {j : Nat}, i ≤ j → Wrds X j → bor c X j = 0
  | 0, h, _ => by obtain rfl : i = 0 := by omega
                  exact hz
  | j + 1, h, hW => by
    by_cases hij : i = j + 1
    · rw [← hij]; exact hz
    · have h1 := bor_dead hz (j := j) (by omega) (fun k hk => hW k (by omega))
      have h2 := hW j (by omega)
      simp only [bor, h1]
      rw [if_neg (by omega)]

/-- Words i .. n of a row are as they were; those before are turned. -/
def Half (g n i : Nat) (X Z : Nat → Int) (arr : Array Value) (w : World) : Prop :=
  ∃ arr' : Array Value, w.heap[g]? = some (.cells arr' 104 (0,0)) ∧ arr'.size = arr.size ∧ (∀ j, j < i → arr'[1 + j]? = some (.int .u64 (Z j))) ∧ (∀ j, i ≤ j → j < n → arr'[1 + j]? = some (.int .u64 (X j))) ∧ ∀ p, p = 0 ∨ n + 1 ≤ p → arr'[p]? = arr[p]?

set_option maxRecDepth 100000 in
set_option maxHeartbeats 1000000 in
theorem addVW_any (g n cz cx : Nat) (c : Int) (X : Nat → Int) (arr : Array Value) (w : World) (hn : 1 ≤ n) (hn2 : n ≤ 1000) (hc0 : 0 ≤ c) (hc1 : c ≤ 1) (hW : Wrds X n) (hg : w.heap[g]? = some (.cells arr 104 (0,0))) (hs : n + 1 ≤ arr.size) (hX : ∀ j, j < n → arr[1 + j]? = some (.int .u64 (X j))) :
    Calls Yba.prog 44 #[.slice (some ⟨g, 1, none⟩) n cz, .slice (some ⟨g, 1, none⟩) n cx, .int .u64 c] w fun e w' => e = .returned (.int .u64 (car c X n)) ∧ Half g n n X (fun j => (X j + car c X j) % 18446744073709551616) arr w' ∧ Upd [g] w w' := by
  have HX : Hid (w.heap[g]? = some (.cells arr 104 (0,0)) ∧ ∀ j, j < n → arr[1 + j]? = some (.int .u64 (X j))) := ⟨hg, hX⟩
  have HW : Hid (Wrds X n) := hW
  have hpp : ∀ w : World, (binOp .neq 148 (.pointer (some ⟨g, 1, none⟩)) (.pointer (some ⟨g, 1, none⟩))).run Yba.prog w = .ok (.bool false) w := fun w => neq_word_same _ w
  have c1 : w.cell? ⟨g, 1, none⟩ = some (.int .u64 (X 0)) := (cell_at hg 1).trans (hX 0 (by omega))
  have hx0 := hW 0 (by omega)
  obtain ⟨z0, hz0⟩ : ∃ z0 : Int, z0 = (X 0 + car c X 0) % 18446744073709551616 := ⟨_, rfl⟩
  obtain ⟨q, hq⟩ : ∃ q : Int, q = car c X 1 := ⟨_, rfl⟩
  have Hcall : Calls Yba.prog 46 #[.int .u64 (X 0), .int .u64 c, .int .u64 0] w fun e w' => e = .returned (.tuple #[.int .u64 z0, .int .u64 q]) ∧ w' = w := by
    have h := Add_any (X 0) c 0 w hx0.1 hc0 (by omega) (by omega)
    have e1 : car c X 0 = c := rfl
    have e2 : car c X 1 = (X 0 + c) / 18446744073709551616 := rfl
    rw [hz0, hq, e1, e2]
    simp only [Int.add_zero] at h
    exact h
  have hq01 : 0 ≤ q ∧ q ≤ 1 := by
    rw [hq]
    exact car_ok ⟨hc0, hc1⟩ (fun k hk => hW k (by omega))
  -- a world in which the words below i are turned, and no carry goes on: all words are as they shall be
  have FIN : Hid (∀ (i : Nat) (w' : World), i ≤ n → car c X i = 0 → Half g n i X (fun j => (X j + car c X j) % 18446744073709551616) arr w' → car c X n = 0 ∧ Half g n n X (fun j => (X j + car c X j) % 18446744073709551616) arr w') := by
    intro i w' hi hz hH
    obtain ⟨arr', a1, a2, a3, a4, a5⟩ := hH
    refine ⟨car_dead hz hi hW, arr', a1, a2, fun j hj => ?_, fun j h1 h2 => by omega, a5⟩
    by_cases hji : j < i
    · exact a3 j hji
    · rw [a4 j (by omega) hj]
      have h0 := car_dead hz (j := j) (by omega) (fun k hk => hW k (by omega))
      have h1 := hW j hj
      simp only [h0]
      rw [show (X j + 0) % 18446744073709551616 = X j by omega]
  have f1 := free_at hg 1
  have hn' : ((n : Int) == 0) = false := by simp; omega
  have b0 : (0 : Int) < (n : Int) := by omega
  have HZ0 : Hid (z0 = (X 0 + car c X 0) % 18446744073709551616 ∧ q = car c X 1) := ⟨hz0, hq⟩
  have H0 : Hid (Half g n 1 X (fun j => (X j + car c X j) % 18446744073709551616) arr (w.setCell ⟨g, 1, none⟩ (.int .u64 z0))) := by
    refine ⟨_, set_at hg 1 _, by simp, ?_, ?_, ?_⟩
    · intro j hj
      obtain rfl : j = 0 := by omega
      rw [Array.getElem?_setIfInBounds_self_of_lt (by omega), hz0]
    · intro j h1 h2
      rw [Array.getElem?_setIfInBounds, if_neg (by omega)]
      exact hX j h2
    · intro p hp
      rw [Array.getElem?_setIfInBounds, if_neg (by omega)]
  have U0 : Hid (Upd [g] w (w.setCell ⟨g, 1, none⟩ (.int .u64 z0))) := Upd.setCell (Upd.refl _ _) (.inl (by simp)) _
  clear hg hX hW hz0 hq
  go_enter Yba.func44, Yba.ntmps44
  go_wp2_with fail
  refine Hcall.mono ?_
  rintro e w1 ⟨rfl, rfl⟩
  clear Hcall
  by_cases hq0 : q = 0
  · subst hq0
    obtain ⟨k1, k2⟩ := FIN.out 1 _ (by omega) HZ0.out.2.symm H0.out
    have K2 : Hid (Half g n n X (fun j => (X j + car c X j) % 18446744073709551616) arr (w1.setCell ⟨g, 1, none⟩ (.int .u64 z0))) := k2
    have K1 : Hid (car c X n = 0) := k1
    clear k1 k2
    go_wp2_with (go_quiet (fail))
    go_ret
    exact ⟨by rw [K1.out]; rfl, K2.out, U0.out.drewN _⟩
  · obtain rfl : q = 1 := by omega
    go_wp2_with fail
    go_loopw [9] (fun i wr => ∃ s : Nat, 1 ≤ s ∧ s ≤ n ∧ i = .int .i64 s ∧ Hid (car c X s = 1 ∧ Half g n s X (fun j => (X j + car c X j) % 18446744073709551616) arr wr ∧ Upd [g] w1 wr)) (fun i _ => n - (intOf i).toNat)
    case atStart => exact ⟨1, by omega, by omega, rfl, HZ0.out.2.symm, H0.out, U0.out⟩
    case round =>
      obtain ⟨s, hs1, hs2, rfl, hJ⟩ := hrel
      by_cases hsl : s < n
      · obtain ⟨arr', a1, a2, a3, a4, a5⟩ := hJ.out.2.1
        have d1 : wr.cell? ⟨g, 1 + s, none⟩ = some (.int .u64 (X s)) := (cell_at a1 (1 + s)).trans (a4 s (Nat.le_refl _) hsl)
        have g1 := free_at a1 (1 + s)
        have hxs := HW.out s hsl
        have STEP : Hid (∀ z : Int, z = (X s + 1) % 18446744073709551616 → Half g n (s + 1) X (fun j => (X j + car c X j) % 18446744073709551616) arr (wr.setCell ⟨g, 1 + s, none⟩ (.int .u64 z)) ∧ Upd [g] w1 (wr.setCell ⟨g, 1 + s, none⟩ (.int .u64 z))) := by
          intro z hz
          refine ⟨⟨_, set_at a1 (1 + s) _, by simpa using a2, ?_, ?_, ?_⟩, Upd.setCell hJ.out.2.2 (.inl (by simp)) _⟩
          · intro j hj
            by_cases hjs : j = s
            · subst hjs
              rw [Array.getElem?_setIfInBounds_self_of_lt (by omega), hz]
              simp only [hJ.out.1]
            · rw [Array.getElem?_setIfInBounds, if_neg (by omega)]
              exact a3 j (by omega)
          · intro j h1 h2
            rw [Array.getElem?_setIfInBounds, if_neg (by omega)]
            exact a4 j (by omega) h2
          · intro p hp
            rw [Array.getElem?_setIfInBounds, if_neg (by omega)]
            exact a5 p hp
        have hcs : Hid (car c X (s + 1) = (X s + 1) / 18446744073709551616) := by
          show car c X (s + 1) = _
          simp only [car, hJ.out.1]
        have b1 : (0 : Int) ≤ (s : Int) := by omega
        have b2 : (s : Int) < (n : Int) := by omega
        clear a1 a2 a3 a4 a5
        generalize X s = xs at *
        by_cases hfull : xs = 18446744073709551615
        · subst hfull
          have hst := STEP.out 0 (by decide)
          have HS : Hid (car c X (s + 1) = 1 ∧ Half g n (s + 1) X (fun j => (X j + car c X j) % 18446744073709551616) arr (wr.setCell ⟨g, 1 + s, none⟩ (.int .u64 0)) ∧ Upd [g] w1 (wr.setCell ⟨g, 1 + s, none⟩ (.int .u64 0))) := ⟨hcs.out.trans (by decide), hst.1, hst.2⟩
          clear hst
          go_wp2
          refine ⟨⟨s + 1, by omega, by omega, by go_num, HS⟩, by simp [intOf]; omega⟩
        · have hst := STEP.out (xs + 1) (by omega)
          have hfb : (xs == 18446744073709551615) = false := by simpa using hfull
          have hcz : car c X (s + 1) = 0 := by
            have h := hcs.out
            omega
          obtain ⟨k1, k2⟩ := FIN.out (s + 1) _ (by omega) hcz hst.1
          have K2 : Hid (Half g n n X (fun j => (X j + car c X j) % 18446744073709551616) arr (wr.setCell ⟨g, 1 + s, none⟩ (.int .u64 (xs + 1))) ∧ Upd [g] w1 (wr.setCell ⟨g, 1 + s, none⟩ (.int .u64 (xs + 1)))) := ⟨k2, hst.2⟩
          have K1 : Hid (car c X n = 0) := k1
          clear k1 k2 hst
          go_wp2_with (go_quiet (fail))
          go_ret
          exact ⟨by rw [K1.out]; rfl, K2.out.1, K2.out.2.drewN _⟩
      · obtain rfl : s = n := by omega
        go_wp2
        go_ret
        exact ⟨by rw [hJ.out.1]; rfl, hJ.out.2.1, hJ.out.2.2⟩

set_option maxRecDepth 100000 in
set_option maxHeartbeats 1000000 in
theorem subVW_any (g n cz cx : Nat) (c : Int) (X : Nat → Int) (arr : Array Value) (w : World) (hn : 1 ≤ n) (hn2 : n ≤ 1000) (hc0 : 0 ≤ c) (hc1 : c ≤ 1) (hW : Wrds X n) (hg : w.heap[g]? = some (.cells arr 104 (0,0))) (hs : n + 1 ≤ arr.size) (hX : ∀ j, j < n → arr[1 + j]? = some (.int .u64 (X j))) :
    Calls Yba.prog 48 #[.slice (some ⟨g, 1, none⟩) n cz, .slice (some ⟨g, 1, none⟩) n cx, .int .u64 c] w fun e w' => e = .returned (.int .u64 (bor c X n)) ∧ Half g n n X (fun j => (X j - bor c X j) % 18446744073709551616) arr w' ∧ Upd [g] w w' := by
  have HX : Hid (w.heap[g]? = some (.cells arr 104 (0,0)) ∧ ∀ j, j < n → arr[1 + j]? = some (.int .u64 (X j))) := ⟨hg, hX⟩
  have HW : Hid (Wrds X n) := hW
  have hpp : ∀ w : World, (binOp .neq 148 (.pointer (some ⟨g, 1, none⟩)) (.pointer (some ⟨g, 1, none⟩))).run Yba.prog w = .ok (.bool false) w := fun w => neq_word_same _ w
  have c1 : w.cell? ⟨g, 1, none⟩ = some (.int .u64 (X 0)) := (cell_at hg 1).trans (hX 0 (by omega))
  have hx0 := hW 0 (by omega)
  obtain ⟨z0, hz0⟩ : ∃ z0 : Int, z0 = (X 0 - bor c X 0) % 18446744073709551616 := ⟨_, rfl⟩
  obtain ⟨q, hq⟩ : ∃ q : Int, q = bor c X 1 := ⟨_, rfl⟩
  have Hcall : Calls Yba.prog 49 #[.int .u64 (X 0), .int .u64 c, .int .u64 0] w fun e w' => e = .returned (.tuple #[.int .u64 z0, .int .u64 q]) ∧ w' = w := by
    have h := Sub_any (X 0) c 0 w hx0.1 hx0.2 hc0 (by omega) (by omega) (by omega)
    have e1 : bor c X 0 = c := rfl
    have e2 : bor c X 1 = (if X 0 < c then 1 else 0) := rfl
    rw [hz0, hq, e1, e2]
    simp only [Int.add_zero, Int.sub_zero] at h
    exact h
  have hq01 : 0 ≤ q ∧ q ≤ 1 := by
    rw [hq]
    exact bor_ok ⟨hc0, hc1⟩ 1
  -- a world in which the words below i are turned, and no carry goes on: all words are as they shall be
  have FIN : Hid (∀ (i : Nat) (w' : World), i ≤ n → bor c X i = 0 → Half g n i X (fun j => (X j - bor c X j) % 18446744073709551616) arr w' → bor c X n = 0 ∧ Half g n n X (fun j => (X j - bor c X j) % 18446744073709551616) arr w') := by
    intro i w' hi hz hH
    obtain ⟨arr', a1, a2, a3, a4, a5⟩ := hH
    refine ⟨bor_dead hz hi hW, arr', a1, a2, fun j hj => ?_, fun j h1 h2 => by omega, a5⟩
    by_cases hji : j < i
    · exact a3 j hji
    · rw [a4 j (by omega) hj]
      have h0 := bor_dead hz (j := j) (by omega) (fun k hk => hW k (by omega))
      have h1 := hW j hj
      simp only [h0]
      rw [show (X j - 0) % 18446744073709551616 = X j by omega]
  have f1 := free_at hg 1
  have hn' : ((n : Int) == 0) = false := by simp; omega
  have b0 : (0 : Int) < (n : Int) := by omega
  have HZ0 : Hid (z0 = (X 0 - bor c X 0) % 18446744073709551616 ∧ q = bor c X 1) := ⟨hz0, hq⟩
  have H0 : Hid (Half g n 1 X (fun j => (X j - bor c X j) % 18446744073709551616) arr (w.setCell ⟨g, 1, none⟩ (.int .u64 z0))) := by
    refine ⟨_, set_at hg 1 _, by simp, ?_, ?_, ?_⟩
    · intro j hj
      obtain rfl : j = 0 := by omega
      rw [Array.getElem?_setIfInBounds_self_of_lt (by omega), hz0]
    · intro j h1 h2
      rw [Array.getElem?_setIfInBounds, if_neg (by omega)]
      exact hX j h2
    · intro p hp
      rw [Array.getElem?_setIfInBounds, if_neg (by omega)]
  have U0 : Hid (Upd [g] w (w.setCell ⟨g, 1, none⟩ (.int .u64 z0))) := Upd.setCell (Upd.refl _ _) (.inl (by simp)) _
  clear hg hX hW hz0 hq
  go_enter Yba.func48, Yba.ntmps48
  go_wp2_with fail
  refine Hcall.mono ?_
  rintro e w1 ⟨rfl, rfl⟩
  clear Hcall
  by_cases hq0 : q = 0
  · subst hq0
    obtain ⟨k1, k2⟩ := FIN.out 1 _ (by omega) HZ0.out.2.symm H0.out
    have K2 : Hid (Half g n n X (fun j => (X j - bor c X j) % 18446744073709551616) arr (w1.setCell ⟨g, 1, none⟩ (.int .u64 z0))) := k2
    have K1 : Hid (bor c X n = 0) := k1
    clear k1 k2
    go_wp2_with (go_quiet (fail))
    go_ret
    exact ⟨by rw [K1.out]; rfl, K2.out, U0.out.drewN _⟩
  · obtain rfl : q = 1 := by omega
    go_wp2_with fail
    go_loopw [9] (fun i wr => ∃ s : Nat, 1 ≤ s ∧ s ≤ n ∧ i = .int .i64 s ∧ Hid (bor c X s = 1 ∧ Half g n s X (fun j => (X j - bor c X j) % 18446744073709551616) arr wr ∧ Upd [g] w1 wr)) (fun i _ => n - (intOf i).toNat)
    case atStart => exact ⟨1, by omega, by omega, rfl, HZ0.out.2.symm, H0.out, U0.out⟩
    case round =>
      obtain ⟨s, hs1, hs2, rfl, hJ⟩ := hrel
      by_cases hsl : s < n
      · obtain ⟨arr', a1, a2, a3, a4, a5⟩ := hJ.out.2.1
        have d1 : wr.cell? ⟨g, 1 + s, none⟩ = some (.int .u64 (X s)) := (cell_at a1 (1 + s)).trans (a4 s (Nat.le_refl _) hsl)
        have g1 := free_at a1 (1 + s)
        have hxs := HW.out s hsl
        have STEP : Hid (∀ z : Int, z = (X s - 1) % 18446744073709551616 → Half g n (s + 1) X (fun j => (X j - bor c X j) % 18446744073709551616) arr (wr.setCell ⟨g, 1 + s, none⟩ (.int .u64 z)) ∧ Upd [g] w1 (wr.setCell ⟨g, 1 + s, none⟩ (.int .u64 z))) := by
          intro z hz
          refine ⟨⟨_, set_at a1 (1 + s) _, by simpa using a2, ?_, ?_, ?_⟩, Upd.setCell hJ.out.2.2 (.inl (by simp)) _⟩
          · intro j hj
            by_cases hjs : j = s
            · subst hjs
              rw [Array.getElem?_setIfInBounds_self_of_lt (by omega), hz]
              simp only [hJ.out.1]
            · rw [Array.getElem?_setIfInBounds, if_neg (by omega)]
              exact a3 j (by omega)
          · intro j h1 h2
            rw [Array.getElem?_setIfInBounds, if_neg (by omega)]
            exact a4 j (by omega) h2
          · intro p hp
            rw [Array.getElem?_setIfInBounds, if_neg (by omega)]
            exact a5 p hp
        have hcs : Hid (bor c X (s + 1) = if X s < 1 then 1 else 0) := by
          show bor c X (s + 1) = _
          simp only [bor, hJ.out.1]
        have b1 : (0 : Int) ≤ (s : Int) := by omega
        have b2 : (s : Int) < (n : Int) := by omega
        clear a1 a2 a3 a4 a5
        generalize X s = xs at *
        by_cases hfull : xs = 0
        · subst hfull
          have hst := STEP.out 18446744073709551615 (by decide)
          have HS : Hid (bor c X (s + 1) = 1 ∧ Half g n (s + 1) X (fun j => (X j - bor c X j) % 18446744073709551616) arr (wr.setCell ⟨g, 1 + s, none⟩ (.int .u64 18446744073709551615)) ∧ Upd [g] w1 (wr.setCell ⟨g, 1 + s, none⟩ (.int .u64 18446744073709551615))) := ⟨hcs.out.trans (by decide), hst.1, hst.2⟩
          clear hst
          go_wp2
          refine ⟨⟨s + 1, by omega, by omega, by go_num, HS⟩, by simp [intOf]; omega⟩
        · have hst := STEP.out (xs - 1) (by omega)
          have hfb : (xs == 0) = false := by simpa using hfull
          have hcz : bor c X (s + 1) = 0 := by
            have h := hcs.out
            rw [if_neg (by omega)] at h; exact h
          obtain ⟨k1, k2⟩ := FIN.out (s + 1) _ (by omega) hcz hst.1
          have K2 : Hid (Half g n n X (fun j => (X j - bor c X j) % 18446744073709551616) arr (wr.setCell ⟨g, 1 + s, none⟩ (.int .u64 (xs - 1))) ∧ Upd [g] w1 (wr.setCell ⟨g, 1 + s, none⟩ (.int .u64 (xs - 1)))) := ⟨k2, hst.2⟩
          have K1 : Hid (bor c X n = 0) := k1
          clear k1 k2 hst
          go_wp2_with (go_quiet (fail))
          go_ret
          exact ⟨by rw [K1.out]; rfl, K2.out.1, K2.out.2.drewN _⟩
      · obtain rfl : s = n := by omega
        go_wp2
        go_ret
        exact ⟨by rw [hJ.out.1]; rfl, hJ.out.2.1, hJ.out.2.2⟩

end Go.Proofs.Ybulkcspi
