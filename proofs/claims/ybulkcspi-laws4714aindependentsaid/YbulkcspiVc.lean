/-
  VALUE, THIRD PART: setBytes 40, SetBytes 20.
-/
import Derived.Test.YbulkcspiVb
namespace Go.Proofs.Ybulkcspi
open Go.RowKit Go.Lib
attribute [local go_sem ↓] Go.wp_at_zero Go.wp_at_succ

theorem or_step (d y : Int) (t : Nat) (ht : t ≤ 7) (hd : 0 ≤ d ∧ d < 256 ^ t) (hy : 0 ≤ y ∧ y ≤ 255) : bits .or .u64 d (IntKind.u64.wrap (y * 2 ^ (8 * t))) = d + y * 256 ^ t := by
  obtain ⟨hd0, hd1⟩ := hd
  have key : ∀ p : Int, 0 ≤ y * p → y * p < 18446744073709551616 → IntKind.u64.wrap (y * p) = y * p := fun p h0 h1 => u64_wrap_id _ h0 h1
  rcases (by omega : t = 0 ∨ t = 1 ∨ t = 2 ∨ t = 3 ∨ t = 4 ∨ t = 5 ∨ t = 6 ∨ t = 7) with rfl | rfl | rfl | rfl | rfl | rfl | rfl | rfl
  all_goals simp only [Nat.reduceMul, Nat.mul_zero, Int.reducePow, Int.pow_zero] at hd1 ⊢
  · obtain rfl : d = 0 := by omega
    rw [key 1 (by omega) (by omega)]
    exact bits_join_low .u64 64 (by decide) wraps_u64 0 0 (y * 1) (by omega) (by decide) (by decide) (by omega) (by omega) (by omega)
  · rw [key _ (by omega) (by omega)]; exact u64_or8 _ _ hd0 hd1 (by omega) (by omega) (by omega)
  · rw [key _ (by omega) (by omega)]; exact u64_or16 _ _ hd0 hd1 (by omega) (by omega) (by omega)
  · rw [key _ (by omega) (by omega)]; exact u64_or24 _ _ hd0 hd1 (by omega) (by omega) (by omega)
  · rw [key _ (by omega) (by omega)]; exact u64_or32 _ _ hd0 hd1 (by omega) (by omega) (by omega)
  · rw [key _ (by omega) (by omega)]; exact u64_or40 _ _ hd0 hd1 (by omega) (by omega) (by omega)
  · rw [key _ (by omega) (by omega)]; exact u64_or48 _ _ hd0 hd1 (by omega) (by omega) (by omega)
  · rw [key _ (by omega) (by omega)]; exact u64_or56 _ _ hd0 hd1 (by omega) (by omega) (by omega)

def wordVals (bs : List Int) (m : Nat) : List Value := (List.range m).map fun k => Value.int .u64 (word bs k)
theorem wordVals_len (bs : List Int) (m : Nat) : (wordVals bs m).length = m := by simp [wordVals]
theorem wordVals_at {bs : List Int} {m k : Nat} (h : k < m) : (wordVals bs m)[k]? = some (.int .u64 (word bs k)) := by simp [wordVals, h]
/-- There is room for a carry, or hardly a word. -/
def Roomy (v : Value) (m : Nat) : Prop := ∀ a n c, v = .slice a n c → m ≤ 1 ∨ m + 1 ≤ c
/-- A natural number of math/big: the bytes' words, no 0 at the top. -/
def IsNat (B : Nat) (w : World) (v : Value) (bs : List Int) : Prop :=
  ∃ m, m ≤ 200 ∧ w.ownsRow B 104 1 v m (wordVals bs m) ∧ (∀ k, m ≤ k → word bs k = 0) ∧ (m = 0 ∨ word bs (m - 1) ≠ 0) ∧ Roomy v m

set_option maxRecDepth 100000 in
set_option maxHeartbeats 2000000 in
theorem setBytes_any (L c : Nat) (a : Option Addr) (bs : List Int) (w : World) (hL : L ≤ 1024) (hLc : L ≤ c) (hB : Byts w a L bs) :
    Calls Yba.prog 40 #[.slice none 0 0, .slice a L c] w fun e w' => ∃ v, e = .returned v ∧ IsNat w.heap.size w' v bs ∧ Upd [] w w' := by
  by_cases h0 : L = 0
  · subst h0
    have hb0 : bs = [] := List.eq_nil_of_length_eq_zero hB.1
    have hz : ∀ k, word bs k = 0 := fun k => word_far (by rw [hB.1]; omega)
    clear hB
    go_enter Yba.func40, Yba.ntmps40
    go_wp2_with fail
    refine (make_none w).mono ?_
    rintro e w1 ⟨rfl, rfl⟩
    go_wp2_with fail
    go_loop [5, 6] (fun i k => i = .int .i64 0 ∧ k = .int .i64 0) (fun _ _ => 0)
    case atStart => exact ⟨rfl, rfl⟩
    case round =>
      obtain ⟨rfl, rfl⟩ := hrel
      go_wp2_with fail
      refine (norm_none w1).mono ?_
      rintro e w2 ⟨rfl, rfl⟩
      go_wp2
      go_ret
      exact ⟨_, rfl, ⟨0, by omega, World.ownsRow_nil _ _ _ _, fun k _ => hz k, .inl rfl, fun _ _ _ _ => .inl (by omega)⟩, Upd.refl _ _⟩
  · obtain ⟨bg, bo, ha, hcells⟩ := hB.flat (by omega)
    subst ha
    have HB : Hid (bs.length = L ∧ Octets bs ∧ ∀ i, i < L → w.cell? ⟨bg, bo + i, none⟩ = some (.int .u8 (bs.getD i 0))) := ⟨hB.1, hB.2.2.2, hcells⟩
    obtain ⟨n, hn⟩ : ∃ n : Nat, ((L : Int) + 8 - 1) / 8 = (n : Int) := ⟨(((L : Int) + 8 - 1) / 8).toNat, by omega⟩
    have hn1 : 1 ≤ n := by omega
    have hn2 : n ≤ 200 := by omega
    have hn3 : 8 * n ≤ L + 7 := by omega
    have hn4 : L ≤ 8 * n := by omega
    clear hB hcells
    go_enter Yba.func40, Yba.ntmps40
    go_wp2_with fail
    refine (make_nil n w hn1 (by omega)).mono ?_
    rintro e w1 ⟨cap, rfl, hc1, hc2, hc3, rfl⟩
    obtain ⟨g, hg⟩ : ∃ g, w.heap.size = g := ⟨_, rfl⟩
    rw [hg]
    go_wp2_with fail
    clear hn
    go_loopw [5, 6] (fun i k wr => ∃ (q r : Nat) (arr : Array Value), 8 * q + r = L ∧ i = .int .i64 r ∧ k = .int .i64 q ∧ Hid (wr.heap[g]? = some (.cells arr 104 (0,0)) ∧ arr.size = cap ∧ (∀ j, j < q → arr[j]? = some (.int .u64 (word bs j))) ∧ Upd [] w wr)) (fun i _ _ => (intOf i).toNat)
    case atStart => exact ⟨0, L, _, by omega, rfl, rfl, heap_last _ _ _ hg.symm, size_madeCells _ _, fun j hj => by omega, Upd.alloc (Upd.refl _ _) _⟩
    case round =>
      obtain ⟨q, r, arr, hqr, rfl, rfl, hI⟩ := hrel
      by_cases hr : 8 ≤ r
      · obtain ⟨r', rfl⟩ : ∃ r', r = r' + 8 := ⟨r - 8, by omega⟩
        have e0 : ((r' + 8 : Nat) : Int) - 8 = (r' : Int) := by omega
        have hqn : q < n := by omega
        have Hw := bew_any bg (bo + r') (c - r') (fun i => bs.getD (r' + i) 0) wr (fun i hi => by
          rw [Nat.add_assoc]
          exact hI.out.2.2.2.cell (HB.out.2.2 (r' + i) (by omega)) (by simp)) (fun i => getD_ok HB.out.2.1 _)
        have ew : wsum (fun i => bs.getD (r' + (7 - i)) 0) 8 = word bs q := by
          refine wsum_congr 8 _ _ (fun i hi => ?_)
          unfold le
          rw [if_pos (by rw [HB.out.1]; omega), HB.out.1, show L - 1 - (8 * q + i) = r' + (7 - i) by omega]
        rw [ew] at Hw
        clear ew
        have b1 : (0 : Int) ≤ (r' : Int) := by omega
        have b2 : (r' : Int) + 8 ≤ (c : Int) := by omega
        go_wp2_with fail
        refine Hw.mono ?_
        rintro e w1 ⟨rfl, hu1⟩
        have hqa : q < arr.size := by rw [hI.out.2.1]; omega
        have hg1 : w1.heap[g]? = some (.cells arr 104 (0,0)) := hu1.keep hI.out.1 (by simp)
        have c1 : w1.cell? ⟨g, q, none⟩ = some (arr[q]'hqa) := (cell_at hg1 q).trans (Array.getElem?_eq_getElem _)
        have f1 := free_at hg1 q
        generalize arr[q]'hqa = old at c1
        have Hg1 : Hid (w1.heap[g]? = some (.cells arr 104 (0,0)) ∧ Upd [] w w1) := ⟨hg1, hI.out.2.2.2.transTo hu1 (by simp)⟩
        have b3 : (0 : Int) ≤ (q : Int) := by omega
        have b4 : (q : Int) < (n : Int) := by omega
        clear hg1 hu1 Hw
        go_wp2
        refine ⟨⟨q + 1, r', _, by omega, by go_num, by go_num, set_at Hg1.out.1 q _, by simpa using hI.out.2.1, ?_, ?_⟩, by simp [intOf]; omega⟩
        · intro j hj
          by_cases hjq : j = q
          · subst hjq
            exact Array.getElem?_setIfInBounds_self_of_lt hqa
          · rw [Array.getElem?_setIfInBounds, if_neg (fun e => hjq e.symm)]
            exact hI.out.2.2.1 j (by omega)
        · exact Upd.setCell Hg1.out.2 (.inr (by simp; omega)) _
      · by_cases hr0 : r = 0
        · subst hr0
          obtain rfl : q = n := by omega
          have Hn := norm_any g q cap (word bs) arr wr hI.out.1 hI.out.2.2.1 hc1 (by omega)
          go_wp2_with fail
          refine Hn.mono ?_
          rintro e w1 ⟨m, rfl, rfl, hm1, hm2, hm3⟩
          go_wp2
          go_ret
          refine ⟨_, rfl, ⟨m, by omega, ⟨by rw [wordVals_len]; omega, .inr ⟨g, cap, arr, rfl, by omega, hI.out.1, by omega, by unfold maxLen; omega, by rw [hI.out.2.1]; omega, ?_⟩⟩, ?_, hm3, fun _ _ _ h => by cases h; omega⟩, hI.out.2.2.2⟩
          · apply List.ext_getElem?
            intro j
            rw [List.getElem?_take]
            by_cases hj : j < m
            · rw [if_pos (by omega), Array.getElem?_toList, hI.out.2.2.1 j (by omega), wordVals_at hj]
            · rw [if_neg (by omega), List.getElem?_eq_none (by rw [wordVals_len]; omega)]
          · intro k hk
            by_cases hkq : k < q
            · exact hm2 k hk hkq
            · exact word_far (by rw [HB.out.1]; omega)
        · go_wp2_with fail
          go_loop [5, 7, 8] (fun i d sh => ∃ (u t : Nat), u + t = r ∧ i = .int .i64 u ∧ d = .int .u64 (wsum (fun i => le bs (8 * q + i)) t) ∧ sh = .int .u64 ((8 * t : Nat) : Int)) (fun i _ _ => (intOf i).toNat)
          case atStart => exact ⟨r, 0, by omega, rfl, rfl, rfl⟩
          case round =>
            obtain ⟨u, t, hut, rfl, rfl, rfl⟩ := hrel
            cases u with
            | succ u' =>
              have e0 : ((u' + 1 : Nat) : Int) - 1 = (u' : Int) := by omega
              have cb : wr.cell? ⟨bg, bo + u', none⟩ = some (.int .u8 (bs.getD u' 0)) := hI.out.2.2.2.cell (HB.out.2.2 u' (by omega)) (by simp)
              have hle : bs.getD u' 0 = le bs (8 * q + t) := by
                unfold le
                rw [if_pos (by rw [HB.out.1]; omega), HB.out.1, show L - 1 - (8 * q + t) = u' by omega]
              rw [hle] at cb
              have hlb := le_ok HB.out.2.1 (8 * q + t)
              have hws := wsum_ok t (fun i => le bs (8 * q + i)) (fun _ => le_ok HB.out.2.1 _)
              have hsn := wsum_snoc t (fun i => le bs (8 * q + i))
              have b1 : (0 : Int) ≤ (u' : Int) := by omega
              have b2 : (u' : Int) < (L : Int) := by omega
              generalize le bs (8 * q + t) = y at cb hlb hsn
              generalize wsum (fun i => le bs (8 * q + i)) t = d at *
              go_wp2
              refine ⟨⟨u', t + 1, by omega, rfl, ?_, ?_⟩, by simp [intOf]⟩
              · rw [or_step d y t (by omega) hws hlb, hsn]
              · simp only [Value.int.injEq, true_and]; omega
            | zero =>
              obtain rfl : t = r := by omega
              obtain rfl : n = q + 1 := by omega
              have hqa : q < arr.size := by rw [hI.out.2.1]; omega
              have c1 : wr.cell? ⟨g, q, none⟩ = some (arr[q]'hqa) := (cell_at hI.out.1 q).trans (Array.getElem?_eq_getElem _)
              have f1 := free_at hI.out.1 q
              generalize arr[q]'hqa = old at c1
              have ew : wsum (fun i => le bs (8 * q + i)) t = word bs q := by
                have := wsum_cut t (fun i => le bs (8 * q + i)) (8 - t) (fun i hi => le_far (by rw [HB.out.1]; omega))
                rw [show t + (8 - t) = 8 by omega] at this
                exact this.symm
              rw [ew]
              clear ew
              have e1 : ((q + 1 : Nat) : Int) - 1 = (q : Int) := by omega
              have b3 : (0 : Int) ≤ (q : Int) := by omega
              have hg2 := set_at hI.out.1 q (.int .u64 (word bs q))
              have ha2 : ∀ j, j < q + 1 → (arr.setIfInBounds q (.int .u64 (word bs q)))[j]? = some (.int .u64 (word bs j)) := by
                intro j hj
                by_cases hjq : j = q
                · subst hjq
                  exact Array.getElem?_setIfInBounds_self_of_lt hqa
                · rw [Array.getElem?_setIfInBounds, if_neg (fun e => hjq e.symm)]
                  exact hI.out.2.2.1 j (by omega)
              have Hn := norm_any g (q + 1) cap (word bs) _ _ hg2 ha2 hc1 (by omega)
              have U2 : Hid (Upd [] w (wr.setCell ⟨g, q, none⟩ (.int .u64 (word bs q)))) := Upd.setCell hI.out.2.2.2 (.inr (by simp; omega)) _
              have HA : Hid ((wr.setCell ⟨g, q, none⟩ (.int .u64 (word bs q))).heap[g]? = some (.cells (arr.setIfInBounds q (.int .u64 (word bs q))) 104 (0,0)) ∧ (arr.setIfInBounds q (.int .u64 (word bs q))).size = cap ∧ ∀ j, j < q + 1 → (arr.setIfInBounds q (.int .u64 (word bs q)))[j]? = some (.int .u64 (word bs j))) := ⟨hg2, by simpa using hI.out.2.1, ha2⟩
              clear hg2 ha2
              go_wp2_with fail
              refine Hn.mono ?_
              rintro e w1 ⟨m, rfl, rfl, hm1, hm2, hm3⟩
              go_wp2
              go_ret
              refine ⟨_, rfl, ⟨m, by omega, ⟨by rw [wordVals_len]; omega, .inr ⟨g, cap, _, rfl, by omega, HA.out.1, by omega, by unfold maxLen; omega, by rw [HA.out.2.1]; omega, ?_⟩⟩, ?_, hm3, fun _ _ _ h => by cases h; omega⟩, U2.out⟩
              · apply List.ext_getElem?
                intro j
                rw [List.getElem?_take]
                by_cases hj : j < m
                · rw [if_pos (by omega), Array.getElem?_toList, HA.out.2.2 j (by omega), wordVals_at hj]
                · rw [if_neg (by omega), List.getElem?_eq_none (by rw [wordVals_len]; omega)]
              · intro k hk
                by_cases hkq : k < q + 1
                · exact hm2 k hk hkq
                · exact word_far (by rw [HB.out.1]; omega)

end Go.Proofs.Ybulkcspi
