/-
  WALKS, SIXTH PART: the law LawS4712BEmpties.
-/
import Derived.Test.YbulkcsogWe
namespace Go.Proofs.Ybulkcsog
open Go.RowKit Go.Lib
attribute [local go_sem ↓] Go.wp_at_zero Go.wp_at_succ

set_option maxRecDepth 100000 in
set_option maxHeartbeats 2000000 in
theorem empties_any (ns c nu d : Nat) (a b : Option Addr) (rs : List Row) (us : List ByteArray) (sel : Int) (w : World) (hns : ns ≤ maxLen) (hnu : nu ≤ maxLen) (h0 : 0 ≤ sel) (h1 : sel ≤ 255) (hS : Subs w a ns rs) (hU : Strs w b nu us) :
    Calls Yba.prog 4 #[.slice a ns c, .slice b nu d, .int .u8 sel] w
      fun e w' => e = .returned (.bool true) ∧ Below w.heap.size w w' := by
  obtain ⟨k0, hk, hx0, hx1, hx2⟩ := info_parts Yba.info9
  have HS : Hid (Subs w a ns rs) := hS
  have HU : Hid (Strs w b nu us) := hU
  clear hS hU
  go_enter Yba.func4, Yba.ntmps4
  go_wp2_with fail
  refine (small_any ns c nu d a b rs w hns hnu HS.out).mono ?_
  rintro e w1 ⟨rfl, ok, rfl, hok⟩
  cases ok with
  | false =>
    go_wp2
    go_ret
    exact ⟨rfl, Below.refl _ _⟩
  | true =>
    obtain ⟨hn1, hn2, hn3⟩ := hok rfl
    clear hok hns hnu
    have H3 : Hid (∀ (i : Nat) (r : Row), rs[i]? = some r → r.2.1 ≤ 4096) := hn3
    clear hn3
    go_wp2_with fail
    refine (build_any ns c nu d a b rs us w1 hn1 hn2 H3.out HS.out HU.out).mono ?_
    rintro e w2 HB
    obtain ⟨pb, csb, n', cc, ul, parr, carr, R, rfl, p1, p2, p3, p4, p5, p6, p7, p8, p9, p10, p11, p12, p13, p14⟩ := HB
    have hi0 := Int.emod_nonneg sel (show (n' : Int) ≠ 0 by omega)
    have hi1 := Int.emod_lt_of_pos sel (show 0 < (n' : Int) by omega)
    obtain ⟨i, hi⟩ : ∃ i : Nat, sel % (n' : Int) = (i : Int) := ⟨(sel % (n' : Int)).toNat, by omega⟩
    have hin : i < n' := by omega
    have hR : i < R.length := by omega
    have hRi : R[i]? = some (R[i]'hR) := List.getElem?_eq_getElem _
    generalize R[i]'hR = ss at hRi
    obtain ⟨v, hv1, ra, n, rc, hv2, hv3, hv4, hv5, hv6, hv7⟩ := p12 i ss hRi
    subst hv2
    have P1 : Hid (w2.heap[pb]? = some (.cells parr 88 (0,0)) ∧ parr.size = 113 ∧ parr[64]? = some (.slice (some ⟨csb, 0, none⟩) n' cc) ∧ parr[68]? = some ul) := ⟨p1, p2, p3, p4⟩
    have P5 : Hid (w2.heap[csb]? = some (.cells carr 67 (0,0)) ∧ n' ≤ carr.size ∧ carr[i]? = some (.slice ra n rc)) := ⟨p5, p6, hv1⟩
    have PR : Hid (∀ x, ra = some x → ∃ rb arr, x = ⟨rb, 0, none⟩ ∧ w1.heap.size ≤ rb ∧ w2.heap[rb]? = some (.cells arr 49 (0,0)) ∧ n * 4 ≤ arr.size ∧ ∀ (m : Nat) (s : ByteArray), m < n → ss[m]? = some s → arr[m * 4]? = some (.string s)) := hv7
    have PU : Hid (w2.ownsRow w1.heap.size 9 1 ul nu (strVals us)) := p13
    have UW : Hid (Upd [] w1 w2) := p14
    have HV3 : Hid (ra = none → n = 0) := hv3
    have HV4 : Hid (ss.length = n) := hv4
    clear hv1 hv3 hv4 hv7 p1 p2 p3 p4 p5 p6 p11 p12 p13 p14 hRi hR
    have c1 : w2.cell? ⟨pb, 64, none⟩ = some (.slice (some ⟨csb, 0, none⟩) n' cc) := (cell_at P1.out.1 64).trans P1.out.2.2.1
    have c2 : w2.cell? ⟨csb, i, none⟩ = some (.slice ra n rc) := (cell_at P5.out.1 i).trans P5.out.2.2
    have d1 : ((n' : Int) == 0) = false := by simp; omega
    have b1 : (0 : Int) ≤ (i : Int) := by omega
    have b2 : (i : Int) < (n' : Int) := by omega
    go_wp2_with (at_make; go_must (refine wpList_make_row _ rfl _ _ _ rfl 9 k0 _ Yba.underlying54 hk hx0 hx1 (by rfl) _ _ n rfl rfl (by rw [hx2]; omega) (by omega) ?_))
    clear c1 c2 d1 hi0 hi1 hi
    obtain ⟨g, hg⟩ : ∃ g, w2.heap.size = g := ⟨_, rfl⟩
    rw [hg]
    go_loopw [10] (fun j wr => ∃ (m : Nat) (barr : Array Value), m ≤ n ∧ j = .int .i64 m ∧ Hid (wr.heap[g]? = some (.cells barr 9 (0,0)) ∧ barr.size = n ∧ (∀ (t : Nat) (s : ByteArray), t < m → ss[t]? = some s → barr[t]? = some (.string s)) ∧ Upd [] w2 wr)) (fun j _ => n - (intOf j).toNat)
    case atStart => exact ⟨0, _, by omega, rfl, heap_last _ _ _ hg.symm, by simp [madeCells], fun t s h => by omega, Upd.alloc (Upd.refl _ _) _⟩
    case round =>
      obtain ⟨m, barr, hm, rfl, hI⟩ := hrel
      by_cases hml : m < n
      · have hsl : m < ss.length := by rw [HV4.out]; exact hml
        have hs : ss[m]? = some (ss[m]'hsl) := List.getElem?_eq_getElem hsl
        generalize ss[m]'hsl = s at hs
        obtain ⟨y, hy⟩ : ∃ y, ra = some y := by
          cases h : ra with
          | none => have := HV3.out h; omega
          | some z => exact ⟨z, rfl⟩
        obtain ⟨rb, arr, hrb, hr0, hr1, hr2, hr3⟩ := PR.out y hy
        subst hrb
        subst hy
        have c1 : wr.cell? ⟨pb, 64, none⟩ = some (.slice (some ⟨csb, 0, none⟩) n' cc) := (cell_at (hI.out.2.2.2.keep P1.out.1 (by simp)) 64).trans P1.out.2.2.1
        have c2 : wr.cell? ⟨csb, i, none⟩ = some (.slice (some ⟨rb, 0, none⟩) n rc) := (cell_at (hI.out.2.2.2.keep P5.out.1 (by simp)) i).trans P5.out.2.2
        have c3 : wr.cell? ⟨rb, m * 4, none⟩ = some (.string s) := (cell_at (hI.out.2.2.2.keep hr1 (by simp)) _).trans (hr3 m s hml hs)
        have hmb : m < barr.size := by rw [hI.out.2.1]; exact hml
        have c4 : wr.cell? ⟨g, m, none⟩ = some (barr[m]'hmb) := (cell_at hI.out.1 m).trans (Array.getElem?_eq_getElem _)
        have f4 := free_at hI.out.1 m
        generalize barr[m]'hmb = old at c4
        have Hs : Hid (ss[m]? = some s) := hs
        clear hs hr1 hr3
        go_wp2
        refine ⟨⟨m + 1, _, by omega, by go_num, set_at hI.out.1 m _, by simp [hI.out.2.1], ?_, ?_⟩, by simp [intOf]; omega⟩
        · intro t s' ht hs'
          by_cases htm : t = m
          · subst htm
            obtain rfl : s' = s := Option.some.inj (hs'.symm.trans Hs.out)
            rw [Array.getElem?_setIfInBounds_self_of_lt hmb]
          · rw [Array.getElem?_setIfInBounds, if_neg (fun e => htm e.symm)]
            exact hI.out.2.2.1 t s' (by omega) hs'
        · exact Upd.setCell hI.out.2.2.2 (.inr (by simp; omega)) _
      · obtain rfl : m = n := by omega
        have hd : ss.drop m = [] := List.drop_eq_nil_of_le (by rw [HV4.out]; exact Nat.le_refl _)
        have HL : Hid (Links w1.heap.size pb csb n' cc i m m rc nu ra ss (strVals us) wr ul parr carr) := by
          refine ⟨hI.out.2.2.2.keep P1.out.1 (by simp), P1.out.2.1, P1.out.2.2.1, P1.out.2.2.2, hI.out.2.2.2.keep P5.out.1 (by simp), P5.out.2.1, P5.out.2.2, ?_, ?_⟩
          · intro x hx
            obtain ⟨rb, arr, r1, r2, r3, r4, r5⟩ := PR.out x hx
            exact ⟨rb, arr, r1, hI.out.2.2.2.keep r3 (by simp), r4, r5⟩
          · rw [hd]
            simpa [strVals] using hI.out.2.2.2.owns PU.out (by simp)
        have hszr : w1.heap.size ≤ wr.heap.size := by have := hI.out.2.2.2.size; have := UW.out.size; omega
        have hng : g ∉ turned pb csb ra ul := by
          have e1 := lt_of_heap P1.out.1
          have e2 := lt_of_heap P5.out.1
          intro hm
          simp only [turned, List.mem_cons, List.mem_append, Option.mem_toList] at hm
          rcases hm with h | h | h | h
          · omega
          · omega
          · cases hra : ra with
            | none => rw [hra] at h; simp at h
            | some x =>
              obtain ⟨rb, arr, r1, r2, r3, _⟩ := PR.out x hra
              have := lt_of_heap r3
              rw [hra, r1] at h
              simp at h
              omega
          · obtain ⟨cur, q1, _⟩ := owns_block PU.out h
            have := lt_of_heap q1
            omega
        have hnt : ∀ j, j ∈ turned pb csb ra ul → w1.heap.size ≤ j := by
          intro j hj
          simp only [turned, List.mem_cons, List.mem_append, Option.mem_toList] at hj
          rcases hj with h | h | h | h
          · omega
          · omega
          · cases hra : ra with
            | none => rw [hra] at h; simp at h
            | some x =>
              obtain ⟨rb, arr, r1, r2, r3, _⟩ := PR.out x hra
              rw [hra, r1] at h
              simp at h
              omega
          · obtain ⟨cur, _, q1⟩ := owns_block PU.out h
            omega
        go_wp2_with fail
        refine (removeLinks_any w1.heap.size pb csb n' cc i m rc nu ra ss (strVals us) wr ul parr carr hszr HL.out HV4.out HV3.out hin hv5 hv6 hn2).mono ?_
        rintro e w4 ⟨rfl, ul', parr', carr', q, hU4⟩
        obtain ⟨q1, q2, q3, q4, q5, q6, q7, _, q9⟩ := q
        have U4 : Hid (Upd [] w1 w4) := (UW.out.transTo hI.out.2.2.2 (by simp)).transTo hU4 (fun j hj => .inr (hnt j hj))
        have BB : Hid (w4.heap[g]? = some (.cells barr 9 (0,0)) ∧ barr.size = m ∧ ∀ (t : Nat) (s : ByteArray), t < m → ss[t]? = some s → barr[t]? = some (.string s)) := ⟨hU4.keep hI.out.1 hng, hI.out.2.1, hI.out.2.2.1⟩
        have Q9 : w4.ownsRow w1.heap.size 9 1 ul' (nu + m) (strVals us ++ strVals ss.reverse) := by simpa using q9
        obtain ⟨ua, uc, hul, _⟩ := owns_slice Q9
        subst hul
        have HQ9 : Hid (w4.ownsRow w1.heap.size 9 1 (.slice ua (nu + m) uc) (nu + m) (strVals us ++ strVals ss.reverse)) := Q9
        have c1 : w4.cell? ⟨pb, 64, none⟩ = some (.slice (some ⟨csb, 0, none⟩) n' cc) := (cell_at q1 64).trans q3
        have c2 : w4.cell? ⟨csb, i, none⟩ = some (.slice ra 0 rc) := (cell_at q5 i).trans q7
        have c3 : w4.cell? ⟨pb, 68, none⟩ = some (.slice ua (nu + m) uc) := (cell_at q1 68).trans q4
        clear q1 q2 q3 q4 q5 q6 q7 q9 hU4 Q9 hI HL hng hnt PR P1 P5 PU UW
        go_wp2_with fail
        clear c1 c2 c3
        have hlen : (strVals us).length = nu := by simp [strVals, HU.out.1]
        have HC : Hid (∀ (j : Nat) (v : Value), (strVals us ++ strVals ss.reverse)[j]? = some v → ∃ gb, ua = some ⟨gb, 0, none⟩ ∧ w4.cell? ⟨gb, j, none⟩ = some v) := by
          intro j v hj
          have hjl : j < nu + m := by
            have := (List.getElem?_eq_some_iff.1 hj).1
            simp [strVals, HU.out.1, HV4.out] at this
            omega
          obtain ⟨gb, gc, hv, _, _⟩ := HQ9.out.form (by omega)
          simp only [Value.slice.injEq, true_and] at hv
          obtain ⟨hv, _⟩ := hv
          subst hv
          refine ⟨gb, rfl, ?_⟩
          have h2 := HQ9.out
          obtain ⟨cur, o1, o2, o3, o4, o5, o6⟩ := owns_open h2
          rw [cell_at o1, ← hj, ← o5, List.getElem?_take, if_pos (by omega), Array.getElem?_toList]
        go_loopw [12] (fun j wr => ∃ (t : Nat), t ≤ nu ∧ j = .int .i64 t ∧ Hid (Upd [] w4 wr)) (fun j _ => nu - (intOf j).toNat)
        case atStart => exact ⟨0, by omega, rfl, Upd.refl _ _⟩
        case round =>
          obtain ⟨t, ht, rfl, hV⟩ := hrel
          generalize wr = wo at *
          by_cases htl : t < nu
          · have hsl : t < us.length := by rw [HU.out.1]; exact htl
            have hs : us[t]? = some (us[t]'hsl) := List.getElem?_eq_getElem hsl
            generalize us[t]'hsl = s at hs
            obtain ⟨y, hy⟩ : ∃ y, b = some y := by
              cases h : b with
              | none => have := HU.out.2.1 h; omega
              | some z => exact ⟨z, rfl⟩
            subst hy
            have c1 : wo.cell? (y.add t) = some (.string s) := hV.out.cell (U4.out.cell (HU.out.2.2 y rfl t s hs) (by simp)) (by simp)
            obtain ⟨gb, hgb, c2'⟩ := HC.out t (.string s) (by rw [List.getElem?_append_left (by omega)]; simp [strVals, hs])
            subst hgb
            have c2 : wo.cell? ⟨gb, t, none⟩ = some (.string s) := hV.out.cell c2' (by simp)
            clear hs c2'
            go_wp2_with (go_quiet (fail))
            go_roundw
            case rel => exact ⟨t + 1, by omega, by go_num, hV.out.drewN _⟩
            case measure => simp [intOf]; omega
          · go_wp2_with fail
            go_loopw [13] (fun j wr => ∃ (t : Nat), t ≤ m ∧ j = .int .i64 t ∧ Hid (Upd [] w4 wr)) (fun j _ => m - (intOf j).toNat)
            case atStart => exact ⟨0, by omega, rfl, hV⟩
            case round =>
              obtain ⟨q, hq, rfl, hX⟩ := hrel
              by_cases hql : q < m
              · have hsl : m - 1 - q < ss.length := by rw [HV4.out]; omega
                have hs : ss[m - 1 - q]? = some (ss[m - 1 - q]'hsl) := List.getElem?_eq_getElem hsl
                generalize ss[m - 1 - q]'hsl = s at hs
                have c1 : wr.cell? ⟨g, m - 1 - q, none⟩ = some (.string s) := (cell_at (hX.out.keep BB.out.1 (by simp)) _).trans (BB.out.2.2 _ s (by omega) hs)
                obtain ⟨gb, hgb, c2'⟩ := HC.out (nu + q) (.string s) (by
                  rw [List.getElem?_append_right (by omega), hlen, show nu + q - nu = q by omega]
                  simp only [strVals, List.getElem?_map]
                  rw [List.getElem?_reverse (by rw [HV4.out]; omega), HV4.out, hs]
                  rfl)
                subst hgb
                clear hs
                have c2 : wr.cell? ⟨gb, nu + q, none⟩ = some (.string s) := hX.out.cell c2' (by simp)
                clear c2'
                go_wp2_with (go_quiet (fail))
                go_roundw
                case rel => exact ⟨q + 1, by omega, by go_num, hX.out.drewN _⟩
                case measure => simp [intOf]; omega
              · go_wp2
                go_ret
                exact ⟨rfl, (U4.out.transTo hX.out (by simp)).below (Nat.le_refl _) (by simp)⟩

end Go.Proofs.Ybulkcsog
