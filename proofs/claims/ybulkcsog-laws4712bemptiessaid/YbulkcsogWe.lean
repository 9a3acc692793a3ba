/-
  WALKS, FIFTH PART: zzs4712bbuild.
-/
import Derived.Test.YbulkcsogWd
import Derived.Deep.OwnRows
namespace Go.Proofs.Ybulkcsog
open Go.RowKit Go.Lib
attribute [local go_sem ↓] Go.wp_at_zero Go.wp_at_succ

theorem setCells_heap {b : Nat} {t : TypeId} {f : Nat × Nat} : ∀ (vs : List Value) (w : World) (o : Nat) (cur : Array Value), w.heap[b]? = some (.cells cur t f) →
    ∃ cur', (w.setCells b o vs).heap[b]? = some (.cells cur' t f) ∧ cur'.size = cur.size ∧ (∀ j, j < o → cur'[j]? = cur[j]?) ∧ ∀ j v, vs[j]? = some v → o + j < cur.size → cur'[o + j]? = some v
  | [], w, o, cur, h => ⟨cur, h, rfl, fun _ _ => rfl, fun j v hv => by simp at hv⟩
  | v :: vs, w, o, cur, h => by
    obtain ⟨cur', h1, h2, h3, h4⟩ := setCells_heap vs (w.setCell ⟨b, o, none⟩ v) (o + 1) _ (set_at h o v)
    refine ⟨cur', h1, by simpa using h2, ?_, ?_⟩
    · intro j hj
      rw [h3 j (by omega), Array.getElem?_setIfInBounds, if_neg (by omega)]
    · intro j u hu hj
      cases j with
      | zero =>
        simp at hu
        subst hu
        rw [Nat.add_zero, h3 o (by omega), Array.getElem?_setIfInBounds_self_of_lt (by omega)]
      | succ j =>
        have := h4 j u (by simpa using hu) (by simp; omega)
        rw [show o + (j + 1) = o + 1 + j by omega]
        exact this

theorem copy_strs (B g nu d : Nat) (b : Option Addr) (us : List ByteArray) (w : World) (cur : Array Value) (hg : w.heap[g]? = some (.cells cur 9 (0,0))) (hcur : cur.size = nu) (hU : Strs w b nu us) (hB : B ≤ g) (hnu : nu ≤ 1024) :
    ∃ w', (∀ ty, (Builtin.copy_ #[54, 54] ty #[.slice (some ⟨g, 0, none⟩) nu nu, .slice b nu d]).run Yba.prog w = .ok (goInt nu) w') ∧ w'.ownsRow B 9 1 (.slice (some ⟨g, 0, none⟩) nu nu) nu (strVals us) ∧ Upd [g] w w' := by
  have hsz : (Yba.prog.info? 9).map (·.size) = some 1 := by kernel_rfl
  have hl : (strVals us).length = nu := by simp [strVals, hU.1]
  cases b with
  | none =>
    obtain rfl : nu = 0 := hU.2.1 rfl
    refine ⟨w, fun ty => run_copy_none w 54 54 ty 9 _ none 0 0 0 d Yba.underlying54 hsz rfl, ⟨by rw [hl], .inr ⟨g, 0, cur, rfl, hB, hg, Nat.le_refl _, by unfold maxLen; omega, by simp [hcur], ?_⟩⟩, Upd.refl _ _⟩
    have : strVals us = [] := List.eq_nil_of_length_eq_zero hl
    rw [this]; simp
  | some bx =>
    obtain ⟨cur', h1, h2, h3, h4⟩ := setCells_heap (strVals us) w 0 cur hg
    refine ⟨w.setCells g 0 (strVals us), fun ty => ?_, ⟨by rw [hl]; omega, .inr ⟨g, nu, cur', rfl, hB, h1, Nat.le_refl _, by unfold maxLen; omega, by omega, ?_⟩⟩, upd_setCells _ _ _ _⟩
    · have h := run_copy_cells (P := Yba.prog) w 54 54 ty 9 g 0 nu nu bx nu d (strVals us) Yba.underlying54 hsz (by rw [hl]; simp) ?_ ?_ ?_ ?_
      · rw [hl] at h; exact h
      · intro j v hv
        simp only [strVals, List.getElem?_map, Option.map_eq_some_iff] at hv
        obtain ⟨s, hs, rfl⟩ := hv
        exact hU.2.2 bx rfl j s hs
      · intro j hj
        rw [cell_at hg, Array.getElem?_eq_getElem (by omega)]; rfl
      · intro j _
        exact free_at hg _
      · intro v hv
        simp only [strVals, List.mem_map] at hv
        obtain ⟨s, _, rfl⟩ := hv
        rfl
    · rw [Nat.mul_one, List.take_of_length_le (by simp; omega)]
      apply List.ext_getElem?
      intro j
      by_cases hj : j < nu
      · have hj' : j < (strVals us).length := by omega
        have := h4 j _ (List.getElem?_eq_getElem hj') (by omega)
        rw [Nat.zero_add] at this
        rw [Array.getElem?_toList, this, List.getElem?_eq_getElem hj']
      · rw [List.getElem?_eq_none (by simp; omega), List.getElem?_eq_none (by omega)]
/-- A sub-region as it was built: ss are its addresses. -/
def RowOk (B : Nat) (w : World) (v : Value) (ss : List ByteArray) : Prop :=
  ∃ (ra : Option Addr) (n c : Nat), v = .slice ra n c ∧ (ra = none → n = 0) ∧ ss.length = n ∧ n ≤ 4096 ∧ n ≤ c ∧
    ∀ x, ra = some x → ∃ rb arr, x = ⟨rb, 0, none⟩ ∧ B ≤ rb ∧ w.heap[rb]? = some (.cells arr 49 (0,0)) ∧ n * 4 ≤ arr.size ∧ ∀ (m : Nat) (s : ByteArray), m < n → ss[m]? = some s → arr[m * 4]? = some (.string s)
theorem RowOk.keep {B : Nat} {w w' : World} {v : Value} {ss : List ByteArray} (h : RowOk B w v ss) {S : List Nat} (hu : Upd S w w') (hS : ∀ (b : Nat) (c : Array Value), w.heap[b]? = some (.cells c 49 (0,0)) → b ∉ S) : RowOk B w' v ss := by
  obtain ⟨ra, n, c, h1, h2, h3, h4, h5, h6⟩ := h
  refine ⟨ra, n, c, h1, h2, h3, h4, h5, fun x hx => ?_⟩
  obtain ⟨rb, arr, r1, r0, r2, r3, r4⟩ := h6 x hx
  exact ⟨rb, arr, r1, r0, hu.keep r2 (hS rb arr r2), r3, r4⟩

theorem zc88 : Yba.zeroCells88.size = 113 := by kernel_rfl
theorem peer_size (z : Array Value) (hz : z.size = 113) (v1 v2 : Value) : (((((((((z.setIfInBounds 63 (.int .i64 1)).setIfInBounds 64 v1).setIfInBounds 65 (.int .u64 0)).setIfInBounds 66 (.pointer none)).setIfInBounds 67 (.bool false)).setIfInBounds 68 v2).setIfInBounds 69 (.map none)).setIfInBounds 70 (.int .i64 0)).setIfInBounds 71 (.slice none 0 0)).size = 113 := by simp [hz]
theorem peer_64 (z : Array Value) (hz : z.size = 113) (v1 v2 : Value) : (((((((((z.setIfInBounds 63 (.int .i64 1)).setIfInBounds 64 v1).setIfInBounds 65 (.int .u64 0)).setIfInBounds 66 (.pointer none)).setIfInBounds 67 (.bool false)).setIfInBounds 68 v2).setIfInBounds 69 (.map none)).setIfInBounds 70 (.int .i64 0)).setIfInBounds 71 (.slice none 0 0))[64]? = some v1 := by simp [hz]
theorem peer_68 (z : Array Value) (hz : z.size = 113) (v1 v2 : Value) : (((((((((z.setIfInBounds 63 (.int .i64 1)).setIfInBounds 64 v1).setIfInBounds 65 (.int .u64 0)).setIfInBounds 66 (.pointer none)).setIfInBounds 67 (.bool false)).setIfInBounds 68 v2).setIfInBounds 69 (.map none)).setIfInBounds 70 (.int .i64 0)).setIfInBounds 71 (.slice none 0 0))[68]? = some v2 := by simp [hz]

/-- What zzs4712bbuild answers. -/
def Built (nu : Nat) (us : List ByteArray) (w : World) (e : Ending) (w' : World) : Prop :=
  ∃ (pb csb n' cc : Nat) (ul : Value) (parr carr : Array Value) (R : List (List ByteArray)), e = .returned (.pointer (some ⟨pb, 0, none⟩)) ∧ w'.heap[pb]? = some (.cells parr 88 (0,0)) ∧ parr.size = 113 ∧ parr[64]? = some (.slice (some ⟨csb, 0, none⟩) n' cc) ∧ parr[68]? = some ul ∧
        w'.heap[csb]? = some (.cells carr 67 (0,0)) ∧ n' ≤ carr.size ∧ 1 ≤ n' ∧ n' ≤ 256 ∧ w.heap.size ≤ pb ∧ w.heap.size ≤ csb ∧ R.length = n' ∧ (∀ (i : Nat) (ss : List ByteArray), R[i]? = some ss → ∃ v, carr[i]? = some v ∧ RowOk w.heap.size w' v ss) ∧ w'.ownsRow w.heap.size 9 1 ul nu (strVals us) ∧ Upd [] w w'

set_option maxRecDepth 100000 in
set_option maxHeartbeats 2000000 in
theorem build_any (ns c nu d : Nat) (a b : Option Addr) (rs : List Row) (us : List ByteArray) (w : World) (hns : ns ≤ 256) (hnu : nu ≤ 1024) (hrs : ∀ (i : Nat) (r : Row), rs[i]? = some r → r.2.1 ≤ 4096) (hS : Subs w a ns rs) (hU : Strs w b nu us) :
    Calls Yba.prog 17 #[.slice a ns c, .slice b nu d] w
      fun e w' => Built nu us w e w' := by
  obtain ⟨i0, hi, hz0, hz1, hz2⟩ := info_parts Yba.info49
  obtain ⟨j0, hj, hy0, hy1, hy2⟩ := info_parts Yba.info67
  obtain ⟨k0, hk, hx0, hx1, hx2⟩ := info_parts Yba.info9
  have HS : Hid (Subs w a ns rs) := hS
  have HU : Hid (Strs w b nu us) := hU
  have Hrs : Hid (∀ (i : Nat) (r : Row), rs[i]? = some r → r.2.1 ≤ 4096) := hrs
  clear hS hU hrs
  go_enter Yba.func17, Yba.ntmps17
  go_wp2_with (at_make; go_must (refine wpList_make_row _ rfl _ _ _ rfl 67 j0 _ Yba.underlying64 hj hy0 hy1 (by rfl) _ _ ns rfl rfl (by rw [hy2]; omega) (by omega) ?_))
  go_loopw [17] (fun i wr => ∃ (k : Nat) (carr : Array Value), k ≤ ns ∧ i = .int .i64 k ∧ Hid (wr.heap[w.heap.size]? = some (.cells carr 67 (0,0)) ∧ carr.size = ns ∧ (∀ (j : Nat) (r : Row), j < k → rs[j]? = some r → ∃ v, carr[j]? = some v ∧ RowOk w.heap.size wr v r.2.2.2) ∧ Upd [] w wr)) (fun i _ => ns - (intOf i).toNat)
  case atStart => exact ⟨0, _, by omega, rfl, heap_last _ _ _ rfl, by simp [madeCells], fun j r h => by omega, Upd.alloc (Upd.refl _ _) _⟩
  case round =>
    obtain ⟨k, carr, hkn, rfl, hI⟩ := hrel
    generalize wr = wo at *
    by_cases hlt : k < ns
    · have hrl : k < rs.length := by rw [HS.out.1]; exact hlt
      have hr : rs[k]? = some (rs[k]'hrl) := List.getElem?_eq_getElem _
      generalize rs[k]'hrl = r at hr
      obtain ⟨x, hx⟩ : ∃ x, a = some x := by
        cases h : a with
        | none => have := HS.out.2.1 h; omega
        | some y => exact ⟨y, rfl⟩
      subst hx
      obtain ⟨hc0, hstr0, _⟩ := HS.out.2.2 x rfl k r hr
      have hL := Hrs.out k r hr
      have Hr : Hid (rs[k]? = some r) := hr
      have hc : wo.cell? (x.add k) = some (.slice r.1 r.2.1 r.2.2.1) := hI.out.2.2.2.cell hc0 (by simp)
      have Hstr : Hid (Strs wo r.1 r.2.1 r.2.2.2) := hstr0.keep hI.out.2.2.2
      clear hr hc0 hstr0
      obtain ⟨ra, rl, rc, ss⟩ := r
      simp only at hc hL Hstr
      have hszr : w.heap.size < wo.heap.size := lt_of_heap hI.out.1
      go_wp2_with (at_make; go_must (refine wpList_make_full _ rfl _ _ _ rfl w.heap.size 49 i0 _ 4 Yba.underlying67 hi hz0 hz1 _ _ _ _ rl rfl rfl (by omega) (by omega) (by rw [hz2]; omega) (by unfold maxLen; omega) (by omega) ?_); intro w1 hown1 hgrow1)
      obtain ⟨arr0, ho1, ho2, _, _, _, ho3⟩ := owns_open hown1
      have U1 : Hid (Upd [] wo w1) := Upd.grown (Upd.refl _ _) hgrow1 (by simp)
      have Ho1 : Hid (w1.heap[wo.heap.size]? = some (.cells arr0 49 (0,0)) ∧ arr0.size = rl * 4) := ⟨ho1, ho2⟩
      clear hown1 hgrow1 ho1 ho2 ho3 hc
      go_loopw [27] (fun i wq => ∃ (m : Nat) (arr : Array Value), m ≤ rl ∧ i = .int .i64 m ∧ Hid (wq.heap[wo.heap.size]? = some (.cells arr 49 (0,0)) ∧ arr.size = rl * 4 ∧ (∀ (j : Nat) (s : ByteArray), j < m → ss[j]? = some s → arr[j * 4]? = some (.string s)) ∧ Upd [] wo wq)) (fun i _ => rl - (intOf i).toNat)
      case atStart => exact ⟨0, arr0, by omega, rfl, Ho1.out.1, Ho1.out.2, fun j s h => by omega, U1.out⟩
      case round =>
        obtain ⟨m, arr, hm, rfl, hJ⟩ := hrel
        by_cases hml : m < rl
        · have hsl : m < ss.length := by rw [Hstr.out.1]; exact hml
          have hs : ss[m]? = some (ss[m]'hsl) := List.getElem?_eq_getElem hsl
          generalize ss[m]'hsl = s at hs
          obtain ⟨y, hy⟩ : ∃ y, ra = some y := by
            cases h : ra with
            | none => have := Hstr.out.2.1 h; omega
            | some z => exact ⟨z, rfl⟩
          subst hy
          have hsc : wr.cell? (y.add m) = some (.string s) := hJ.out.2.2.2.cell (Hstr.out.2.2 y rfl m s hs) (by simp)
          have Hs : Hid (ss[m]? = some s) := hs
          have z4 : m * 4 + 3 < arr.size := by rw [hJ.out.2.1]; omega
          have l0 : wr.cell? ⟨wo.heap.size, m * 4, none⟩ = some (arr[m * 4]'(by omega)) := (cell_at hJ.out.1 _).trans (Array.getElem?_eq_getElem _)
          have l1 : wr.cell? ⟨wo.heap.size, m * 4 + 1, none⟩ = some (arr[m * 4 + 1]'(by omega)) := (cell_at hJ.out.1 _).trans (Array.getElem?_eq_getElem _)
          have l2 : wr.cell? ⟨wo.heap.size, m * 4 + 2, none⟩ = some (arr[m * 4 + 2]'(by omega)) := (cell_at hJ.out.1 _).trans (Array.getElem?_eq_getElem _)
          have l3 : wr.cell? ⟨wo.heap.size, m * 4 + 3, none⟩ = some (arr[m * 4 + 3]'(by omega)) := (cell_at hJ.out.1 _).trans (Array.getElem?_eq_getElem _)
          have fr : ∀ j, wr.frozen? ⟨wo.heap.size, j, none⟩ = false := fun j => free_at hJ.out.1 j
          generalize arr[m * 4]'(by omega) = v0 at l0
          generalize arr[m * 4 + 1]'(by omega) = v1 at l1
          generalize arr[m * 4 + 2]'(by omega) = v2 at l2
          generalize arr[m * 4 + 3]'(by omega) = v3 at l3
          clear hs
          go_wp2
          have h2 := set_at (set_at (set_at (set_at hJ.out.1 (m * 4) (.string s)) (m * 4 + 1) (.int .u64 0)) (m * 4 + 2) (.int .u8 0)) (m * 4 + 3) (.int .u64 ((m : Int) + 1))
          refine ⟨⟨m + 1, _, by omega, by go_num, h2, by simp [hJ.out.2.1], ?_, ?_⟩, by simp [intOf]; omega⟩
          · intro j s' hj hs'
            by_cases hjm : j = m
            · subst hjm
              obtain rfl : s' = s := Option.some.inj (hs'.symm.trans Hs.out)
              rw [Array.getElem?_setIfInBounds, if_neg (by omega), Array.getElem?_setIfInBounds, if_neg (by omega), Array.getElem?_setIfInBounds, if_neg (by omega), Array.getElem?_setIfInBounds_self_of_lt (by omega)]
            · rw [Array.getElem?_setIfInBounds, if_neg (by omega), Array.getElem?_setIfInBounds, if_neg (by omega), Array.getElem?_setIfInBounds, if_neg (by omega), Array.getElem?_setIfInBounds, if_neg (by omega)]
              exact hJ.out.2.2.1 j s' (by omega) hs'
          · exact Upd.setCell (Upd.setCell (Upd.setCell (Upd.setCell hJ.out.2.2.2 (.inr (Nat.le_refl _)) _) (.inr (Nat.le_refl _)) _) (.inr (Nat.le_refl _)) _) (.inr (Nat.le_refl _)) _
        · have hmr : m = rl := by omega
          have hcs : Hid (wr.heap[w.heap.size]? = some (.cells carr 67 (0,0))) := hJ.out.2.2.2.keep hI.out.1 (by simp)
          have hkc : k < carr.size := by rw [hI.out.2.1]; exact hlt
          have c5 : wr.cell? ⟨w.heap.size, k, none⟩ = some (carr[k]'hkc) := (cell_at hcs.out k).trans (Array.getElem?_eq_getElem _)
          have f5 := free_at hcs.out k
          generalize carr[k]'hkc = old at c5
          have b1 : (0 : Int) ≤ (k : Int) := by omega
          have b2 : (k : Int) < (ns : Int) := by omega
          go_wp2
          refine ⟨⟨k + 1, _, by omega, by go_num, set_at hcs.out k _, by simp [hI.out.2.1], ?_, ?_⟩, by simp [intOf]; omega⟩
          · intro j r' hj hr'
            by_cases hjk : j = k
            · subst hjk
              obtain rfl : r' = (ra, rl, rc, ss) := Option.some.inj (hr'.symm.trans Hr.out)
              refine ⟨_, Array.getElem?_setIfInBounds_self_of_lt hkc, some ⟨wo.heap.size, 0, none⟩, rl, rl, rfl, (fun h => by cases h), Hstr.out.1, hL, Nat.le_refl _, ?_⟩
              intro x' hx'
              cases hx'
              refine ⟨wo.heap.size, arr, rfl, by omega, (set_ne (by simp; omega)).trans hJ.out.1, by rw [hJ.out.2.1]; exact Nat.le_refl _, ?_⟩
              intro m' s' hm' hs'
              exact hJ.out.2.2.1 m' s' (by omega) hs'
            · obtain ⟨v, hv1, hv2⟩ := hI.out.2.2.1 j r' (by omega) hr'
              refine ⟨v, by rw [Array.getElem?_setIfInBounds, if_neg (fun e => hjk e.symm)]; exact hv1, ?_⟩
              refine RowOk.keep (S := [w.heap.size]) hv2 (Upd.setCell (hJ.out.2.2.2.mono (by simp)) (.inl (by simp)) _) ?_
              intro b' c' hb'
              simp
              exact ne_elem hb' hI.out.1 (by decide)
          · exact Upd.setCell (hI.out.2.2.2.transTo hJ.out.2.2.2 (by simp)) (.inr (Nat.le_refl _)) _
    · by_cases hz : ns = 0
      · obtain rfl : ns = 0 := by omega
        have hown0 : Hid (wo.ownsRow w.heap.size 67 1 (.slice (some ⟨w.heap.size, 0, none⟩) 0 0) 0 []) := ⟨rfl, .inr ⟨w.heap.size, 0, carr, rfl, Nat.le_refl _, hI.out.1, Nat.le_refl _, by unfold maxLen; omega, by rw [hI.out.2.1], by simp⟩⟩
        have hszr : w.heap.size < wo.heap.size := lt_of_heap hI.out.1
        have UW : Hid (Upd [] w wo) := hI.out.2.2.2
        clear hI
        go_wp2_with (first | (at_builtin; go_must (refine wpList_append_lies _ rfl _ _ _ rfl w.heap.size 67 j0 _ 1 24 Yba.underlying64 hj hy0 hy1 hy2 rfl (by omega) (.slice (some ⟨w.heap.size, 0, none⟩) 0 0) 0 [] rfl (hown0.out.alloc _) ⟨wo.heap.size, 0, none⟩ 1 1 [.slice none 0 0] rfl (by rfl) (World.news_of_block (cs := #[.slice none 0 0]) (heap_last wo _ _ (by simp))) (by simp [Value.oneCell']) (by omega) (by unfold maxLen; omega) (by omega) (by simp; omega) (wo.heap.size + 1) (by simp) ?_); intro gg cap w2 hown2 hgrow2 hat2 hlt2; have UW2 : Hid (Upd [] w w2) := UW.out.transTo (Upd.grown (S := [w.heap.size]) (Upd.alloc (Upd.refl _ _) _) hgrow2 (fun k hk => .inl (by simp [Value.ownBlock] at hk; simp [hk]))) (by intro i hi'; right; simp at hi'; omega); have hszW : w.heap.size ≤ w2.heap.size := UW2.out.size; obtain ⟨w6, hcp, hown6, U6⟩ := copy_strs w.heap.size w2.heap.size nu d b us (w2.alloc (.cells (madeCells #[.string ⟨#[]⟩] nu) 9)) _ (heap_last _ _ _ rfl) (by simp [madeCells]) (HU.out.keep (UW2.out.alloc _)) hszW hnu) | (at_make; go_must (refine wpList_make_row _ rfl _ _ _ rfl 9 k0 _ Yba.underlying54 hk hx0 hx1 (by rfl) _ _ nu rfl rfl (by rw [hx2]; omega) (by omega) ?_)))
        obtain ⟨carr2, hc1, hc2, hc3, hc4, hc5, hc6⟩ := owns_open hown2
        have hc0 : carr2[0]? = some (.slice none 0 0) := by
          have h := congrArg (fun l => l[0]?) hc5
          simpa using h
        have ROWS : (∀ w5, Upd [] w2 w5 → w5.heap[gg]? = some (.cells carr2 67 (0,0)) ∧ (1 : Nat) ≤ carr2.size ∧ w.heap.size ≤ gg ∧ ([([] : List ByteArray)] : List (List ByteArray)).length = 1 ∧ ∀ (i : Nat) (ss : List ByteArray), ([([] : List ByteArray)] : List (List ByteArray))[i]? = some ss → ∃ v, carr2[i]? = some v ∧ RowOk w.heap.size w5 v ss) := by
          intro w5 hu
          refine ⟨hu.keep hc1 (by simp), by simp at hc2; omega, hc6, rfl, ?_⟩
          intro i ss hi'
          cases i with
          | zero =>
            simp at hi'
            subst hi'
            exact ⟨_, hc0, none, 0, 0, rfl, fun _ => rfl, rfl, by omega, by omega, fun x hx => by cases hx⟩
          | succ i => simp at hi'
        have UF : ∀ o, Upd [] w2 (w6.alloc o) := fun o => Upd.alloc ((Upd.alloc (Upd.refl _ _) _).transTo U6 (by intro i hi'; right; simp at hi'; omega)) _
        have hs6 : w.heap.size ≤ w6.heap.size := by have := U6.size; simp at this; omega
        have hown7 : ∀ o, (w6.alloc o).ownsRow w.heap.size 9 1 (.slice (some ⟨w2.heap.size, 0, none⟩) nu nu) nu (strVals us) := fun o => hown6.alloc o
        have hlast : ∀ o, (w6.alloc o).heap[w6.heap.size]? = some o := fun o => heap_last _ _ _ rfl
        have RW := fun o => ROWS (w6.alloc o) (UF o)
        have UZ : ∀ o, Upd [] w (w6.alloc o) := fun o => UW2.out.transTo (UF o) (by simp)
        clear ROWS UF U6 hcp
        go_ret
        refine ⟨w6.heap.size, gg, 1, cap, .slice (some ⟨w2.heap.size, 0, none⟩) nu nu, _, carr2, [[]], rfl, hlast _, ?_, ?_, ?_, (RW _).1, (RW (.cells #[] 9)).2.1, ?_, ?_, hs6, (RW (.cells #[] 9)).2.2.1, (RW (.cells #[] 9)).2.2.2.1, (RW _).2.2.2.2, hown7 _, UZ _⟩
        · exact peer_size _ zc88 _ _
        · exact peer_64 _ zc88 _ _
        · exact peer_68 _ zc88 _ _
        · omega
        · omega
      · have hkn' : k = ns := by omega
        have hszr : w.heap.size < wo.heap.size := lt_of_heap hI.out.1
        have hz' : ((ns : Int) == 0) = false := by simp; exact hz
        have UW2 : Hid (Upd [] w wo) := hI.out.2.2.2
        have hszW : w.heap.size ≤ wo.heap.size := UW2.out.size
        obtain ⟨w6, hcp, hown6, U6⟩ := copy_strs w.heap.size wo.heap.size nu d b us (wo.alloc (.cells (madeCells #[.string ⟨#[]⟩] nu) 9)) _ (heap_last _ _ _ rfl) (by simp [madeCells]) (HU.out.keep (UW2.out.alloc _)) hszW hnu
        go_wp2_with (at_make; go_must (refine wpList_make_row _ rfl _ _ _ rfl 9 k0 _ Yba.underlying54 hk hx0 hx1 (by rfl) _ _ nu rfl rfl (by rw [hx2]; omega) (by omega) ?_))
        have ROWS : (∀ w5, Upd [] wo w5 → w5.heap[w.heap.size]? = some (.cells carr 67 (0,0)) ∧ ns ≤ carr.size ∧ w.heap.size ≤ w.heap.size ∧ (rs.map (fun r => r.2.2.2)).length = ns ∧ ∀ (i : Nat) (ss : List ByteArray), (rs.map (fun r => r.2.2.2))[i]? = some ss → ∃ v, carr[i]? = some v ∧ RowOk w.heap.size w5 v ss) := by
          intro w5 hu
          refine ⟨hu.keep hI.out.1 (by simp), by rw [hI.out.2.1]; exact Nat.le_refl _, Nat.le_refl _, by simp [HS.out.1], ?_⟩
          intro i ss hi'
          rw [List.getElem?_map] at hi'
          obtain ⟨r, hr, hrr⟩ := Option.map_eq_some_iff.1 hi'
          subst hrr
          obtain ⟨v, h1, h2⟩ := hI.out.2.2.1 i r (by have := (List.getElem?_eq_some_iff.1 hr).1; rw [HS.out.1] at this; omega) hr
          exact ⟨v, h1, h2.keep hu (by simp)⟩
        have UF : ∀ o, Upd [] wo (w6.alloc o) := fun o => Upd.alloc ((Upd.alloc (Upd.refl _ _) _).transTo U6 (by intro i hi'; right; simp at hi'; omega)) _
        have hs6 : w.heap.size ≤ w6.heap.size := by have := U6.size; simp at this; omega
        have hown7 : ∀ o, (w6.alloc o).ownsRow w.heap.size 9 1 (.slice (some ⟨wo.heap.size, 0, none⟩) nu nu) nu (strVals us) := fun o => hown6.alloc o
        have hlast : ∀ o, (w6.alloc o).heap[w6.heap.size]? = some o := fun o => heap_last _ _ _ rfl
        have RW := fun o => ROWS (w6.alloc o) (UF o)
        have UZ : ∀ o, Upd [] w (w6.alloc o) := fun o => UW2.out.transTo (UF o) (by simp)
        clear ROWS UF U6 hcp
        go_ret
        refine ⟨w6.heap.size, w.heap.size, ns, ns, .slice (some ⟨wo.heap.size, 0, none⟩) nu nu, _, carr, rs.map (fun r => r.2.2.2), rfl, hlast _, ?_, ?_, ?_, (RW _).1, (RW (.cells #[] 9)).2.1, ?_, ?_, hs6, (RW (.cells #[] 9)).2.2.1, (RW (.cells #[] 9)).2.2.2.1, (RW _).2.2.2.2, hown7 _, UZ _⟩
        · exact peer_size _ zc88 _ _
        · exact peer_64 _ zc88 _ _
        · exact peer_68 _ zc88 _ _
        · omega
        · omega

end Go.Proofs.Ybulkcsog
