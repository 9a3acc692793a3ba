/-
  VALUE, FOURTH PART: SetBytes 20, nat.set 41, Set 22, Neg 21, zzs4714abuild 6, clone 7.
-/
import Derived.Test.YbulkcspiVc
import Derived.Laws.IdiomCopy
import Derived.LaidEqlPtr
namespace Go.Proofs.Ybulkcspi
open Go.RowKit Go.Lib
attribute [local go_sem ↓] Go.wp_at_zero Go.wp_at_succ

theorem add_at (g j : Nat) : (⟨g, 0, none⟩ : Addr).add j = ⟨g, j, none⟩ := by
  unfold Addr.add
  split
  · rename_i h; subst h; rfl
  · simp

theorem setCells_heap {b : Nat} {t : TypeId} {f : Nat × Nat} : ∀ (vs : List Value) (w : World) (o : Nat) (cur : Array Value), w.heap[b]? = some (.cells cur t f) →
    ∃ cur', (w.setCells b o vs).heap[b]? = some (.cells cur' t f) ∧ cur'.size = cur.size ∧ (∀ j, j < o → cur'[j]? = cur[j]?) ∧ ∀ j v, vs[j]? = some v → o + j < cur.size → cur'[o + j]? = some v
  | [], w, o, cur, h => ⟨cur, h, rfl, fun _ _ => rfl, fun j v hv => by simp at hv⟩
  | v :: vs, w, o, cur, h => by
    obtain ⟨cur', h1, h2, h3, h4⟩ := setCells_heap vs (w.setCell ⟨b, o, none⟩ v) (o + 1) _ (set_at h o v)
    refine ⟨cur', h1, by simpa using h2, ?_, ?_⟩
    · intro j hj
      rw [h3 j (by omega), Array.getElem?_setIfInBounds, if_neg (by omega)]
    · intro j u hu hj
      cases j with
      | zero =>
        simp at hu
        subst hu
        rw [Nat.add_zero, h3 o (by omega), Array.getElem?_setIfInBounds_self_of_lt (by omega)]
      | succ j =>
        have := h4 j u (by simpa using hu) (by simp; omega)
        rw [show o + (j + 1) = o + 1 + j by omega]
        exact this
theorem owns_mono {w : World} {B B' : Nat} {e : TypeId} {sz n : Nat} {v : Value} {xs : List Value} (h : w.ownsRow B e sz v n xs) (hB : B' ≤ B) : w.ownsRow B' e sz v n xs := by
  refine ⟨h.1, ?_⟩
  rcases h.2 with h0 | ⟨g, cap, cur, rfl, hb, rest⟩
  · exact .inl h0
  · exact .inr ⟨g, cap, cur, rfl, by omega, rest⟩

set_option maxRecDepth 100000 in
theorem natset_any (B m : Nat) (v : Value) (xs : List Value) (w : World) (ho : w.ownsRow B 104 1 v m xs) (hm : m ≤ 200) (hx : ∀ x ∈ xs, x.oneCell' = true) :
    Calls Yba.prog 41 #[.slice none 0 0, v] w fun e w' => ∃ v', e = .returned v' ∧ w'.ownsRow w.heap.size 104 1 v' m xs ∧ Upd [] w w' ∧ Roomy v' m := by
  have hsz : (Yba.prog.info? 104).map (·.size) = some 1 := by kernel_rfl
  obtain ⟨a, c, rfl, ha⟩ := owns_slice ho
  by_cases h0 : m = 0
  · subst h0
    have hxs : xs = [] := List.eq_nil_of_length_eq_zero (by have := ho.1; omega)
    have hcp : ∀ ty, (Builtin.copy_ #[37, 37] ty #[.slice none 0 0, .slice a 0 c]).run Yba.prog w = .ok (goInt 0) w := fun ty => run_copy_none w 37 37 ty 104 none a 0 0 0 c Yba.underlying37 hsz rfl
    clear ho ha
    go_enter Yba.func41, Yba.ntmps41
    go_wp2_with fail
    refine (make_none w).mono ?_
    rintro e w1 ⟨rfl, rfl⟩
    go_wp2
    go_ret
    exact ⟨_, rfl, by rw [hxs]; exact World.ownsRow_nil _ _ _ _, Upd.refl _ _, fun _ _ _ _ => .inl (by omega)⟩
  · obtain ⟨x, hax⟩ : ∃ x, a = some x := by
      cases h : a with
      | none => have := (ha h).1; omega
      | some y => exact ⟨y, rfl⟩
    subst hax
    obtain ⟨g, cap, hv, _, _⟩ := ho.form (by omega)
    simp only [Value.slice.injEq, Option.some.injEq, true_and] at hv
    obtain ⟨rfl, rfl⟩ := hv
    have HO : Hid (w.ownsRow B 104 1 (.slice (some ⟨g, 0, none⟩) m c) m xs) := ho
    have hgw : g < w.heap.size := by obtain ⟨_, h, _⟩ := owns_open ho; exact lt_of_heap h
    have hlen : xs.length = m := by have := ho.1; omega
    clear ho ha
    go_enter Yba.func41, Yba.ntmps41
    go_wp2_with fail
    refine (make_nil m w (by omega) (by omega)).mono ?_
    rintro e w1 ⟨c', rfl, hc1, hc2, hc3, rfl⟩
    obtain ⟨cur', q1, q2, q3, q4⟩ := setCells_heap xs (w.alloc (.cells (madeCells #[.int .u64 0] c') 104)) 0 _ (heap_last w _ _ rfl)
    have hcp : ∀ ty, (Builtin.copy_ #[37, 37] ty #[.slice (some ⟨w.heap.size, 0, none⟩) m c', .slice (some ⟨g, 0, none⟩) m c]).run Yba.prog (w.alloc (.cells (madeCells #[.int .u64 0] c') 104)) = .ok (goInt m) ((w.alloc (.cells (madeCells #[.int .u64 0] c') 104)).setCells w.heap.size 0 xs) := by
      intro ty
      have h := run_copy_cells (P := Yba.prog) (w.alloc (.cells (madeCells #[.int .u64 0] c') 104)) 37 37 ty 104 w.heap.size 0 m c' ⟨g, 0, none⟩ m c xs Yba.underlying37 hsz (by rw [hlen]; simp) ?_ ?_ ?_ hx
      · rw [hlen] at h; exact h
      · intro j v hv
        have hj : j < m := by have := (List.getElem?_eq_some_iff.1 hv).1; omega
        have := (HO.out.alloc (.cells (madeCells #[.int .u64 0] c') 104)).cellAt j (by omega)
        rw [hv] at this
        rw [add_at]
        exact this
      · intro j hj
        rw [cell_at (heap_last w _ _ rfl), Array.getElem?_eq_getElem (by rw [size_madeCells]; omega)]; rfl
      · intro j _
        exact free_at (heap_last w _ _ rfl) _
    go_wp2
    go_ret
    rw [size_madeCells] at q2 q4
    refine ⟨_, rfl, ⟨by omega, .inr ⟨w.heap.size, c', cur', rfl, Nat.le_refl _, q1, hc1, by unfold maxLen; omega, by omega, ?_⟩⟩, ?_, fun _ _ _ h => by cases h; omega⟩
    · apply List.ext_getElem?
      intro j
      rw [List.getElem?_take]
      by_cases hj : j < m
      · have := q4 j _ (List.getElem?_eq_getElem (by omega)) (by omega)
        rw [Nat.zero_add] at this
        rw [if_pos (by omega), Array.getElem?_toList, this, List.getElem?_eq_getElem (by omega)]
      · rw [if_neg (by omega), List.getElem?_eq_none (by omega)]
    · exact (Upd.alloc (Upd.refl _ _) _).transTo (upd_setCells _ _ _ _) (by intro i hi; right; simp at hi; omega)

/-- Top: m is the number of words. -/
def Top (bs : List Int) (m : Nat) : Prop := m ≤ 200 ∧ (∀ k, m ≤ k → word bs k = 0) ∧ (m = 0 ∨ word bs (m - 1) ≠ 0)
/-- A big.Int in memory. -/
def IntIs (B : Nat) (w : World) (ib : Nat) (neg : Bool) (bs : List Int) (m : Nat) : Prop :=
  ∃ v, w.heap[ib]? = some (.cells #[.bool neg, v] 39 (0,0)) ∧ w.ownsRow B 104 1 v m (wordVals bs m) ∧ Top bs m ∧ Roomy v m
theorem wordVals_one {bs : List Int} {m : Nat} : ∀ x ∈ wordVals bs m, x.oneCell' = true := by
  intro x hx
  simp only [wordVals, List.mem_map] at hx
  obtain ⟨k, _, rfl⟩ := hx
  rfl

theorem SetBytes_any (B ib L c : Nat) (a : Option Addr) (bs : List Int) (w : World) (hL : L ≤ 1024) (hLc : L ≤ c) (hB : Byts w a L bs) (hi : w.heap[ib]? = some (.cells #[.bool false, .slice none 0 0] 39 (0,0))) (hBw : B ≤ w.heap.size) :
    Calls Yba.prog 20 #[.pointer (some ⟨ib, 0, none⟩), .slice a L c] w fun e w' => e = .returned (.pointer (some ⟨ib, 0, none⟩)) ∧ (∃ m, IntIs B w' ib false bs m) ∧ Upd [ib] w w' := by
  have c1 : w.cell? ⟨ib, 1, none⟩ = some (.slice none 0 0) := cell_at hi 1
  have H := setBytes_any L c a bs w hL hLc hB
  have Hi : Hid (w.heap[ib]? = some (.cells #[.bool false, .slice none 0 0] 39 (0,0))) := hi
  clear hB hi
  go_enter Yba.func20, Yba.ntmps20
  go_wp2_with fail
  refine H.mono ?_
  rintro e w1 ⟨v, rfl, hN, hu⟩
  have h1 : w1.heap[ib]? = some (.cells #[.bool false, .slice none 0 0] 39 (0,0)) := hu.keep Hi.out (by simp)
  have d0 : w1.cell? ⟨ib, 0, none⟩ = some (.bool false) := cell_at h1 0
  have d1 : w1.cell? ⟨ib, 1, none⟩ = some (.slice none 0 0) := cell_at h1 1
  have f0 := free_at h1 0
  have f1 := free_at h1 1
  obtain ⟨m, m1, m2, m3, m4, m5⟩ := hN
  obtain ⟨va, vc, rfl, _⟩ := owns_slice m2
  have H1 : Hid (w1.heap[ib]? = some (.cells #[.bool false, .slice none 0 0] 39 (0,0)) ∧ w1.ownsRow w.heap.size 104 1 (.slice va m vc) m (wordVals bs m) ∧ Upd [] w w1) := ⟨h1, m2, hu⟩
  have HT : Hid (Top bs m ∧ Roomy (.slice va m vc) m) := ⟨⟨m1, m3, m4⟩, m5⟩
  clear h1 m2 hu m3 m4 m5 H
  go_wp2
  go_ret
  have hne := owns_ne H1.out.2.1 H1.out.1 (by decide)
  refine ⟨rfl, ⟨m, .slice va m vc, ?_, ?_, HT.out⟩, ?_⟩
  · have := set_at (set_at H1.out.1 1 (.slice va m vc)) 0 (.bool false)
    simpa using this
  · exact owns_mono (owns_set (owns_set H1.out.2.1 hne _) hne _) hBw
  · exact Upd.setCell (Upd.setCell (H1.out.2.2.mono (by simp)) (.inl (by simp)) _) (.inl (by simp)) _

theorem Yba.info39 : (Yba.prog.info? 39).map (fun i => (i.zero, i.size, i.bytes)) = some (some (.agg #[.bool false, .slice none 0 0]), 2, 32) := by kernel_rfl
theorem neq_int_same (a : Addr) (w : World) : (binOp .neq 23 (.pointer (some a)) (.pointer (some a))).run Yba.prog w = .ok (.bool false) w := by
  obtain ⟨i0, hi, _⟩ := info_parts Yba.info39
  have h : ∀ d : Nat, (Op.equalIn (d + 1) 23 (.pointer (some a)) (.pointer (some a))).run Yba.prog w = .ok true w := fun d => by
    simp [Op.equalIn, run_underlying Yba.underlying23, sizeOf, typeInfo, hi, run_sameAddr_same]
  simp only [binOp]
  simp [Op.equal, Op.maxDepth, h 9999]
theorem neq_int_other {a b : Nat} {ca cb : Array Value} (w : World) (hne : a ≠ b) (ha : w.heap[a]? = some (.cells ca 39 (0,0))) (hb : w.heap[b]? = some (.cells cb 39 (0,0))) :
    (binOp .neq 23 (.pointer (some ⟨a, 0, none⟩)) (.pointer (some ⟨b, 0, none⟩))).run Yba.prog w = .ok (.bool true) w ∧ (binOp .eql 23 (.pointer (some ⟨a, 0, none⟩)) (.pointer (some ⟨b, 0, none⟩))).run Yba.prog w = .ok (.bool false) w := by
  obtain ⟨i0, hi, _, hz, _⟩ := info_parts Yba.info39
  have hab : (⟨a, 0, none⟩ : Addr) ≠ ⟨b, 0, none⟩ := fun h => hne (congrArg Addr.block h)
  have h : ∀ d : Nat, (Op.equalIn (d + 1) 23 (.pointer (some ⟨a, 0, none⟩)) (.pointer (some ⟨b, 0, none⟩))).run Yba.prog w = .ok false w := fun d => by
    simp [Op.equalIn, run_underlying Yba.underlying23, sizeOf, typeInfo, hi, hz, run_sameAddr_other w hab ha hb]
  constructor
  · simp only [binOp]
    simp [Op.equal, Op.maxDepth, h 9999]
  · simp only [binOp]
    simp [Op.equal, Op.maxDepth, h 9999]

theorem Set_same (ib : Nat) (w : World) : Calls Yba.prog 22 #[.pointer (some ⟨ib, 0, none⟩), .pointer (some ⟨ib, 0, none⟩)] w fun e w' => e = .returned (.pointer (some ⟨ib, 0, none⟩)) ∧ w' = w := by
  have h := neq_int_same ⟨ib, 0, none⟩ w
  go_enter Yba.func22, Yba.ntmps22
  go_wp2
  go_ret
  exact ⟨rfl, rfl⟩

theorem Neg_same (B ib m : Nat) (neg : Bool) (bs : List Int) (w : World) (hI : IntIs B w ib neg bs m) :
    Calls Yba.prog 21 #[.pointer (some ⟨ib, 0, none⟩), .pointer (some ⟨ib, 0, none⟩)] w fun e w' => e = .returned (.pointer (some ⟨ib, 0, none⟩)) ∧ IntIs B w' ib (decide (0 < m) && !neg) bs m ∧ Upd [ib] w w' := by
  obtain ⟨v, h1, h2, h3⟩ := hI
  obtain ⟨va, vc, rfl, _⟩ := owns_slice h2
  have c0 : w.cell? ⟨ib, 0, none⟩ = some (.bool neg) := cell_at h1 0
  have c1 : w.cell? ⟨ib, 1, none⟩ = some (.slice va m vc) := cell_at h1 1
  have f0 := free_at h1 0
  have H1 : Hid (w.heap[ib]? = some (.cells #[.bool neg, .slice va m vc] 39 (0,0)) ∧ w.ownsRow B 104 1 (.slice va m vc) m (wordVals bs m) ∧ Top bs m ∧ Roomy (.slice va m vc) m) := ⟨h1, h2, h3⟩
  have hm : m ≤ 200 := h3.1.1
  clear h1 h2 h3
  by_cases hm0 : m = 0
  · subst hm0
    go_enter Yba.func21, Yba.ntmps21
    go_wp2_with fail
    refine (Set_same ib w).mono ?_
    rintro e w1 ⟨rfl, rfl⟩
    go_wp2
    go_ret
    refine ⟨rfl, ⟨_, by simpa using set_at H1.out.1 0 (.bool false), owns_set H1.out.2.1 (owns_ne H1.out.2.1 H1.out.1 (by decide)) _, H1.out.2.2⟩, Upd.setCell (Upd.refl _ _) (.inl (by simp)) _⟩
  · have hpos : (0 : Int) < (m : Int) := by omega
    have hd : decide (0 < m) = true := by simp; omega
    rw [hd]
    go_enter Yba.func21, Yba.ntmps21
    go_wp2_with fail
    refine (Set_same ib w).mono ?_
    rintro e w1 ⟨rfl, rfl⟩
    go_wp2
    go_ret
    refine ⟨rfl, ⟨_, by simpa using set_at H1.out.1 0 (.bool (!neg)), owns_set H1.out.2.1 (owns_ne H1.out.2.1 H1.out.1 (by decide)) _, H1.out.2.2⟩, Upd.setCell (Upd.refl _ _) (.inl (by simp)) _⟩

set_option maxRecDepth 100000 in
set_option maxHeartbeats 1000000 in
theorem Set_other (B zb xb m : Nat) (neg : Bool) (bs : List Int) (w : World) (hne : zb ≠ xb) (hz : w.heap[zb]? = some (.cells #[.bool false, .slice none 0 0] 39 (0,0))) (hI : IntIs B w xb neg bs m) :
    Calls Yba.prog 22 #[.pointer (some ⟨zb, 0, none⟩), .pointer (some ⟨xb, 0, none⟩)] w fun e w' => e = .returned (.pointer (some ⟨zb, 0, none⟩)) ∧ IntIs w.heap.size w' zb neg bs m ∧ Upd [zb] w w' := by
  obtain ⟨v, h1, h2, h3⟩ := hI
  have hq := (neq_int_other w hne hz h1).1
  obtain ⟨va, vc, rfl, _⟩ := owns_slice h2
  have c0 : w.cell? ⟨xb, 0, none⟩ = some (.bool neg) := cell_at h1 0
  have c1 : w.cell? ⟨xb, 1, none⟩ = some (.slice va m vc) := cell_at h1 1
  have c2 : w.cell? ⟨zb, 1, none⟩ = some (.slice none 0 0) := cell_at hz 1
  have H1 : Hid (w.heap[xb]? = some (.cells #[.bool neg, .slice va m vc] 39 (0,0)) ∧ w.ownsRow B 104 1 (.slice va m vc) m (wordVals bs m) ∧ (Top bs m ∧ Roomy (.slice va m vc) m) ∧ w.heap[zb]? = some (.cells #[.bool false, .slice none 0 0] 39 (0,0))) := ⟨h1, h2, h3, hz⟩
  have hm : m ≤ 200 := h3.1.1
  clear h1 h2 h3 hz
  go_enter Yba.func22, Yba.ntmps22
  go_wp2_with fail
  refine wp_region_lex [0,0,0,0,1,0,0,0,1,2,4,4,3] (fun w' => Upd [] w w') (by kernel_rfl) (by kernel_rfl) (fun _ _ _ _ _ h => h) ((Upd.refl [] w).drew) ?_
  simp only [List.zip_cons_cons, List.zip_nil_right]
  repeat (first
    | (refine lex0 ?_ rfl ?_ ?_; rotate_left; (focus (intro w'; go_simp; (first | done | with_reducible rfl))); simp only [Act.put, List.setIfInBounds_toArray, List.set_cons_zero, List.set_cons_succ])
    | (refine lex1 ?_ rfl ?_ ?_; rotate_left; (focus (intro w' hSw; replace hSw : Upd [] w w' := hSw; have e1 := hSw.cell c1 (by simp); have e2 := hSw.cell c2 (by simp); go_simp; (first | done | with_reducible rfl))); simp only [Act.put, List.setIfInBounds_toArray, List.set_cons_zero, List.set_cons_succ]))
  refine lex2 (fun K hK => ?_)
  go_simp
  refine (natset_any B m (.slice va m vc) (wordVals bs m) w.drew H1.out.2.1 hm wordVals_one).mono ?_
  rintro e w1 ⟨v', rfl, ho, hu, hroom⟩
  have hU : Upd [] w w1 := ((Upd.refl [] w).drew).transTo hu (by simp)
  refine hK _ _ hU ?_
  clear hK K
  have hz1 : w1.heap[zb]? = some (.cells #[.bool false, .slice none 0 0] 39 (0,0)) := hU.keep H1.out.2.2.2 (by simp)
  have d1 : w1.cell? ⟨zb, 1, none⟩ = some (.slice none 0 0) := cell_at hz1 1
  have g1 := free_at hz1 1
  obtain ⟨ua, uc, rfl, _⟩ := owns_slice ho
  have HRm : Hid (Roomy (.slice ua m uc) m) := hroom
  clear hroom
  try simp only [Act.put, List.setIfInBounds_toArray, List.set_cons_zero, List.set_cons_succ]
  repeat (refine lex4 ?_ rfl ?_ ?_; rotate_left; (focus (intro w'; go_simp; (first | done | with_reducible rfl))); simp only [Act.put, List.setIfInBounds_toArray, List.set_cons_zero, List.set_cons_succ])
  refine lex3 (fun K hK => ?_)
  go_simp
  refine hK _ _ ?_
  clear hK K
  try simp only [Act.put, List.setIfInBounds_toArray, List.set_cons_zero, List.set_cons_succ]
  refine lexE ?_
  have d0 : (w1.setCell ⟨zb, 1, none⟩ (.slice ua m uc)).cell? ⟨xb, 0, none⟩ = some (.bool neg) := (World.cell?_setCell_other _ ⟨zb, 1, none⟩ ⟨xb, 0, none⟩ _ (by simp)).trans (hU.cell c0 (by simp))
  have d2 : (w1.setCell ⟨zb, 1, none⟩ (.slice ua m uc)).cell? ⟨zb, 0, none⟩ = some (.bool false) := (World.cell?_setCell_other _ ⟨zb, 1, none⟩ ⟨zb, 0, none⟩ _ (by simp)).trans (cell_at hz1 0)
  have g0 := free_at (set_at hz1 1 (.slice ua m uc)) 0
  have H2 : Hid (w1.heap[zb]? = some (.cells #[.bool false, .slice none 0 0] 39 (0,0)) ∧ w1.ownsRow w.heap.size 104 1 (.slice ua m uc) m (wordVals bs m) ∧ Upd [] w w1) := ⟨hz1, ho, hU⟩
  clear hz1 ho hU hu d1 g1
  go_wp2
  go_ret
  have hn := owns_ne H2.out.2.1 H2.out.1 (by decide)
  refine ⟨rfl, ⟨.slice ua m uc, by simpa using set_at (set_at H2.out.1 1 (.slice ua m uc)) 0 (.bool neg), owns_set (owns_set H2.out.2.1 hn _) hn _, H1.out.2.2.1.1, HRm.out⟩, Upd.setCell (Upd.setCell (H2.out.2.2.mono (by simp)) (.inl (by simp)) _) (.inl (by simp)) _⟩

theorem IntIs.keep {B ib m : Nat} {w w' : World} {neg : Bool} {bs : List Int} (h : IntIs B w ib neg bs m) {S : List Nat} (hu : Upd S w w') (h1 : ib ∉ S) (h2 : ∀ (b : Nat) (c : Array Value), w.heap[b]? = some (.cells c 104 (0,0)) → b ∉ S) : IntIs B w' ib neg bs m := by
  obtain ⟨v, e1, e2, e3⟩ := h
  refine ⟨v, hu.keep e1 h1, hu.owns e2 ?_, e3⟩
  intro g hg
  obtain ⟨cur, hh, _⟩ := owns_block e2 hg
  exact h2 g cur hh
theorem IntIs.mono {B B' ib m : Nat} {w : World} {neg : Bool} {bs : List Int} (h : IntIs B w ib neg bs m) (hB : B' ≤ B) : IntIs B' w ib neg bs m := by
  obtain ⟨v, e1, e2, e3⟩ := h
  exact ⟨v, e1, owns_mono e2 hB, e3⟩

theorem build_nil (neg : Bool) (a : Option Addr) (L c : Nat) (w : World) : Calls Yba.prog 6 #[.bool true, .bool neg, .slice a L c] w fun e w' => e = .returned (.pointer none) ∧ w' = w := by
  go_enter Yba.func6, Yba.ntmps6
  go_wp2
  go_ret
  exact ⟨rfl, rfl⟩

theorem build_any (neg : Bool) (L c : Nat) (a : Option Addr) (bs : List Int) (w : World) (hL : L ≤ 1024) (hLc : L ≤ c) (hB : Byts w a L bs) :
    Calls Yba.prog 6 #[.bool false, .bool neg, .slice a L c] w fun e w' => e = .returned (.pointer (some ⟨w.heap.size, 0, none⟩)) ∧ (∃ m, IntIs w.heap.size w' w.heap.size (neg && decide (0 < m)) bs m) ∧ Upd [] w w' := by
  have H := SetBytes_any w.heap.size w.heap.size L c a bs (w.alloc (.cells #[.bool false, .slice none 0 0] 39)) hL hLc (hB.keep (Upd.alloc (Upd.refl [] w) _) (by simp)) (heap_last _ _ _ rfl) (by simp)
  clear hB
  cases neg with
  | false =>
    go_enter Yba.func6, Yba.ntmps6
    go_wp2_with fail
    refine H.mono ?_
    rintro e w1 ⟨rfl, ⟨m, hI⟩, hu⟩
    clear H
    go_wp2
    go_ret
    exact ⟨rfl, ⟨m, by simpa using hI⟩, (Upd.alloc (Upd.refl _ _) _).transTo hu (by intro i hi; right; simp at hi; omega)⟩
  | true =>
    go_enter Yba.func6, Yba.ntmps6
    go_wp2_with fail
    refine H.mono ?_
    rintro e w1 ⟨rfl, ⟨m, hI⟩, hu⟩
    clear H
    go_wp2_with fail
    refine (Neg_same w.heap.size w.heap.size m false bs w1 hI).mono ?_
    rintro e w2 ⟨rfl, hI2, hu2⟩
    go_wp2
    go_ret
    exact ⟨rfl, ⟨m, by simpa using hI2⟩, ((Upd.alloc (Upd.refl _ _) _).transTo hu (by intro i hi; right; simp at hi; omega)).transTo hu2 (by intro i hi; right; simp at hi; omega)⟩

theorem clone_nil (w : World) : Calls Yba.prog 7 #[.pointer none] w fun e w' => e = .returned (.pointer (some ⟨w.heap.size, 0, none⟩)) ∧ IntIs w.heap.size w' w.heap.size false [] 0 ∧ Upd [] w w' := by
  go_enter Yba.func7, Yba.ntmps7
  go_wp2
  go_ret
  exact ⟨rfl, ⟨_, heap_last _ _ _ rfl, World.ownsRow_nil _ _ _ _, ⟨by omega, fun k _ => word_far (by simp), .inl rfl⟩, fun _ _ _ _ => .inl (by omega)⟩, Upd.alloc (Upd.refl _ _) _⟩

theorem clone_any (B xb m : Nat) (neg : Bool) (bs : List Int) (w : World) (hI : IntIs B w xb neg bs m) :
    Calls Yba.prog 7 #[.pointer (some ⟨xb, 0, none⟩)] w fun e w' => e = .returned (.pointer (some ⟨w.heap.size, 0, none⟩)) ∧ IntIs w.heap.size w' w.heap.size neg bs m ∧ Upd [] w w' := by
  have hx : xb < w.heap.size := by obtain ⟨v, e1, _⟩ := hI; exact lt_of_heap e1
  have H := Set_other B w.heap.size xb m neg bs (w.alloc (.cells #[.bool false, .slice none 0 0] 39)) (by omega) (heap_last _ _ _ rfl) (hI.keep (Upd.alloc (Upd.refl [] w) _) (by simp) (by simp))
  clear hI
  go_enter Yba.func7, Yba.ntmps7
  go_wp2_with fail
  refine H.mono ?_
  rintro e w1 ⟨rfl, hI, hu⟩
  clear H
  go_wp2
  go_ret
  exact ⟨rfl, hI.mono (by simp), (Upd.alloc (Upd.refl _ _) _).transTo hu (by intro i hi; right; simp at hi; omega)⟩

end Go.Proofs.Ybulkcspi
