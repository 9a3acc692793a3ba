/-
  WALKS, THIRD PART: removeLink of the last link of a sub-region, removeLinks.
-/
import Derived.Test.YbulkcsogWb
import Derived.Laws.BitsLemmas
namespace Go.Proofs.Ybulkcsog
open Go.RowKit Go.Lib
attribute [local go_sem ↓] Go.wp_at_zero Go.wp_at_succ

set_option maxRecDepth 100000 in
set_option maxHeartbeats 1000000 in
theorem removeLink_last (B pb csb ns cc i rb q c nu : Nat) (ul : Value) (s : ByteArray) (xs : List Value) (parr carr arr : Array Value) (w : World) (hB : B ≤ w.heap.size)
    (hp : w.heap[pb]? = some (.cells parr 88 (0,0))) (hp1 : parr[64]? = some (.slice (some ⟨csb, 0, none⟩) ns cc)) (hp2 : parr[68]? = some ul)
    (hcs : w.heap[csb]? = some (.cells carr 67 (0,0))) (hci : carr[i]? = some (.slice (some ⟨rb, 0, none⟩) (q + 1) c)) (hin : i < ns)
    (hr : w.heap[rb]? = some (.cells arr 49 (0,0))) (hrs : arr[q * 4]? = some (.string s)) (hrz : q * 4 + 4 ≤ arr.size) (hqc : q + 1 ≤ c) (hq : q ≤ 5000)
    (hul : w.ownsRow B 9 1 ul nu xs) (hnu : nu ≤ 100000) :
    Calls Yba.prog 30 #[.pointer (some ⟨pb, 0, none⟩), .int .i64 i, .int .i64 q] w
      fun e w' => e = .returned (.tuple #[]) ∧ ∃ (ul' : Value) (arr' : Array Value), w'.heap[pb]? = some (.cells (parr.setIfInBounds 68 ul') 88 (0,0)) ∧ w'.heap[csb]? = some (.cells (carr.setIfInBounds i (.slice (some ⟨rb, 0, none⟩) q c)) 67 (0,0)) ∧
        w'.heap[rb]? = some (.cells arr' 49 (0,0)) ∧ arr'.size = arr.size ∧ (∀ j, j < q * 4 → arr'[j]? = arr[j]?) ∧ w'.ownsRow B 9 1 ul' (nu + 1) (xs ++ [.string s]) ∧ Upd (pb :: csb :: rb :: ul.ownBlock.toList) w w' ∧ (∀ g, ul'.ownBlock = some g → ul.ownBlock = some g ∨ w.heap.size ≤ g) := by
  obtain ⟨i0, hi, hz0, hz1, hz2⟩ := info_parts Yba.info9
  have n1 : pb ≠ csb := ne_elem hp hcs (by decide)
  have n2 : pb ≠ rb := ne_elem hp hr (by decide)
  have n3 : csb ≠ rb := ne_elem hcs hr (by decide)
  have m1 := owns_ne hul hp (by decide)
  have m2 := owns_ne hul hcs (by decide)
  have m3 := owns_ne hul hr (by decide)
  have d1 : w.cell? ⟨pb, 64, none⟩ = some (.slice (some ⟨csb, 0, none⟩) ns cc) := (cell_at hp 64).trans hp1
  have d2 : w.cell? ⟨pb, 68, none⟩ = some ul := (cell_at hp 68).trans hp2
  have d3 : w.cell? ⟨csb, i, none⟩ = some (.slice (some ⟨rb, 0, none⟩) (q + 1) c) := (cell_at hcs i).trans hci
  have d4 : w.cell? ⟨rb, q * 4, none⟩ = some (.string s) := (cell_at hr _).trans hrs
  have l1 := lt_of_heap hp
  have l2 := lt_of_heap hcs
  have l3 := lt_of_heap hr
  have Hp : Hid (w.heap[pb]? = some (.cells parr 88 (0,0))) := hp
  have Hc : Hid (w.heap[csb]? = some (.cells carr 67 (0,0))) := hcs
  have Hr : Hid (w.heap[rb]? = some (.cells arr 49 (0,0))) := hr
  have Hul : Hid (w.ownsRow B 9 1 ul nu xs) := hul
  obtain ⟨la, lc, hle, _⟩ := owns_slice hul
  have Hp1 : Hid (parr[64]? = some (.slice (some ⟨csb, 0, none⟩) ns cc)) := hp1
  have Hci : Hid (carr[i]? = some (.slice (some ⟨rb, 0, none⟩) (q + 1) c)) := hci
  clear hp hcs hr hul hp1 hp2 hci hrs
  have b1 : (0 : Int) ≤ (i : Int) := by omega
  have b2 : (i : Int) < (ns : Int) := by omega
  have b3 : (0 : Int) ≤ (q : Int) := by omega
  have b4 : (q : Int) < ((q + 1 : Nat) : Int) := by omega
  have b5 : (q : Int) < (q : Int) + 1 := by omega
  have hwq : IntKind.i64.wrap ((q : Int) + 1) = (q : Int) + 1 := by rw [IntKind.wrap_i64]; omega
  subst hle
  go_enter Yba.func30, Yba.ntmps30
  go_wp2_with fail
  refine wp_region_lex [0,0,0,0,0,1,0,0,0,0,1,0,0,1,0,0,0,1,2,2,4,4,4,3] (fun w' => Upd (Value.slice la nu lc).ownBlock.toList w w') (by kernel_rfl) (by kernel_rfl) (fun _ _ _ _ _ h => h) ((Upd.refl _ w).drew) ?_
  simp only [List.zip_cons_cons, List.zip_nil_right]
  repeat (first
    | (refine lex0 ?_ rfl ?_ ?_; rotate_left; (focus (intro w'; go_simp; (first | done | with_reducible rfl))); simp only [Act.put, List.setIfInBounds_toArray, List.set_cons_zero, List.set_cons_succ])
    | (refine lex1 ?_ rfl ?_ ?_; rotate_left; (focus (intro w' hSw; replace hSw : Upd (Value.slice la nu lc).ownBlock.toList w w' := hSw; have e1 := hSw.cell d1 (by simpa using m1); have e2 := hSw.cell d2 (by simpa using m1); have e3 := hSw.cell d3 (by simpa using m2); have e4 := hSw.cell d4 (by simpa using m3); go_simp; (first | done | with_reducible rfl))); simp only [Act.put, List.setIfInBounds_toArray, List.set_cons_zero, List.set_cons_succ]))
  refine lex2 (fun K hK => ?_)
  go_simp
  refine hK _ _ ((Upd.alloc (Upd.refl _ w) _).drew) ?_
  clear hK K
  try simp only [Act.put, List.setIfInBounds_toArray, List.set_cons_zero, List.set_cons_succ]
  refine lex2 (fun K hK => ?_)
  refine step_append_lies _ (by rfl) _ _ _ (by rfl) B 9 i0 _ 1 16 Yba.underlying54 hi hz0 hz1 hz2 rfl (by omega) (.slice la nu lc) nu xs (by rfl) ((Hul.out.alloc _).drew) ⟨w.heap.size, 0, none⟩ 1 1 [.string s] (by rfl) (by rfl) (World.news_of_block (cs := #[.string s]) (t := 9) (fr := (0, 0)) (heap_last w _ _ (by simp))) (by simp [Value.oneCell']) (by omega) (by unfold maxLen; omega) (by omega) (by simp; omega) (w.heap.size + 1) (by simp) ?_
  intro gg cap w1 hown1 hgrow1 hat1 hlt1
  have U1 : Upd (Value.slice la nu lc).ownBlock.toList w w1 := Upd.grown (Upd.drew (Upd.alloc (Upd.refl _ w) _)) hgrow1 (fun k hk => .inl (by simp [hk]))
  refine hK _ _ U1 ?_
  clear hK K
  have hp1 : Hid (w1.heap[pb]? = some (.cells parr 88 (0,0))) := U1.keep Hp.out (by simpa using m1)
  have e5 := U1.cell d2 (by simpa using m1)
  have f5 := free_at hp1.out 68
  try simp only [Act.put, List.setIfInBounds_toArray, List.set_cons_zero, List.set_cons_succ]
  repeat (refine lex4 ?_ rfl ?_ ?_; rotate_left; (focus (intro w'; go_simp; (first | done | with_reducible rfl))); simp only [Act.put, List.setIfInBounds_toArray, List.set_cons_zero, List.set_cons_succ])
  refine lex3 (fun K hK => ?_)
  go_simp
  refine hK _ _ ?_
  clear hK K
  try simp only [Act.put, List.setIfInBounds_toArray, List.set_cons_zero, List.set_cons_succ]
  refine lexE ?_
  have hw2p : Hid ((w1.setCell ⟨pb, 68, none⟩ (.slice (some ⟨gg, 0, none⟩) (nu + 1) cap)).heap[pb]? = some (.cells (parr.setIfInBounds 68 (.slice (some ⟨gg, 0, none⟩) (nu + 1) cap)) 88 (0,0))) := set_at hp1.out 68 _
  have hw2c : Hid ((w1.setCell ⟨pb, 68, none⟩ (.slice (some ⟨gg, 0, none⟩) (nu + 1) cap)).heap[csb]? = some (.cells carr 67 (0,0))) := (set_ne (Ne.symm n1)).trans (U1.keep Hc.out (by simpa using m2))
  have hw2r : Hid ((w1.setCell ⟨pb, 68, none⟩ (.slice (some ⟨gg, 0, none⟩) (nu + 1) cap)).heap[rb]? = some (.cells arr 49 (0,0))) := (set_ne (Ne.symm n2)).trans (U1.keep Hr.out (by simpa using m3))
  have hw2o : Hid ((w1.setCell ⟨pb, 68, none⟩ (.slice (some ⟨gg, 0, none⟩) (nu + 1) cap)).ownsRow B 9 1 (.slice (some ⟨gg, 0, none⟩) (nu + 1) cap) (nu + 1) (xs ++ [.string s])) := owns_set hown1 (owns_ne hown1 hp1.out (by decide)) _
  have U2 : Hid (Upd (pb :: csb :: rb :: (Value.slice la nu lc).ownBlock.toList) w (w1.setCell ⟨pb, 68, none⟩ (.slice (some ⟨gg, 0, none⟩) (nu + 1) cap))) := Upd.setCell (U1.mono (fun j hj => List.mem_cons_of_mem _ (List.mem_cons_of_mem _ (List.mem_cons_of_mem _ hj)))) (.inl (by simp)) _
  generalize w1.setCell ⟨pb, 68, none⟩ (.slice (some ⟨gg, 0, none⟩) (nu + 1) cap) = w2 at *
  have hat : Hid (∀ g, (Value.slice (some ⟨gg, 0, none⟩) (nu + 1) cap).ownBlock = some g → (Value.slice la nu lc).ownBlock = some g ∨ w.heap.size ≤ g) := by
    intro g hg
    simp [Value.ownBlock] at hg
    subst hg
    rcases hat1 with h | h
    · exact .inl h
    · exact .inr (by omega)
  clear e5 f5 hp1 U1 d1 d2 d3 d4 hown1 hgrow1 hat1 hlt1
  have d1 : w2.cell? ⟨pb, 64, none⟩ = some (.slice (some ⟨csb, 0, none⟩) ns cc) := by rw [cell_at hw2p.out, Array.getElem?_setIfInBounds, if_neg (by omega)]; exact Hp1.out
  have d3 : w2.cell? ⟨csb, i, none⟩ = some (.slice (some ⟨rb, 0, none⟩) (q + 1) c) := (cell_at hw2c.out i).trans Hci.out
  go_wp2_with fail
  refine wp_region_lex [0,0,0,0,1,0,0,0,0,0,1,0,0,1,0,0,0,2,4,3] (fun w' => Upd [rb] w2 w') (by kernel_rfl) (by kernel_rfl) (fun _ _ _ _ _ h => h) ((Upd.refl [rb] w2).drew) ?_
  simp only [List.zip_cons_cons, List.zip_nil_right]
  repeat (first
    | (refine lex0 ?_ rfl ?_ ?_; rotate_left; (focus (intro w'; go_simp; (first | done | with_reducible rfl))); simp only [Act.put, List.setIfInBounds_toArray, List.set_cons_zero, List.set_cons_succ])
    | (refine lex1 ?_ rfl ?_ ?_; rotate_left; (focus (intro w' hSw; replace hSw : Upd [rb] w2 w' := hSw; have e1 := hSw.cell d1 (by simpa using n2); have e3 := hSw.cell d3 (by simpa using n3); go_simp; (first | done | with_reducible rfl))); simp only [Act.put, List.setIfInBounds_toArray, List.set_cons_zero, List.set_cons_succ]))
  refine lex2 (fun K hK => ?_)
  go_simp
  refine (delete_last rb q c w2.drew arr hw2r.out hrz hqc (by omega)).mono ?_
  rintro e w3 ⟨rfl, ⟨arr', hr3, hrs3, hrk3⟩, hu3⟩
  refine hK _ _ ((Upd.refl [rb] w2).drew.transTo hu3 (fun j hj => .inl hj)) ?_
  clear hK K
  try simp only [Act.put, List.setIfInBounds_toArray, List.set_cons_zero, List.set_cons_succ]
  have hc3 : Hid (w3.heap[csb]? = some (.cells carr 67 (0,0))) := hu3.keep hw2c.out (by simpa using n3)
  have b6 : w3.cell? ⟨csb, i, none⟩ = some (.slice (some ⟨rb, 0, none⟩) (q + 1) c) := (cell_at hc3.out i).trans Hci.out
  have f5 := free_at hc3.out i
  repeat (refine lex4 ?_ rfl ?_ ?_; rotate_left; (focus (intro w'; go_simp; (first | done | with_reducible rfl))); simp only [Act.put, List.setIfInBounds_toArray, List.set_cons_zero, List.set_cons_succ])
  refine lex3 (fun K hK => ?_)
  go_simp
  refine hK _ _ ?_
  clear hK K
  try simp only [Act.put, List.setIfInBounds_toArray, List.set_cons_zero, List.set_cons_succ]
  refine lexE ?_
  go_end0
  refine ⟨rfl, .slice (some ⟨gg, 0, none⟩) (nu + 1) cap, arr', (set_ne n1).trans (hu3.keep hw2p.out (by simpa using n2)), set_at hc3.out i _, (set_ne (Ne.symm n3)).trans hr3, hrs3, hrk3, ?_, ?_, hat.out⟩
  · have ho3 := hu3.owns (w := w2.drew) hw2o.out (by
      intro g hg
      simp
      rintro rfl
      exact owns_ne hw2o.out hw2r.out (by decide) hg)
    exact owns_set ho3 (owns_ne ho3 hc3.out (by decide)) _
  · exact Upd.setCell (U2.out.drew.transTo hu3 (by intro j hj; left; simp at hj; simp [hj])) (.inl (by simp)) _

end Go.Proofs.Ybulkcsog
