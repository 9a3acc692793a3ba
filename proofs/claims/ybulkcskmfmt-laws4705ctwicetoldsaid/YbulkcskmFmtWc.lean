/-
  WALKS, THIRD PART: (*auth).sign.
-/
import Derived.Test.YbulkcskmFmtWb
namespace Go.Proofs.YbulkcskmFmt
open Go.RowKit Go.Lib
attribute [local go_sem ↓] Go.wp_at_zero Go.wp_at_succ

/-- The synchronizer's block. -/
def sCells (hb gb : Nat) (pv : Value) (self n f view : Int) (hi lv : Value) : Array Value :=
  #[.iface 25 (.pointer (some ⟨hb, 0, none⟩)), .iface 30 (.pointer (some ⟨gb, 0, none⟩)), pv, .int .i64 self, .int .i64 n, .int .i64 f, .int .u64 view, hi, lv]

set_option maxRecDepth 100000 in
set_option maxHeartbeats 1000000 in
theorem sign_any (B hb gb sb L m : Nat) (tag V self n f view : Int) (w : World) (pv hi lv pays ver : Value) (bs ps : List Value) (hB : B ≤ w.heap.size) (hV : 0 ≤ V) (hV2 : V ≤ 18446744073709551615)
    (hs : w.heap[sb]? = some (.cells (sCells hb gb pv self n f view hi lv) 51 (0,0)))
    (hg : w.heap[gb]? = some (.cells #[.int .u8 tag, pays, ver] 33 (0,0)))
    (hp : w.ownsRow B 5 1 pv L bs) (hpays : w.ownsRow B 39 1 pays m ps) (hm : m ≤ 100) :
    Calls Ybaf.prog 13 #[.pointer (some ⟨sb, 1, none⟩), .agg #[.int .u8 1, .int .u64 V, .int .u64 0, .slice none 0 0, .bool false, .slice none 0 0]] w
      fun e w' => ∃ gg cb pg pc pays', e = .returned (.agg #[.int .u8 1, .int .u64 V, .int .u64 0, .slice none 0 0, .bool false, .slice (some ⟨gg, 0, none⟩) 3 3]) ∧
        w'.heap[sb]? = some (.cells (sCells hb gb (.slice (some ⟨pg, 0, none⟩) 35 pc) self n f view hi lv) 51 (0,0)) ∧
        w'.ownsRow B 5 1 (.slice (some ⟨pg, 0, none⟩) 35 pc) 35 (payCells V) ∧
        w'.heap[gb]? = some (.cells #[.int .u8 tag, pays', ver] 33 (0,0)) ∧ w'.ownsRow B 39 1 pays' (m + 1) (ps ++ [.slice (some ⟨cb, 0, none⟩) 35 35]) ∧
        w'.heap[cb]? = some (.cells (payCells V).toArray 5 (0,0)) ∧ w'.heap[gg]? = some (.cells #[.int .u8 tag, .int .u8 35, .int .u8 m] 5 (0,0)) ∧
        w.heap.size ≤ cb ∧ pg < cb ∧ cb < gg ∧ Upd (sb :: gb :: (pv.ownBlock.toList ++ pays.ownBlock.toList)) w w' ∧
        (pv.ownBlock = some pg ∨ w.heap.size ≤ pg) ∧ (∀ g, pays'.ownBlock = some g → pays.ownBlock = some g ∨ w.heap.size ≤ g) := by
  have c2 : w.cell? ⟨sb, 2, none⟩ = some pv := cell_at hs 2
  have hsl := lt_of_heap hs
  have Hs : Hid (w.heap[sb]? = some (.cells (sCells hb gb pv self n f view hi lv) 51 (0,0))) := hs
  obtain ⟨po, pcap, hpo⟩ : ∃ po pcap, w.ownsRow B 5 1 (.slice po 0 pcap) 0 [] ∧ pv = .slice po L pcap ∧ (.slice po 0 pcap : Value).ownBlock = pv.ownBlock := by
    rcases hp.2 with ⟨rfl, rfl⟩ | ⟨g, cap, cur, rfl, _⟩
    · exact ⟨none, 0, World.ownsRow_nil _ _ _ _, rfl, rfl⟩
    · exact ⟨_, cap, owns_cut0 hp, rfl, rfl⟩
  obtain ⟨hp0, rfl, hpob⟩ := hpo
  have Hp0 : Hid (w.ownsRow B 5 1 (.slice po 0 pcap) 0 []) := hp0
  have hcapL : L ≤ pcap := by
    rcases hp.2 with ⟨h, h0⟩ | ⟨g, cap, cur, h, _, _, h1, _⟩
    · simp at h; omega
    · simp at h; omega
  clear hp hp0 hs
  go_enter Ybaf.func13, Ybaf.ntmps13
  go_wp2_with fail
  refine (as_any B w.heap.size V _ (.slice po 0 pcap) (.int .u64 0) (.slice none 0 0) (.bool false) (.slice none 0 0) ?_ hV hV2 ((Hp0.out.alloc _).alloc _) ?_).mono ?_
  · simp; omega
  · exact heap_past (heap_last w _ _ rfl) _
  rintro e w1 ⟨pg, pc, rfl, hown1, hu1, hat1⟩
  rw [hpob] at hu1 hat1
  have hnS : (Value.slice po L pcap).ownBlock ≠ some sb := by
    rw [← hpob]; exact owns_ne Hp0.out Hs.out (by decide)
  have hs1 : Hid (w1.heap[sb]? = some (.cells (sCells hb gb (.slice po L pcap) self n f view hi lv) 51 (0,0))) :=
    hu1.keep (heap_past (heap_past Hs.out _) _) (by intro hm; simp at hm; exact hnS hm)
  have hnG : (Value.slice po L pcap).ownBlock ≠ some gb := by
    rw [← hpob]; exact owns_ne Hp0.out hg (by decide)
  have hg1 : Hid (w1.heap[gb]? = some (.cells #[.int .u8 tag, pays, ver] 33 (0,0))) :=
    hu1.keep (heap_past (heap_past hg _) _) (by intro hm; simp at hm; exact hnG hm)
  have hnL : ∀ k, w.heap.size ≤ k → (Value.slice po L pcap).ownBlock ≠ some k := by
    intro k hk h
    rw [← hpob] at h
    obtain ⟨_, h1, _⟩ := owns_block Hp0.out h
    have := lt_of_heap h1
    omega
  have hm1 : Hid (w1.heap[w.heap.size]? = some (.cells #[.int .u8 1, .int .u64 V, .int .u64 0, .slice none 0 0, .bool false, .slice none 0 0] 65 (0,0))) :=
    hu1.keep (heap_past (heap_last w _ _ rfl) _) (by intro hm; simp at hm; exact hnL _ (Nat.le_refl _) hm)
  have hr1 : Hid (w1.heap[w.heap.size + 1]? = some (.cells #[.int .u8 0, .int .u64 0, .int .u64 0, .slice none 0 0, .bool false, .slice none 0 0] 65 (0,0))) :=
    hu1.keep (heap_last (w.alloc _) _ _ (by simp)) (by intro hm; simp at hm; exact hnL _ (by omega) hm)
  have hpays1 : Hid (w1.ownsRow B 39 1 pays m ps) := hu1.owns ((hpays.alloc _).alloc _) (by
    intro g hgo hm
    simp at hm
    obtain ⟨_, h1, _⟩ := owns_block hpays hgo
    rw [← hpob] at hm
    obtain ⟨_, h2, _⟩ := owns_block Hp0.out hm
    exact ne_elem h1 h2 (by decide) rfl)
  have hf1 := free_at hs1.out 2
  have c1 : w1.cell? ⟨sb, 1, none⟩ = some (.iface 30 (.pointer (some ⟨gb, 0, none⟩))) := cell_at hs1.out 1
  have c12 : w1.cell? ⟨sb, 2, none⟩ = some (.slice po L pcap) := cell_at hs1.out 2
  have hlt2 : w.heap.size + 2 ≤ w1.heap.size := by have := hu1.size; simp at this; omega
  clear c2
  go_wp2_with fail
  obtain ⟨w2, hw2⟩ : ∃ w2, w2 = w1.setCell ⟨sb, 2, none⟩ (.slice (some ⟨pg, 0, none⟩) 35 pc) := ⟨_, rfl⟩
  rw [← hw2]
  have hs2 : Hid (w2.heap[sb]? = some (.cells (sCells hb gb (.slice (some ⟨pg, 0, none⟩) 35 pc) self n f view hi lv) 51 (0,0))) := by rw [hw2]; exact set_at hs1.out 2 _
  have hnes : sb ≠ gb := ne_elem hs1.out hg1.out (by decide)
  have hg2 : Hid (w2.heap[gb]? = some (.cells #[.int .u8 tag, pays, ver] 33 (0,0))) := by rw [hw2]; exact (set_ne (by simp; omega)).trans hg1.out
  have hm2 : Hid (w2.heap[w.heap.size]? = some (.cells #[.int .u8 1, .int .u64 V, .int .u64 0, .slice none 0 0, .bool false, .slice none 0 0] 65 (0,0))) := by rw [hw2]; exact (set_ne (by simp; omega)).trans hm1.out
  have hr2 : Hid (w2.heap[w.heap.size + 1]? = some (.cells #[.int .u8 0, .int .u64 0, .int .u64 0, .slice none 0 0, .bool false, .slice none 0 0] 65 (0,0))) := by rw [hw2]; exact (set_ne (by simp; omega)).trans hr1.out
  have hpays2 : Hid (w2.ownsRow B 39 1 pays m ps) := by rw [hw2]; exact owns_set hpays1.out (owns_ne hpays1.out hs1.out (by decide)) _
  have hown2 : Hid (w2.ownsRow B 5 1 (.slice (some ⟨pg, 0, none⟩) 35 pc) 35 (payCells V)) := by rw [hw2]; exact owns_set hown1 (owns_ne hown1 hs1.out (by decide)) _
  have U2 : Hid (Upd (sb :: gb :: ((Value.slice po L pcap).ownBlock.toList ++ pays.ownBlock.toList)) w w2) := by
    rw [hw2]
    refine Upd.setCell (Upd.transTo (Upd.alloc (Upd.alloc (Upd.refl _ w) _) _) hu1 ?_) (.inl (by simp)) _
    intro i hi; left; simp at hi ⊢; exact .inr (.inr (.inl hi))
  have hlt3 : w.heap.size + 2 ≤ w2.heap.size := by rw [hw2]; simpa using hlt2
  have hA : (Value.slice po L pcap).ownBlock = some pg ∨ w.heap.size ≤ pg := by
    rcases hat1 with h | h
    · exact .inl h
    · exact .inr (by simp at h; omega)
  have hpgl : pg < w2.heap.size := by obtain ⟨_, h, _⟩ := owns_open hown2.out; exact lt_of_heap h
  clear hw2 hu1 hat1 hs1 hg1 hm1 hr1 hpays1 hown1 hf1 c1 c12 hlt2 hpays hg hnG hnS hnL
  have d1 : w2.cell? ⟨sb, 1, none⟩ = some (.iface 30 (.pointer (some ⟨gb, 0, none⟩))) := cell_at hs2.out 1
  have d2 : w2.cell? ⟨sb, 2, none⟩ = some (.slice (some ⟨pg, 0, none⟩) 35 pc) := cell_at hs2.out 2
  have hBw2 : B ≤ w2.heap.size := by omega
  have hnp : pays.ownBlock ≠ some sb := owns_ne hpays2.out hs2.out (by decide)
  have hS1 : sb ∉ gb :: pays.ownBlock.toList := by simp; exact ⟨hnes, hnp⟩
  have hnp2 : pays.ownBlock ≠ some w.heap.size := owns_ne hpays2.out hm2.out (by decide)
  have hnp3 : pays.ownBlock ≠ some (w.heap.size + 1) := owns_ne hpays2.out hr2.out (by decide)
  have hgbl : gb < w2.heap.size := lt_of_heap hg2.out
  have hgm : w.heap.size ≠ gb := ne_elem hm2.out hg2.out (by decide)
  have hgr : w.heap.size + 1 ≠ gb := ne_elem hr2.out hg2.out (by decide)
  have hM1 : w.heap.size ∉ gb :: pays.ownBlock.toList := by simp; exact ⟨hgm, hnp2⟩
  have hR1 : w.heap.size + 1 ∉ gb :: pays.ownBlock.toList := by simp; exact ⟨hgr, hnp3⟩
  go_region_held3 (fun w' => w'.cell? ⟨sb, 1, none⟩ = some (.iface 30 (.pointer (some ⟨gb, 0, none⟩))) ∧ w'.cell? ⟨sb, 2, none⟩ = some (.slice (some ⟨pg, 0, none⟩) 35 pc))
    (first | go_keep | exact ⟨hu3.cell d1 hS1, hu3.cell d2 hS1⟩ | exact ⟨(World.cell?_of_block (set_ne (by simp; omega))).trans (hu3.cell d1 hS1), (World.cell?_of_block (set_ne (by simp; omega))).trans (hu3.cell d2 hS1)⟩)
    ((go_at_call 49; refine (Sign_any B gb pg pc 35 m tag w2.drew pays ver ps (payCells V) ?_ hpays2.out.drew hm (by omega) ?_ hown2.out.drew (payCells_one V)).mono ?_; (exact hBw2); (exact hg2.out); rintro e w3 ⟨gg, cb, pays', rfl, hg3, hpays3, hcb3, hgg3, hcb, hgg, hu3, hat3⟩; have hm3 : Hid (w3.heap[w.heap.size]? = some (.cells #[.int .u8 1, .int .u64 V, .int .u64 0, .slice none 0 0, .bool false, .slice none 0 0] 65 (0,0))) := hu3.keep hm2.out hM1; have f3 := free_at hm3.out 5; have k3 : w3.cell? ⟨w.heap.size, 5, none⟩ = some (.slice none 0 0) := cell_at hm3.out 5))
  obtain ⟨w4, hw4⟩ : ∃ w4, w4 = w3.setCell ⟨w.heap.size, 5, none⟩ (.slice (some ⟨gg, 0, none⟩) 3 3) := ⟨_, rfl⟩
  rw [← hw4]
  simp only [World.size_drew] at hcb hat3
  have hs3 := hu3.keep hs2.out hS1
  have hr3 := hu3.keep hr2.out hR1
  have hsz3 : w2.heap.size ≤ w3.heap.size := hu3.size
  have hm4 : Hid (w4.heap[w.heap.size]? = some (.cells #[.int .u8 1, .int .u64 V, .int .u64 0, .slice none 0 0, .bool false, .slice (some ⟨gg, 0, none⟩) 3 3] 65 (0,0))) := by rw [hw4]; exact set_at hm3.out 5 _
  have hr4 : Hid (w4.heap[w.heap.size + 1]? = some (.cells #[.int .u8 0, .int .u64 0, .int .u64 0, .slice none 0 0, .bool false, .slice none 0 0] 65 (0,0))) := by rw [hw4]; exact (set_ne (by simp)).trans hr3
  have hs4 : Hid (w4.heap[sb]? = some (.cells (sCells hb gb (.slice (some ⟨pg, 0, none⟩) 35 pc) self n f view hi lv) 51 (0,0))) := by rw [hw4]; exact (set_ne (by simp; omega)).trans hs3
  have hg4 : Hid (w4.heap[gb]? = some (.cells #[.int .u8 tag, pays', ver] 33 (0,0))) := by rw [hw4]; exact (set_ne (by simp; omega)).trans hg3
  have hcb4 : Hid (w4.heap[cb]? = some (.cells (payCells V).toArray 5 (0,0))) := by rw [hw4]; exact (set_ne (by simp; omega)).trans hcb3
  have hgg4 : Hid (w4.heap[gg]? = some (.cells #[.int .u8 tag, .int .u8 35, .int .u8 m] 5 (0,0))) := by rw [hw4]; exact (set_ne (by simp; omega)).trans hgg3
  have hpays4 : Hid (w4.ownsRow B 39 1 pays' (m + 1) (ps ++ [.slice (some ⟨cb, 0, none⟩) 35 35])) := by rw [hw4]; exact owns_set hpays3 (owns_ne hpays3 hm3.out (by decide)) _
  have hown3 := hu3.owns hown2.out.drew (by
    intro g hgo hm
    simp [Value.ownBlock] at hgo
    subst hgo
    obtain ⟨cur, h1, _⟩ := owns_open hown2.out
    simp at hm
    rcases hm with h | h
    · exact ne_elem h1 hg2.out (by decide) h
    · exact owns_ne hpays2.out h1 (by decide) h)
  have hown4 : Hid (w4.ownsRow B 5 1 (.slice (some ⟨pg, 0, none⟩) 35 pc) 35 (payCells V)) := by rw [hw4]; exact owns_set hown3 (owns_ne hown3 hm3.out (by decide)) _
  have U4 : Hid (Upd (sb :: gb :: ((Value.slice po L pcap).ownBlock.toList ++ pays.ownBlock.toList)) w w4) := by
    rw [hw4]
    refine Upd.setCell (Upd.transTo U2.out.drew hu3 ?_) (.inr (by simp)) _
    intro i hi
    left
    simp at hi ⊢
    rcases hi with h | h
    · exact .inr (.inl h)
    · exact .inr (.inr (.inr h))
  have hsz4 : w3.heap.size = w4.heap.size := by rw [hw4]; simp
  clear hw4 hm3 f3 k3 hs3 hr3 hg3 hcb3 hgg3 hpays3 hown3 U2 hu3 hs2 hg2 hm2 hr2 hpays2 hown2 hS1 hM1 hR1 d1 d2
  have l0 : w4.cell? ⟨w.heap.size, 0, none⟩ = some (.int .u8 1) := cell_at hm4.out 0
  have l1 : w4.cell? ⟨w.heap.size, 1, none⟩ = some (.int .u64 V) := cell_at hm4.out 1
  have l2 : w4.cell? ⟨w.heap.size, 2, none⟩ = some (.int .u64 0) := cell_at hm4.out 2
  have l3 : w4.cell? ⟨w.heap.size, 3, none⟩ = some (.slice none 0 0) := cell_at hm4.out 3
  have l4 : w4.cell? ⟨w.heap.size, 4, none⟩ = some (.bool false) := cell_at hm4.out 4
  have l5 : w4.cell? ⟨w.heap.size, 5, none⟩ = some (.slice (some ⟨gg, 0, none⟩) 3 3) := cell_at hm4.out 5
  have r0 : w4.cell? ⟨w.heap.size + 1, 0, none⟩ = some (.int .u8 0) := cell_at hr4.out 0
  have r1 : w4.cell? ⟨w.heap.size + 1, 1, none⟩ = some (.int .u64 0) := cell_at hr4.out 1
  have r2 : w4.cell? ⟨w.heap.size + 1, 2, none⟩ = some (.int .u64 0) := cell_at hr4.out 2
  have r3 : w4.cell? ⟨w.heap.size + 1, 3, none⟩ = some (.slice none 0 0) := cell_at hr4.out 3
  have r4 : w4.cell? ⟨w.heap.size + 1, 4, none⟩ = some (.bool false) := cell_at hr4.out 4
  have r5 : w4.cell? ⟨w.heap.size + 1, 5, none⟩ = some (.slice none 0 0) := cell_at hr4.out 5
  have fz : ∀ i, w4.frozen? ⟨w.heap.size + 1, i, none⟩ = false := fun i => free_at hr4.out i
  go_wp2
  refine bodyPost_ret (v := .agg #[.int .u8 1, .int .u64 V, .int .u64 0, .slice none 0 0, .bool false, .slice (some ⟨gg, 0, none⟩) 3 3]) (by simp [results, Ybaf.results13, go_sem, r0, r1, r2, r3, r4, r5]) rfl ?_
  generalize hw5 : (((((((w4.setCell ⟨w.heap.size + 1, 0, none⟩ (Value.int IntKind.u8 1)).setCell ⟨w.heap.size + 1, 1, none⟩ (Value.int IntKind.u64 V)).setCell ⟨w.heap.size + 1, 2, none⟩ (Value.int IntKind.u64 0)).setCell ⟨w.heap.size + 1, 3, none⟩ (Value.slice none 0 0)).setCell ⟨w.heap.size + 1, 4, none⟩ (Value.bool false)).setCell ⟨w.heap.size + 1, 5, none⟩ (Value.slice (some ⟨gg, 0, none⟩) 3 3)) : World) = w5
  have U5 : Upd [w.heap.size + 1] w4 w5 := by
    rw [← hw5]
    repeat (refine Upd.setCell ?_ (.inl (by simp)) _)
    exact Upd.refl _ _
  refine ⟨gg, cb, pg, pc, pays', rfl, U5.keep hs4.out (by simp; omega), U5.owns hown4.out ?_, U5.keep hg4.out (by simp; omega), U5.owns hpays4.out ?_, U5.keep hcb4.out (by simp; omega), U5.keep hgg4.out (by simp; omega), by omega, by omega, hgg, ?_, hA, ?_⟩
  · intro g hgo hm
    simp [Value.ownBlock] at hgo
    simp at hm
    subst hgo hm
    obtain ⟨_, h1, _⟩ := owns_open hown4.out
    exact ne_elem h1 hr4.out (by decide) rfl
  · intro g hgo hm
    simp at hm
    subst hm
    exact owns_ne hpays4.out hr4.out (by decide) hgo
  · exact Upd.transTo U4.out U5 (by intro i hi; simp at hi; exact .inr (by omega))
  · intro g hgo
    rcases hat3 g hgo with h | h
    · exact .inl h
    · exact .inr (by omega)

end Go.Proofs.YbulkcskmFmt
