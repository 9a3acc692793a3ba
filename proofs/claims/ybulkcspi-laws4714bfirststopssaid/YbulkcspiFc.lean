/-
  FIRST STOPS, THIRD PART: stopAt 18.
-/
import Derived.Test.YbulkcspiFb
namespace Go.Proofs.Ybulkcspi
open Go.RowKit Go.Lib Go.MuLone
attribute [local go_sem ↓] Go.wp_at_zero Go.wp_at_succ

theorem Run.turn {B rb kb wb cb g n m : Nat} {cf cf' : Option Addr} {st st' : Bool} {X X' : Nat → Int} {w w' : World} (h : Run B rb kb wb cb g n m cf st X w) (hu : Upd [rb, kb, g] w w')
    (h1 : ∃ rarr, w'.heap[rb]? = some (.cells rarr 83 (0,0)) ∧ rarr[8]? = some (.pointer (some ⟨kb, 0, none⟩)) ∧ rarr[16]? = some (.slice (some ⟨wb, 0, none⟩) n n) ∧ rarr[17]? = some (.pointer cf'))
    (h2 : ∃ karr, w'.heap[kb]? = some (.cells karr 98 (0,0)) ∧ karr[0]? = some (.int .i32 0) ∧ karr[14]? = some (.bool st'))
    (h3 : ∃ garr, w'.heap[g]? = some (.cells garr 3 (0,0)) ∧ garr.size = n ∧ ∀ j, j < n → garr[j]? = some (.int .i64 (X' j))) : Run B rb kb wb cb g n m cf' st' X' w' := by
  obtain ⟨rarr, karr, warr, garr, r1, r2, r3, r4, r5, r6, r7, r8, r9, r10, r11, r12, r13, r14, r15⟩ := h
  obtain ⟨rarr', q1, q2, q3, q4⟩ := h1
  obtain ⟨karr', q5, q6, q7⟩ := h2
  obtain ⟨garr', q8, q9, q10⟩ := h3
  refine ⟨rarr', karr', warr, garr', q1, q2, q3, q4, q5, q6, q7, hu.keep r8 ?_, r9, ?_, hu.keep r11 ?_, q8, q9, q10, r15⟩
  · simp only [List.mem_cons, List.not_mem_nil, or_false, not_or]
    exact ⟨ne_elem r8 r1 (by decide), ne_elem r8 r5 (by decide), ne_elem r8 r12 (by decide)⟩
  · intro j hj
    obtain ⟨v, hv1, hv2⟩ := r10 j hj
    refine ⟨v, hv1, hv2.keep hu ?_ ?_ ?_⟩
    · intro b c hb
      simp only [List.mem_cons, List.not_mem_nil, or_false, not_or]
      exact ⟨ne_elem hb r1 (by decide), ne_elem hb r5 (by decide), ne_elem hb r12 (by decide)⟩
    · intro b c hb
      simp only [List.mem_cons, List.not_mem_nil, or_false, not_or]
      exact ⟨ne_elem hb r1 (by decide), ne_elem hb r5 (by decide), ne_elem hb r12 (by decide)⟩
    · intro b c hb hB
      simp only [List.mem_cons, List.not_mem_nil, or_false, not_or]
      exact ⟨ne_elem hb r1 (by decide), ne_elem hb r5 (by decide), by omega⟩
  · simp only [List.mem_cons, List.not_mem_nil, or_false, not_or]
    exact ⟨ne_elem r11 r1 (by decide), ne_elem r11 r5 (by decide), ne_elem r11 r12 (by decide)⟩

/-- A conflict is recorded: nothing happens. -/
theorem stopAt_miss (B rb kb wb cb g n c : Nat) (d : Addr) (st : Bool) (X : Nat → Int) (v : Value) (w : World) (hR : Run B rb kb wb cb g n n (some d) st X w) (hc : w.cell? ⟨c, 0, none⟩ = some v) :
    Calls Yba.prog 18 #[.pointer (some ⟨rb, 0, none⟩), .pointer (some ⟨c, 0, none⟩)] w fun e w' => e = .returned (.tuple #[]) ∧ w' = w := by
  obtain ⟨rarr, karr, warr, garr, r1, r2, r3, r4, _⟩ := hR
  have Hc := cas_any rb 17 (some d) ⟨c, 0, none⟩ v rarr w r1 r4 hc
  clear r1 r2 r3 r4 hc
  go_enter Yba.func18, Yba.ntmps18
  go_wp2_with fail
  refine Hc.mono ?_
  rintro e w' ⟨rfl, hw⟩
  simp at hw
  subst hw
  go_wp2
  refine bodyPost_ret (results_none rfl _ _ _) rfl ?_
  exact ⟨rfl, rfl⟩

set_option maxRecDepth 100000 in
set_option maxHeartbeats 2000000 in
/-- No conflict is recorded: it is; the checking stops; each worker is let go once. -/
theorem stopAt_hit (B rb kb wb cb g n c : Nat) (st : Bool) (v : Value) (w : World) (hn : n ≤ 300) (hR : Run B rb kb wb cb g n n none st (fun _ => 0) w) (hc : w.cell? ⟨c, 0, none⟩ = some v) :
    Calls Yba.prog 18 #[.pointer (some ⟨rb, 0, none⟩), .pointer (some ⟨c, 0, none⟩)] w fun e w' => e = .returned (.tuple #[]) ∧ Run B rb kb wb cb g n n (some ⟨c, 0, none⟩) true (fun _ => 1) w' ∧ Upd [rb, kb, g] w w' := by
  have HR : Hid (Run B rb kb wb cb g n n none st (fun _ => 0) w) := hR
  obtain ⟨rarr, karr, warr, garr, r1, r2, r3, r4, r5, r6, r7, r8, r9, r10, r11, r12, r13, r14, r15⟩ := hR
  have hs : 17 < rarr.size := (Array.getElem?_eq_some_iff.1 r4).1
  have Hc := cas_any rb 17 none ⟨c, 0, none⟩ v rarr w r1 r4 hc
  have Hr : Hid (w.heap[rb]? = some (.cells rarr 83 (0,0)) ∧ rarr[8]? = some (.pointer (some ⟨kb, 0, none⟩)) ∧ rarr[16]? = some (.slice (some ⟨wb, 0, none⟩) n n)) := ⟨r1, r2, r3⟩
  have hne1 : kb ≠ rb := ne_elem r5 r1 (by decide)
  have hne2 : g ≠ rb := ne_elem r12 r1 (by decide)
  have hne3 : g ≠ kb := ne_elem r12 r5 (by decide)
  have Hk : Hid (w.heap[kb]? = some (.cells karr 98 (0,0)) ∧ karr[0]? = some (.int .i32 0) ∧ karr[14]? = some (.bool st)) := ⟨r5, r6, r7⟩
  have Hg : Hid (w.heap[g]? = some (.cells garr 3 (0,0)) ∧ garr.size = n ∧ ∀ j, j < n → garr[j]? = some (.int .i64 0)) := ⟨r12, r13, r14⟩
  clear r1 r2 r3 r4 r5 r6 r7 r8 r9 r10 r11 r12 r13 r14 hc
  go_enter Yba.func18, Yba.ntmps18
  go_wp2_with fail
  refine Hc.mono ?_
  rintro e w1 ⟨rfl, hw⟩
  simp only [Option.isNone_none, if_true] at hw
  have hr1 : w1.heap[rb]? = some (.cells (rarr.setIfInBounds 17 (.pointer (some ⟨c, 0, none⟩))) 83 (0,0)) := by rw [hw]; exact set_at Hr.out.1 17 _
  have hk1 : w1.heap[kb]? = some (.cells karr 98 (0,0)) := by rw [hw, set_ne (by simpa using hne1)]; exact Hk.out.1
  have hg1 : w1.heap[g]? = some (.cells garr 3 (0,0)) := by rw [hw, set_ne (by simpa using hne2)]; exact Hg.out.1
  have U1 : Upd [rb, kb, g] w w1 := by rw [hw]; exact Upd.setCell (Upd.refl _ _) (.inl (by simp)) _
  have a8 : (rarr.setIfInBounds 17 (.pointer (some ⟨c, 0, none⟩)))[8]? = some (.pointer (some ⟨kb, 0, none⟩)) := by rw [Array.getElem?_setIfInBounds, if_neg (by omega)]; exact Hr.out.2.1
  have a16 : (rarr.setIfInBounds 17 (.pointer (some ⟨c, 0, none⟩)))[16]? = some (.slice (some ⟨wb, 0, none⟩) n n) := by rw [Array.getElem?_setIfInBounds, if_neg (by omega)]; exact Hr.out.2.2
  have a17 : (rarr.setIfInBounds 17 (.pointer (some ⟨c, 0, none⟩)))[17]? = some (.pointer (some ⟨c, 0, none⟩)) := Array.getElem?_setIfInBounds_self_of_lt hs
  generalize rarr.setIfInBounds 17 (.pointer (some ⟨c, 0, none⟩)) = rarr' at hr1 a8 a16 a17
  have c8 : w1.cell? ⟨rb, 8, none⟩ = some (.pointer (some ⟨kb, 0, none⟩)) := (cell_at hr1 8).trans a8
  have Hs := stop_any kb st karr w1 hk1 Hk.out.2.1 Hk.out.2.2
  have H1 : Hid (w1.heap[rb]? = some (.cells rarr' 83 (0,0)) ∧ w1.heap[g]? = some (.cells garr 3 (0,0)) ∧ Upd [rb, kb, g] w w1) := ⟨hr1, hg1, U1⟩
  clear hw hr1 hk1 hg1 U1 Hc
  go_wp2_with fail
  refine Hs.mono ?_
  rintro e w2 ⟨rfl, karr', k1, k2, k3, k4⟩
  have hr2 : w2.heap[rb]? = some (.cells rarr' 83 (0,0)) := k4.keep H1.out.1 (by simpa using Ne.symm hne1)
  have c16 : w2.cell? ⟨rb, 16, none⟩ = some (.slice (some ⟨wb, 0, none⟩) n n) := (cell_at hr2 16).trans a16
  have U2 : Hid (Upd [rb, kb, g] w w2) := H1.out.2.2.transTo k4 (by intro i hi; simp at hi; simp [hi])
  have H2 : Hid (Run B rb kb wb cb g n n (some ⟨c, 0, none⟩) true (fun j => if j < 0 then 1 else 0) w2) :=
    HR.out.turn U2.out ⟨rarr', hr2, a8, a16, a17⟩ ⟨karr', k1, k2, k3⟩ ⟨garr, k4.keep H1.out.2.1 (by simpa using hne3), Hg.out.2.1, by simpa using Hg.out.2.2⟩
  clear k1 k2 k3 k4 hr2 a8 a16 a17 Hs H1 c8
  go_wp2_with fail
  go_loopw [22] (fun i wr => ∃ (k : Nat), k ≤ n ∧ i = .int .i64 k ∧ Hid (Run B rb kb wb cb g n n (some ⟨c, 0, none⟩) true (fun j => if j < k then 1 else 0) wr ∧ Upd [rb, kb, g] w wr)) (fun i _ => n - (intOf i).toNat)
  case atStart => exact ⟨0, by omega, rfl, H2.out, U2.out⟩
  case round =>
    obtain ⟨k, hk, rfl, hI⟩ := hrel
    by_cases hlt : k < n
    · obtain ⟨hRr, hU⟩ := hI.out
      obtain ⟨rarr2, karr2, warr2, garr2, s1, s2, s3, s4, s5, s6, s7, s8, s9, s10, s11, s12, s13, s14, s15⟩ := hI.out.1
      obtain ⟨v', t1, pb, wk, jb, parr, warr3, rfl, t2, t3, t4, t5, t6, t7⟩ := s10 k hlt
      have c1 : wr.cell? ⟨wb, k, none⟩ = some (.pointer (some ⟨pb, 0, none⟩)) := (cell_at s8 k).trans t1
      have c2 : wr.cell? ⟨pb, 0, none⟩ = some (.pointer (some ⟨wk, 0, none⟩)) := (cell_at t2 0).trans t3
      have c3 : wr.cell? ⟨wk, 1, none⟩ = some (.func (.func 35) #[] #[.pointer (some ⟨cb, 0, none⟩), .pointer (some ⟨jb, 0, none⟩)]) := (cell_at t4 1).trans t5
      have Hi := inc_any cb jb g n k garr2 0 wr s11 t6 s12 (by have := s14 k hlt; simpa using this) hlt (by omega) (by omega)
      have HX : Hid (Calls Yba.prog 35 #[.pointer (some ⟨cb, 0, none⟩), .pointer (some ⟨jb, 0, none⟩)] wr fun e w' => e = .returned (.tuple #[]) ∧ Hid (Run B rb kb wb cb g n n (some ⟨c, 0, none⟩) true (fun j => if j < k + 1 then 1 else 0) w' ∧ Upd [rb, kb, g] w w')) := by
        refine Hi.mono ?_
        rintro e w' ⟨rfl, rfl⟩
        have hu : Upd [rb, kb, g] wr (wr.setCell ⟨g, k, none⟩ (.int .i64 (0 + 1))) := Upd.setCell (Upd.refl _ _) (.inl (by simp)) _
        refine ⟨rfl, hRr.turn hu ⟨rarr2, ?_, s2, s3, s4⟩ ⟨karr2, ?_, s6, s7⟩ ⟨_, set_at s12 k _, by simpa using s13, ?_⟩, hU.transTo hu (fun i hi => .inl hi)⟩
        · rw [set_ne (by simpa using Ne.symm hne2)]; exact s1
        · rw [set_ne (by simpa using Ne.symm hne3)]; exact s5
        · intro j hj
          by_cases hjk : j = k
          · subst hjk
            rw [Array.getElem?_setIfInBounds_self_of_lt (by omega)]
            simp
          · rw [Array.getElem?_setIfInBounds, if_neg (fun e => hjk e.symm), s14 j hj]
            by_cases hj2 : j < k
            · simp [hj2, show j < k + 1 by omega]
            · simp [hj2, show ¬ j < k + 1 by omega]
      have b1 : (0 : Int) ≤ (k : Int) := by omega
      have b2 : (k : Int) < (n : Int) := by omega
      clear s1 s2 s3 s4 s5 s6 s7 s8 s9 s10 s11 s12 s13 s14 t1 t2 t3 t4 t5 t6 hRr hU Hi
      go_wp2_with fail
      refine HX.out.mono ?_
      rintro e w' ⟨rfl, hI'⟩
      go_wp2
      go_roundw
      case rel => exact ⟨k + 1, by omega, by go_num, hI'⟩
      case measure => simp [intOf]; omega
    · go_wp2
      go_end0
      obtain rfl : k = n := by omega
      refine ⟨rfl, ?_, hI.out.2⟩
      obtain ⟨rarr2, karr2, warr2, garr2, s1, s2, s3, s4, s5, s6, s7, s8, s9, s10, s11, s12, s13, s14, s15⟩ := hI.out.1
      exact ⟨rarr2, karr2, warr2, garr2, s1, s2, s3, s4, s5, s6, s7, s8, s9, s10, s11, s12, s13, fun j hj => by have := s14 j hj; simpa [hj] using this, s15⟩

end Go.Proofs.Ybulkcspi
