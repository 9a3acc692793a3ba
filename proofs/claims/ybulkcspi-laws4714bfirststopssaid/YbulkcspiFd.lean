/-
  FIRST STOPS, FOURTH PART: the law 5.
-/
import Derived.Test.YbulkcspiFc
import Derived.LaidEqlPtr
namespace Go.Proofs.Ybulkcspi
open Go.RowKit Go.Lib Go.MuLone
attribute [local go_sem ↓] Go.wp_at_zero Go.wp_at_succ
theorem Yba.info3 : (Yba.prog.info? 3).map (fun i => (i.zero, i.size, i.bytes)) = some (some (.int .i64 0), 1, 8) := by kernel_rfl
theorem Yba.info45 : (Yba.prog.info? 45).map (fun i => (i.zero, i.size, i.bytes)) = some (some (.pointer none), 1, 8) := by kernel_rfl

theorem Yba.info47 : (Yba.prog.info? 47).map (fun i => (i.zero, i.size, i.bytes)) = some (some (.agg #[.string ⟨#[]⟩, .int .i64 0, .int .i64 0]), 3, 32) := by kernel_rfl
theorem neq_ptr_same (a : Addr) (w : World) : (binOp .neq 45 (.pointer (some a)) (.pointer (some a))).run Yba.prog w = .ok (.bool false) w := by
  obtain ⟨i0, hi, _⟩ := info_parts Yba.info47
  have h : ∀ d : Nat, (Op.equalIn (d + 1) 45 (.pointer (some a)) (.pointer (some a))).run Yba.prog w = .ok true w := fun d => by
    simp [Op.equalIn, run_underlying Yba.underlying45, sizeOf, typeInfo, hi, run_sameAddr_same]
  simp only [binOp]
  simp [Op.equal, Op.maxDepth, h 9999]

theorem madeRow_at (x : Int) (n j : Nat) (hj : j < n) : (madeCells #[.int .i64 x] n)[j]? = some (.int .i64 x) := by
  simp [madeCells, hj, Nat.mod_one]

/-- The conflicts handed in: m of them are laid. -/
def Cs (sb k m : Nat) (key : ByteArray) (p q : Int) (w : World) : Prop :=
  ∃ arr : Array Value, w.heap[sb]? = some (.cells arr 45 (0,0)) ∧ arr.size = k ∧ ∀ j, j < m → ∃ (xb : Nat) (qv : Int), arr[j]? = some (.pointer (some ⟨xb, 0, none⟩)) ∧ w.heap[xb]? = some (.cells #[.string key, .int .i64 p, .int .i64 qv] 47 (0,0)) ∧ (j = 0 → qv = q)
theorem Cs.keep {sb k m : Nat} {key : ByteArray} {p q : Int} {w w' : World} (h : Cs sb k m key p q w) {S : List Nat} (hu : Upd S w w') (h1 : ∀ (b : Nat) (c : Array Value), w.heap[b]? = some (.cells c 45 (0,0)) → b ∉ S) (h2 : ∀ (b : Nat) (c : Array Value), w.heap[b]? = some (.cells c 47 (0,0)) → b ∉ S) : Cs sb k m key p q w' := by
  obtain ⟨arr, e1, e2, e3⟩ := h
  refine ⟨arr, hu.keep e1 (h1 _ _ e1), e2, fun j hj => ?_⟩
  obtain ⟨xb, qv, t1, t2, t3⟩ := e3 j hj
  exact ⟨xb, qv, t1, hu.keep t2 (h2 _ _ t2), t3⟩

theorem Run.keep {B rb kb wb cb g n m : Nat} {cf : Option Addr} {st : Bool} {X : Nat → Int} {w w' : World} (h : Run B rb kb wb cb g n m cf st X w) (hu : Upd [] w w') : Run B rb kb wb cb g n m cf st X w' := by
  have h' := h
  obtain ⟨rarr, karr, warr, garr, r1, r2, r3, r4, r5, r6, r7, r8, r9, r10, r11, r12, r13, r14, r15⟩ := h
  exact h'.turn (hu.mono (by simp)) ⟨rarr, hu.keep r1 (by simp), r2, r3, r4⟩ ⟨karr, hu.keep r5 (by simp), r6, r7⟩ ⟨garr, hu.keep r12 (by simp), r13, r14⟩

set_option maxRecDepth 100000 in
set_option maxHeartbeats 2000000 in
theorem stops_any (a0 : Int) (a1 : Bool) (a2 : ByteArray) (a3 a4 a5 : Int) (w : World) (h0 : 0 ≤ a0) (h0' : a0 ≤ 65535) (h4 : -9223372036854775808 ≤ a4) (h4' : a4 ≤ 9223372036854775807) (h5 : 0 ≤ a5) (h5' : a5 ≤ 255) :
    Calls Yba.prog 5 #[.int .u16 a0, .bool a1, .string a2, .int .i64 a3, .int .i64 a4, .int .u8 a5] w fun e w' => e = .returned (.bool true) ∧ Upd [] w w' := by
  obtain ⟨i0, hi, hz0, hz1, hz2⟩ := info_parts Yba.info3
  obtain ⟨j0, hj, hy0, hy1, hy2⟩ := info_parts Yba.info45
  obtain ⟨n, hn⟩ : ∃ n : Nat, a0 % 300 = (n : Int) := ⟨(a0 % 300).toNat, by omega⟩
  have hn3 : n ≤ 299 := by omega
  obtain ⟨k, hk⟩ : ∃ k : Nat, 1 + a5 % 3 = (k : Int) := ⟨(1 + a5 % 3).toNat, by omega⟩
  have hk1 : 1 ≤ k := by omega
  have hk3 : k ≤ 3 := by omega
  go_enter Yba.func5, Yba.ntmps5
  go_wp2_with (at_make; go_must (refine wpList_make_row _ rfl _ _ _ rfl 3 i0 _ Yba.underlying42 hi hz0 hz1 (by rfl) _ _ n rfl rfl (by rw [hz2]; omega) (by omega) ?_))
  refine (make_any n w.heap.size _ (w.alloc (.cells (madeCells #[.int .i64 0] n) 3)) (by omega) (heap_last _ _ _ rfl) (by simp [madeCells]) (fun j hj => madeRow_at 0 n j hj)).mono ?_
  rintro e w1 ⟨rb, kb, wb, cb, rfl, hR, hU, hb1, hb2⟩
  have U1 : Hid (Upd [] w w1) := (Upd.alloc (Upd.refl _ _) _).transTo hU (by simp)
  simp only [World.size_alloc] at hb1 hb2 hR
  obtain ⟨g, hg⟩ : ∃ g, w.heap.size = g := ⟨_, rfl⟩
  rw [hg] at hR hb1 hb2 ⊢
  have HR1 : Hid (Run (g + 1) rb kb wb cb g n n none false (fun _ => 0) w1) := hR
  clear hR hU
  have hrb : g ≤ rb := by omega
  have hkb : g ≤ kb := by omega
  clear hn hk
  cases a1 with
  | false =>
    have U2 : Hid (Upd [] w w1) := U1
    have HR2 : Hid (Run (g + 1) rb kb wb cb g n n none false (fun _ => 0) w1) := HR1
    generalize w1 = w2 at *
    clear HR1 U1
    go_wp2_with (at_make; go_must (refine wpList_make_row _ rfl _ _ _ rfl 45 j0 _ Yba.underlying85 hj hy0 hy1 (by rfl) _ _ k rfl rfl (by rw [hy2]; omega) (by omega) ?_))
    obtain ⟨sb, hsb⟩ : ∃ sb, w2.heap.size = sb := ⟨_, rfl⟩
    rw [hsb]
    have hgs : g + 1 ≤ sb := by have := lt_of_heap (HR2.out.choose_spec.choose_spec.choose_spec.choose_spec.2.2.2.2.2.2.2.2.2.2.2.1); omega
    go_loopw [19] (fun i wr => ∃ (m : Nat), m ≤ k ∧ i = .int .i64 m ∧ Hid (Cs sb k m a2 a3 a4 wr ∧ Upd [] w2 wr)) (fun i _ => k - (intOf i).toNat)
    case atStart => exact ⟨0, by omega, rfl, ⟨_, heap_last _ _ _ hsb.symm, by simp [madeCells], fun j hj => by omega⟩, Upd.alloc (Upd.refl _ _) _⟩
    case round =>
      obtain ⟨m, hm, rfl, hI⟩ := hrel
      by_cases hlt : m < k
      · obtain ⟨arr, e1, e2, e3⟩ := hI.out.1
        have hma : m < arr.size := by omega
        have c1 : ∀ o, (wr.alloc o).cell? ⟨sb, m, none⟩ = some (arr[m]'hma) := fun o => (cell_at (heap_past e1 o) m).trans (Array.getElem?_eq_getElem _)
        have f1 : ∀ o, (wr.alloc o).frozen? ⟨sb, m, none⟩ = false := fun o => free_at (heap_past e1 o) m
        generalize arr[m]'hma = old at c1
        have b1 : (0 : Int) ≤ (m : Int) := by omega
        have b2 : (m : Int) < (k : Int) := by omega
        have E1 : Hid (wr.heap[sb]? = some (.cells arr 45 (0,0)) ∧ ∀ j, j < m → ∃ (xb : Nat) (qv : Int), arr[j]? = some (.pointer (some ⟨xb, 0, none⟩)) ∧ wr.heap[xb]? = some (.cells #[.string a2, .int .i64 a3, .int .i64 qv] 47 (0,0)) ∧ (j = 0 → qv = a4)) := ⟨e1, e3⟩
        obtain ⟨qq, hqq⟩ : ∃ qq : Int, wrap64 (a4 + (m : Int)) = qq := ⟨_, rfl⟩
        have HQ : Hid (m = 0 → qq = a4) := by
          intro h
          rw [← hqq, h]
          simp [wrap64]
          omega
        have hszr := lt_of_heap e1
        clear e1 e3
        go_wp2
        refine ⟨⟨m + 1, by omega, by go_num, ⟨_, heap_past (set_at E1.out.1 m _) _, by simpa using e2, ?_⟩, ?_⟩, by simp [intOf]; omega⟩
        · intro j hj
          by_cases hjm : j = m
          · subst hjm
            refine ⟨wr.heap.size, qq, Array.getElem?_setIfInBounds_self_of_lt hma, ?_, HQ.out⟩
            exact heap_last _ _ _ (by simp)
          · obtain ⟨xb, qv, t1, t2, t3⟩ := E1.out.2 j (by omega)
            refine ⟨xb, qv, by rw [Array.getElem?_setIfInBounds, if_neg (fun e => hjm e.symm)]; exact t1, ?_, t3⟩
            exact heap_past ((set_ne (by simpa using ne_elem t2 E1.out.1 (by decide))).trans t2) _
        · exact Upd.alloc (Upd.setCell hI.out.2 (.inr (by simp; omega)) _) _
      · obtain rfl : m = k := by omega
        have HRr : Hid (Run (g + 1) rb kb wb cb g n n none false (fun _ => 0) wr) := HR2.out.keep hI.out.2
        have UR : Hid (Upd [] w wr) := U2.out.transTo hI.out.2 (by simp)
        generalize wr = wo at *
        obtain ⟨xb, HX0⟩ : ∃ xb, Hid (∃ arr : Array Value, wo.heap[sb]? = some (.cells arr 45 (0,0)) ∧ arr[0]? = some (.pointer (some ⟨xb, 0, none⟩)) ∧ wo.heap[xb]? = some (.cells #[.string a2, .int .i64 a3, .int .i64 a4] 47 (0,0))) := by
          obtain ⟨arr, e1, e2, e3⟩ := hI.out.1
          obtain ⟨xb, qv, t1, t2, t3⟩ := e3 0 (by omega)
          obtain rfl := t3 rfl
          exact ⟨xb, arr, e1, t1, t2⟩
        have NB : Hid (∀ (b : Nat) (c : Array Value) (ty : TypeId), (ty = 45 ∨ ty = 47) → wo.heap[b]? = some (.cells c ty (0,0)) → b ∉ [rb, kb, g]) := by
          obtain ⟨rarr, karr, warr, garr, r1, r2, r3, r4, r5, r6, r7, r8, r9, r10, r11, r12, r13, r14, r15⟩ := HRr.out
          intro b c ty hty hb
          simp only [List.mem_cons, List.not_mem_nil, or_false, not_or]
          rcases hty with rfl | rfl
          · exact ⟨ne_elem hb r1 (by decide), ne_elem hb r5 (by decide), ne_elem hb r12 (by decide)⟩
          · exact ⟨ne_elem hb r1 (by decide), ne_elem hb r5 (by decide), ne_elem hb r12 (by decide)⟩
        go_wp2_with fail
        go_loopw [20] (fun i wr => ∃ (t : Nat), t ≤ m ∧ i = .int .i64 t ∧ Hid (Upd [rb, kb, g] wo wr ∧ (t = 0 → Run (g + 1) rb kb wb cb g n n none false (fun _ => 0) wr) ∧ (t ≠ 0 → Run (g + 1) rb kb wb cb g n n (some ⟨xb, 0, none⟩) true (fun _ => 1) wr))) (fun i _ => m - (intOf i).toNat)
        case atStart => exact ⟨0, by omega, rfl, Upd.refl _ _, fun _ => HRr.out, fun h => absurd rfl h⟩
        case round =>
          obtain ⟨t, ht, rfl, hJ⟩ := hrel
          have hCs : Cs sb m m a2 a3 a4 wr := hI.out.1.keep hJ.out.1 (fun b c hb => NB.out b c 45 (.inl rfl) hb) (fun b c hb => NB.out b c 47 (.inr rfl) hb)
          have HX : Hid (∃ arr : Array Value, wr.heap[sb]? = some (.cells arr 45 (0,0)) ∧ arr[0]? = some (.pointer (some ⟨xb, 0, none⟩)) ∧ wr.heap[xb]? = some (.cells #[.string a2, .int .i64 a3, .int .i64 a4] 47 (0,0))) := by
            obtain ⟨arr, e1, e2, e3⟩ := HX0.out
            exact ⟨arr, hJ.out.1.keep e1 (NB.out _ _ 45 (.inl rfl) e1), e2, hJ.out.1.keep e3 (NB.out _ _ 47 (.inr rfl) e3)⟩
          by_cases htl : t < m
          · obtain ⟨arr, e1, e2, e3⟩ := hCs
            obtain ⟨yb, qv, t1, t2, t3⟩ := e3 t htl
            have c1 : wr.cell? ⟨sb, t, none⟩ = some (.pointer (some ⟨yb, 0, none⟩)) := (cell_at e1 t).trans t1
            have b1 : (0 : Int) ≤ (t : Int) := by omega
            have b2 : (t : Int) < (m : Int) := by omega
            have Hstop : Hid (Calls Yba.prog 18 #[.pointer (some ⟨rb, 0, none⟩), .pointer (some ⟨yb, 0, none⟩)] wr fun e w' => e = .returned (.tuple #[]) ∧ Hid (Upd [rb, kb, g] wo w' ∧ Run (g + 1) rb kb wb cb g n n (some ⟨xb, 0, none⟩) true (fun _ => 1) w')) := by
              by_cases ht0 : t = 0
              · subst ht0
                obtain ⟨arr', x1, x2, x3⟩ := HX.out
                obtain rfl : arr = arr' := by rw [e1] at x1; simpa using x1
                obtain rfl : yb = xb := by rw [t1] at x2; simpa using x2
                refine (stopAt_hit (g + 1) rb kb wb cb g n yb false _ wr (by omega) (hJ.out.2.1 rfl) (cell_at t2 0)).mono ?_
                rintro e w' ⟨rfl, q1, q2⟩
                exact ⟨rfl, hJ.out.1.transTo q2 (fun i hi => .inl hi), q1⟩
              · refine (stopAt_miss (g + 1) rb kb wb cb g n yb ⟨xb, 0, none⟩ true (fun _ => 1) _ wr (hJ.out.2.2 ht0) (cell_at t2 0)).mono ?_
                rintro e w' ⟨rfl, rfl⟩
                exact ⟨rfl, hJ.out.1, hJ.out.2.2 ht0⟩
            clear e1 e3 t1 t2 t3
            go_wp2_with fail
            refine Hstop.out.mono ?_
            rintro e w' ⟨rfl, hJ'⟩
            go_wp2
            go_roundw
            case rel => exact ⟨t + 1, by omega, by go_num, hJ'.out.1, (fun h => absurd h (by omega)), fun _ => hJ'.out.2⟩
            case measure => simp [intOf]; omega
          · obtain ⟨arr, e1, t1, t2⟩ := HX.out
            have HRr' : Hid (Run (g + 1) rb kb wb cb g n n (some ⟨xb, 0, none⟩) true (fun _ => 1) wr) := hJ.out.2.2 (by omega)
            obtain ⟨rarr, karr, warr, garr, r1, r2, r3, r4, r5, r6, r7, r8, r9, r10, r11, r12, r13, r14, r15⟩ := HRr'.out
            have Hld := load_any rb 17 xb rarr _ wr r1 r4 t2 rfl
            have U4 : Hid (Upd [] w wr) := UR.out.transTo hJ.out.1 (by
              intro i hi
              right
              simp at hi
              omega)
            generalize wr = w4 at *
            have c1 : w4.cell? ⟨sb, 0, none⟩ = some (.pointer (some ⟨xb, 0, none⟩)) := (cell_at e1 0).trans t1
            have c2 : w4.cell? ⟨xb, 0, none⟩ = some (.string a2) := cell_at t2 0
            have c3 : w4.cell? ⟨xb, 1, none⟩ = some (.int .i64 a3) := cell_at t2 1
            have c4 : w4.cell? ⟨xb, 2, none⟩ = some (.int .i64 a4) := cell_at t2 2
            have c5 : w4.cell? ⟨rb, 8, none⟩ = some (.pointer (some ⟨kb, 0, none⟩)) := (cell_at r1 8).trans r2
            have c6 : w4.cell? ⟨kb, 14, none⟩ = some (.bool true) := (cell_at r5 14).trans r7
            have c7 : w4.cell? ⟨rb, 16, none⟩ = some (.slice (some ⟨wb, 0, none⟩) n n) := (cell_at r1 16).trans r3
            have G4 : Hid (∀ j, j < n → w4.cell? ⟨g, j, none⟩ = some (.int .i64 1)) := fun j hj => (cell_at r12 j).trans (r14 j hj)
            have hm0 : (0 : Int) < (m : Int) := by omega
            clear e1 t1 t2 r1 r2 r3 r4 r5 r6 r7 r8 r9 r10 r11 r12 r13 r14
            go_wp2_with fail
            refine Hld.mono ?_
            rintro e w5 ⟨rfl, rfl⟩
            have hpp := neq_ptr_same ⟨xb, 0, none⟩ w5
            go_wp2_with fail
            go_loop [23] (fun i => ∃ (t : Nat), t ≤ n ∧ i = .int .i64 t) (fun i => n - (intOf i).toNat)
            case atStart => exact ⟨0, by omega, rfl⟩
            case round =>
              obtain ⟨q, hq, rfl⟩ := hrel
              by_cases hql : q < n
              · have c8 := G4.out q hql
                have b3 : (0 : Int) ≤ (q : Int) := by omega
                have b4 : (q : Int) < (n : Int) := by omega
                go_wp2
                go_round
                case rel => exact ⟨q + 1, by omega, by go_num⟩
                case measure => simp [intOf]; omega
              · go_wp2
                go_ret
                exact ⟨rfl, U4.out⟩
  | true =>
    obtain ⟨rarr, karr, warr, garr, r1, r2, r3, r4, r5, r6, r7, r8, r9, r10, r11, r12, r13, r14, r15⟩ := HR1.out
    have Hr : Hid (w1.heap[rb]? = some (.cells rarr 83 (0,0)) ∧ rarr[17]? = some (.pointer none) ∧ rarr[8]? = some (.pointer (some ⟨kb, 0, none⟩)) ∧ rarr[16]? = some (.slice (some ⟨wb, 0, none⟩) n n)) := ⟨r1, r4, r2, r3⟩
    have Hk : Hid (w1.heap[kb]? = some (.cells karr 98 (0,0)) ∧ karr[0]? = some (.int .i32 0) ∧ karr[14]? = some (.bool false)) := ⟨r5, r6, r7⟩
    have Hg : Hid (w1.heap[g]? = some (.cells garr 3 (0,0)) ∧ garr.size = n ∧ ∀ j, j < n → garr[j]? = some (.int .i64 0)) := ⟨r12, r13, r14⟩
    have hne1 : kb ≠ rb := ne_elem r5 r1 (by decide)
    have hne2 : g ≠ rb := ne_elem r12 r1 (by decide)
    have hs : 17 < rarr.size := (Array.getElem?_eq_some_iff.1 r4).1
    clear r1 r2 r3 r4 r5 r6 r7 r8 r9 r10 r11 r12 r13 r14
    go_wp2_with fail
    obtain ⟨ob, hob⟩ : ∃ ob, w1.heap.size = ob := ⟨_, rfl⟩
    rw [hob]
    refine (store_any rb 17 (some ⟨ob, 0, none⟩) (.pointer none) (.string ⟨#[112, 114, 101]⟩) rarr _ (heap_past Hr.out.1 _) Hr.out.2.1 (fun x hx => by cases hx; exact cell_at (heap_last _ _ _ hob.symm) 0)).mono ?_
    rintro e w2 ⟨rfl, hw2⟩
    have hrbl : rb < ob := by have := lt_of_heap Hr.out.1; omega
    have U2 : Hid (Upd [] w w2) := by
      rw [hw2]
      exact Upd.setCell (Upd.alloc U1.out _) (.inr (by simp; omega)) _
    have HO : Hid (w2.heap[ob]? = some (.cells #[.string ⟨#[112, 114, 101]⟩, .int .i64 0, .int .i64 1] 47 (0,0))) := by
      show _ = _
      rw [hw2, set_ne (by simp; omega)]
      exact heap_last _ _ _ hob.symm
    have HR2 : Hid (Run (g + 1) rb kb wb cb g n n (some ⟨ob, 0, none⟩) false (fun _ => 0) w2) := by
      refine HR1.out.turn (w' := w2) ?_ ⟨rarr.setIfInBounds 17 (.pointer (some ⟨ob, 0, none⟩)), ?_, ?_, ?_, ?_⟩ ⟨karr, ?_, Hk.out.2.1, Hk.out.2.2⟩ ⟨garr, ?_, Hg.out.2.1, Hg.out.2.2⟩
      · rw [hw2]; exact Upd.setCell (Upd.alloc (Upd.refl _ _) _) (.inl (by simp)) _
      · rw [hw2]; exact set_at (heap_past Hr.out.1 _) 17 _
      · rw [Array.getElem?_setIfInBounds, if_neg (by omega)]; exact Hr.out.2.2.1
      · rw [Array.getElem?_setIfInBounds, if_neg (by omega)]; exact Hr.out.2.2.2
      · exact Array.getElem?_setIfInBounds_self_of_lt hs
      · rw [hw2, set_ne (by simpa using hne1)]; exact heap_past Hk.out.1 _
      · rw [hw2, set_ne (by simpa using hne2)]; exact heap_past Hg.out.1 _
    clear hw2 Hr Hk Hg HR1 hrbl hne1 hne2 hs hob U1
    go_wp2_with (at_make; go_must (refine wpList_make_row _ rfl _ _ _ rfl 45 j0 _ Yba.underlying85 hj hy0 hy1 (by rfl) _ _ k rfl rfl (by rw [hy2]; omega) (by omega) ?_))
    obtain ⟨sb, hsb⟩ : ∃ sb, w2.heap.size = sb := ⟨_, rfl⟩
    rw [hsb]
    have hgs : g + 1 ≤ sb := by have := lt_of_heap (HR2.out.choose_spec.choose_spec.choose_spec.choose_spec.2.2.2.2.2.2.2.2.2.2.2.1); omega
    go_loopw [19] (fun i wr => ∃ (m : Nat), m ≤ k ∧ i = .int .i64 m ∧ Hid (Cs sb k m a2 a3 a4 wr ∧ Upd [] w2 wr)) (fun i _ => k - (intOf i).toNat)
    case atStart => exact ⟨0, by omega, rfl, ⟨_, heap_last _ _ _ hsb.symm, by simp [madeCells], fun j hj => by omega⟩, Upd.alloc (Upd.refl _ _) _⟩
    case round =>
      obtain ⟨m, hm, rfl, hI⟩ := hrel
      by_cases hlt : m < k
      · obtain ⟨arr, e1, e2, e3⟩ := hI.out.1
        have hma : m < arr.size := by omega
        have c1 : ∀ o, (wr.alloc o).cell? ⟨sb, m, none⟩ = some (arr[m]'hma) := fun o => (cell_at (heap_past e1 o) m).trans (Array.getElem?_eq_getElem _)
        have f1 : ∀ o, (wr.alloc o).frozen? ⟨sb, m, none⟩ = false := fun o => free_at (heap_past e1 o) m
        generalize arr[m]'hma = old at c1
        have b1 : (0 : Int) ≤ (m : Int) := by omega
        have b2 : (m : Int) < (k : Int) := by omega
        have E1 : Hid (wr.heap[sb]? = some (.cells arr 45 (0,0)) ∧ ∀ j, j < m → ∃ (xb : Nat) (qv : Int), arr[j]? = some (.pointer (some ⟨xb, 0, none⟩)) ∧ wr.heap[xb]? = some (.cells #[.string a2, .int .i64 a3, .int .i64 qv] 47 (0,0)) ∧ (j = 0 → qv = a4)) := ⟨e1, e3⟩
        obtain ⟨qq, hqq⟩ : ∃ qq : Int, wrap64 (a4 + (m : Int)) = qq := ⟨_, rfl⟩
        have HQ : Hid (m = 0 → qq = a4) := by
          intro h
          rw [← hqq, h]
          simp [wrap64]
          omega
        have hszr := lt_of_heap e1
        clear e1 e3
        go_wp2
        refine ⟨⟨m + 1, by omega, by go_num, ⟨_, heap_past (set_at E1.out.1 m _) _, by simpa using e2, ?_⟩, ?_⟩, by simp [intOf]; omega⟩
        · intro j hj
          by_cases hjm : j = m
          · subst hjm
            refine ⟨wr.heap.size, qq, Array.getElem?_setIfInBounds_self_of_lt hma, ?_, HQ.out⟩
            exact heap_last _ _ _ (by simp)
          · obtain ⟨xb, qv, t1, t2, t3⟩ := E1.out.2 j (by omega)
            refine ⟨xb, qv, by rw [Array.getElem?_setIfInBounds, if_neg (fun e => hjm e.symm)]; exact t1, ?_, t3⟩
            exact heap_past ((set_ne (by simpa using ne_elem t2 E1.out.1 (by decide))).trans t2) _
        · exact Upd.alloc (Upd.setCell hI.out.2 (.inr (by simp; omega)) _) _
      · obtain rfl : m = k := by omega
        have HRr : Hid (Run (g + 1) rb kb wb cb g n n (some ⟨ob, 0, none⟩) false (fun _ => 0) wr) := HR2.out.keep hI.out.2
        have HOr : Hid (wr.heap[ob]? = some (.cells #[.string ⟨#[112, 114, 101]⟩, .int .i64 0, .int .i64 1] 47 (0,0))) := hI.out.2.keep HO.out (by simp)
        have UR : Hid (Upd [] w wr) := U2.out.transTo hI.out.2 (by simp)
        go_wp2_with fail
        go_loop [20] (fun i => ∃ (t : Nat), t ≤ m ∧ i = .int .i64 t) (fun i => m - (intOf i).toNat)
        case atStart => exact ⟨0, by omega, rfl⟩
        case round =>
          obtain ⟨t, ht, rfl⟩ := hrel
          by_cases htl : t < m
          · obtain ⟨arr, e1, e2, e3⟩ := hI.out.1
            obtain ⟨xb, qv, t1, t2, t3⟩ := e3 t htl
            have c1 : wr.cell? ⟨sb, t, none⟩ = some (.pointer (some ⟨xb, 0, none⟩)) := (cell_at e1 t).trans t1
            have Hx := stopAt_miss (g + 1) rb kb wb cb g n xb ⟨ob, 0, none⟩ false (fun _ => 0) _ wr HRr.out (cell_at t2 0)
            have b1 : (0 : Int) ≤ (t : Int) := by omega
            have b2 : (t : Int) < (m : Int) := by omega
            clear e1 e3 t1 t2 t3
            go_wp2_with fail
            refine Hx.mono ?_
            rintro e w' ⟨rfl, rfl⟩
            go_wp2
            go_round
            case rel => exact ⟨t + 1, by omega, by go_num⟩
            case measure => simp [intOf]; omega
          · obtain ⟨arr, e1, e2, e3⟩ := hI.out.1
            obtain ⟨xb, qv, t1, t2, t3⟩ := e3 0 (by omega)
            obtain rfl := t3 rfl
            have U4 : Hid (Upd [] w wr) := UR
            obtain ⟨rarr, karr, warr, garr, r1, r2, r3, r4, r5, r6, r7, r8, r9, r10, r11, r12, r13, r14, r15⟩ := HRr.out
            have Hld := load_any rb 17 ob rarr _ wr r1 r4 HOr.out rfl
            generalize wr = w4 at *
            have c1 : w4.cell? ⟨sb, 0, none⟩ = some (.pointer (some ⟨xb, 0, none⟩)) := (cell_at e1 0).trans t1
            have c2 : w4.cell? ⟨xb, 0, none⟩ = some (.string a2) := cell_at t2 0
            have c3 : w4.cell? ⟨xb, 1, none⟩ = some (.int .i64 a3) := cell_at t2 1
            have c4 : w4.cell? ⟨xb, 2, none⟩ = some (.int .i64 qv) := cell_at t2 2
            have c5 : w4.cell? ⟨rb, 8, none⟩ = some (.pointer (some ⟨kb, 0, none⟩)) := (cell_at r1 8).trans r2
            have c6 : w4.cell? ⟨kb, 14, none⟩ = some (.bool false) := (cell_at r5 14).trans r7
            have c7 : w4.cell? ⟨rb, 16, none⟩ = some (.slice (some ⟨wb, 0, none⟩) n n) := (cell_at r1 16).trans r3
            have G4 : Hid (∀ j, j < n → w4.cell? ⟨g, j, none⟩ = some (.int .i64 0)) := fun j hj => (cell_at r12 j).trans (r14 j hj)
            have hm0 : (0 : Int) < (m : Int) := by omega
            clear e1 t1 t2 r1 r2 r3 r4 r5 r6 r7 r8 r9 r10 r11 r12 r13 r14
            go_wp2_with fail
            refine Hld.mono ?_
            rintro e w5 ⟨rfl, rfl⟩
            have hpp := neq_ptr_same ⟨ob, 0, none⟩ w5
            go_wp2_with fail
            go_loop [23] (fun i => ∃ (t : Nat), t ≤ n ∧ i = .int .i64 t) (fun i => n - (intOf i).toNat)
            case atStart => exact ⟨0, by omega, rfl⟩
            case round =>
              obtain ⟨q, hq, rfl⟩ := hrel
              by_cases hql : q < n
              · have c8 := G4.out q hql
                have b3 : (0 : Int) ≤ (q : Int) := by omega
                have b4 : (q : Int) < (n : Int) := by omega
                go_wp2
                go_round
                case rel => exact ⟨q + 1, by omega, by go_num⟩
                case measure => simp [intOf]; omega
              · go_wp2
                go_ret
                exact ⟨rfl, U4.out⟩

end Go.Proofs.Ybulkcspi
