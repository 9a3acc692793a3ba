/-
  WALKS, SIXTH PART: the law LawS4710BDefines.
-/
import Derived.Test.YbulkcsneFmtWd
import Derived.Test.YbulkcsneFmtWe
namespace Go.Proofs.YbulkcsneFmt
open Go.RowKit Go.Lib
attribute [local go_sem ↓] Go.wp_at_zero Go.wp_at_succ

/-- What the options of the first loop are. -/
def Olds (os : List Opt) : Prop := ∀ (i : Nat) (o : Opt), os[i]? = some o → (∃ j, j < 12 ∧ o.1 = oldAt j) ∧ o.2.1 = ⟨#[]⟩ ∧ o.2.2.1 = ⟨#[117]⟩ ∧ ∃ g, o.2.2.2 = .func (.func 15) #[] g
/-- Which letters are taken. -/
def Taken (us : Array Value) (os : List Opt) : Prop := us.size = 12 ∧ ∀ k, k < 12 → us[k]? = some (.bool true) ∨ (us[k]? = some (.bool false) ∧ ∀ (i : Nat) (o : Opt), os[i]? = some o → o.1 ≠ oldAt k)
def letsOf (os : List Opt) : List Value := os.map fun o => .int .i32 o.1
theorem letsOf_snoc (os : List Opt) (o : Opt) : letsOf (os ++ [o]) = letsOf os ++ [.int .i32 o.1] := by simp [letsOf]
theorem letsOf_at {os : List Opt} {i : Nat} {o : Opt} (h : os[i]? = some o) : (letsOf os)[i]? = some (.int .i32 o.1) := by simp [letsOf, h]
theorem at_snoc {os : List Opt} {p o : Opt} {i : Nat} (h : (os ++ [p])[i]? = some o) : os[i]? = some o ∨ o = p := by
  rcases Nat.lt_or_ge i os.length with h1 | h1
  · rw [List.getElem?_append_left h1] at h
    exact .inl h
  · rw [List.getElem?_append_right h1] at h
    cases hh : i - os.length with
    | zero => rw [hh] at h; exact .inr (by simpa using h.symm)
    | succ q => rw [hh] at h; simp at h
theorem Olds.snoc {os : List Opt} (h : Olds os) {k : Nat} (hk : k < 12) (g : Array Value) : Olds (os ++ [(oldAt k, ⟨#[]⟩, ⟨#[117]⟩, .func (.func 15) #[] g)]) := by
  intro i o ho
  rcases at_snoc ho with h1 | rfl
  · exact h i o h1
  · exact ⟨⟨k, hk, rfl⟩, rfl, rfl, g, rfl⟩
theorem Taken.snoc {us : Array Value} {os : List Opt} (h : Taken us os) {k : Nat} (hk : k < 12) (v : Value) : Taken (us.setIfInBounds k (.bool true)) (os ++ [(oldAt k, ⟨#[]⟩, ⟨#[117]⟩, v)]) := by
  refine ⟨by simp [h.1], fun j hj => ?_⟩
  by_cases hjk : k = j
  · subst hjk
    left
    rw [Array.getElem?_setIfInBounds]; simp [h.1, hk]
  · rw [Array.getElem?_setIfInBounds, if_neg hjk]
    rcases h.2 j hj with h1 | ⟨h1, h2⟩
    · exact .inl h1
    · refine .inr ⟨h1, fun i o ho => ?_⟩
      rcases at_snoc ho with h3 | rfl
      · exact h2 i o h3
      · exact oldAt_inj k hk j hj hjk

set_option maxRecDepth 100000 in
set_option maxHeartbeats 1000000 in
theorem bdefines_long (n c : Nat) (a : Option Addr) (sel : Int) (p val us v : ByteArray) (w : World) (hn : 1024 < n) (hm : n ≤ maxLen) :
    Calls Ybaf.prog 3 #[.slice a n c, .int .u8 sel, .string p, .string val, .string us, .string v] w
      fun e w' => e = .returned (.bool true) ∧ Upd [] w w' := by
  unfold maxLen at hm
  go_enter Ybaf.func3, Ybaf.ntmps3
  go_wp2
  go_ret
  exact ⟨rfl, Upd.refl _ _⟩

set_option maxRecDepth 100000 in
set_option maxHeartbeats 4000000 in
theorem bdefines_short (n c : Nat) (a : Option Addr) (x0 : Addr) (sel : Int) (p val us v : ByteArray) (w : World) (hn : n ≤ 1024) (ha : a = none → n = 0) (ha2 : ∀ x, a = some x → x = x0)
    (hs0 : 0 ≤ sel) (hs1 : sel ≤ 255) (hp' : p.size ≤ 140737488351232) (hu : us.size ≤ 140737488351232)
    (hp : ∀ i, i < n → ∃ x, w.cell? (x0.add i) = some (.int .u8 x) ∧ 0 ≤ x ∧ x ≤ 255) :
    Calls Ybaf.prog 3 #[.slice a n c, .int .u8 sel, .string p, .string val, .string us, .string v] w
      fun e w' => e = .returned (.bool true) ∧ Upd [] w w' := by
  obtain ⟨i0, hi, hz0, hz1, hz2⟩ := info_parts Ybaf.info21
  have Hp : Hid (∀ i, i < n → ∃ x, w.cell? (x0.add i) = some (.int .u8 x) ∧ 0 ≤ x ∧ x ≤ 255) := hp
  have Ha : Hid (a = none → n = 0) := ha
  have Ha2 : Hid (∀ x, a = some x → x = x0) := ha2
  clear hp ha ha2
  go_enter Ybaf.func3, Ybaf.ntmps3
  go_wp2_with fail
  go_loopw [15, 34] (fun lv i wr => ∃ (k : Nat) (os : List Opt) (ov : Value) (ub : Array Value), k ≤ n ∧ i = .int .i64 k ∧ Hid (wr.heap[w.heap.size]? = some (.cells #[.string ⟨#[112, 114, 111, 103]⟩, .string ⟨#[111, 112, 115]⟩, ov, .nilIface] 28 (0,0)) ∧ wr.heap[w.heap.size + 1]? = some (.cells ub 29 (0,0)) ∧
        wr.ownsRow (w.heap.size + 2) 38 4 ov os.length (ocs os) ∧ wr.ownsRow (w.heap.size + 2) 21 1 lv os.length (letsOf os) ∧ os.length ≤ k ∧ Olds os ∧ Taken ub os ∧ Upd [] w wr)) (fun _ i _ => n - (intOf i).toNat)
  case atStart =>
    refine ⟨0, [], .slice none 0 0, _, by omega, rfl, heap_past (heap_last _ _ _ rfl) _, heap_last _ _ _ (by simp), ⟨rfl, .inl ⟨rfl, rfl⟩⟩, ⟨rfl, .inl ⟨rfl, rfl⟩⟩, by simp, by intro i o h; simp at h, ⟨rfl, ?_⟩, (Upd.refl _ w).alloc _ |>.alloc _⟩
    intro k hk
    have h : k = 0 ∨ k = 1 ∨ k = 2 ∨ k = 3 ∨ k = 4 ∨ k = 5 ∨ k = 6 ∨ k = 7 ∨ k = 8 ∨ k = 9 ∨ k = 10 ∨ k = 11 := by omega
    right
    refine ⟨?_, by intro i o h; simp at h⟩
    rcases h with rfl | rfl | rfl | rfl | rfl | rfl | rfl | rfl | rfl | rfl | rfl | rfl <;> rfl
  case round =>
    obtain ⟨k, os, ov, ub, hk, rfl, hinv⟩ := hrel
    by_cases hlt : k < n
    · obtain ⟨x, hx, hx0, hx1⟩ := Hp.out k hlt
      obtain ⟨x', ha⟩ : ∃ x', a = some x' := by
        cases h : a with
        | none => have := Ha.out h; omega
        | some y => exact ⟨y, rfl⟩
      rw [Ha2.out x' ha] at ha
      subst ha
      obtain ⟨hi1, hi2, hi3, hi4, hi5, hi6, hi7, hi8⟩ := hinv.out
      have cx : wr.cell? (x0.add k) = some (.int .u8 x) := hi8.cell hx (by simp)
      obtain ⟨q, hq⟩ : ∃ q : Nat, x % 12 = (q : Int) := ⟨(x % 12).toNat, by omega⟩
      have hq12 : q < 12 := by omega
      have fu := free_at hi2 q
      rcases hi7.2 q hq12 with hT | ⟨hF, hfresh⟩
      · have cu : wr.cell? ⟨w.heap.size + 1, q, none⟩ = some (.bool true) := (cell_at hi2 q).trans hT
        clear hi1 hi2 hi3 hi4 hi6 hi7 hi8 hT hx
        go_wp2
        go_roundw
        case rel => exact ⟨k + 1, os, ov, ub, by omega, by go_num, hinv.out.1, hinv.out.2.1, hinv.out.2.2.1, hinv.out.2.2.2.1, by omega, hinv.out.2.2.2.2.2.1, hinv.out.2.2.2.2.2.2.1, hinv.out.2.2.2.2.2.2.2⟩
        case measure => simp [intOf]; omega
      · have cu : wr.cell? ⟨w.heap.size + 1, q, none⟩ = some (.bool false) := (cell_at hi2 q).trans hF
        have Hfresh : Hid (∀ (i : Nat) (o : Opt), os[i]? = some o → o.1 ≠ oldAt q) := hfresh
        clear hi1 hi2 hi3 hi4 hi6 hi7 hi8 hF hx hfresh
        go_wp2_with fail
        have F1 : Hid (((wr.setCell ⟨w.heap.size + 1, q, none⟩ (.bool true)).alloc (.cells #[.bool false] 4)).heap[w.heap.size]? = some (.cells #[.string ⟨#[112, 114, 111, 103]⟩, .string ⟨#[111, 112, 115]⟩, ov, .nilIface] 28 (0,0))) := heap_past ((set_ne (by simp)).trans hinv.out.1) _
        have F2 : Hid (((wr.setCell ⟨w.heap.size + 1, q, none⟩ (.bool true)).alloc (.cells #[.bool false] 4)).heap[w.heap.size + 1]? = some (.cells (ub.setIfInBounds q (.bool true)) 29 (0,0))) := heap_past (set_at hinv.out.2.1 q _) _
        have F3 : Hid (((wr.setCell ⟨w.heap.size + 1, q, none⟩ (.bool true)).alloc (.cells #[.bool false] 4)).ownsRow (w.heap.size + 2) 38 4 ov os.length (ocs os)) := (owns_set hinv.out.2.2.1 (owns_ne hinv.out.2.2.1 hinv.out.2.1 (by decide)) _).alloc _
        have F4 : Hid (((wr.setCell ⟨w.heap.size + 1, q, none⟩ (.bool true)).alloc (.cells #[.bool false] 4)).ownsRow (w.heap.size + 2) 21 1 u15 os.length (letsOf os)) := (owns_set hinv.out.2.2.2.1 (owns_ne hinv.out.2.2.2.1 hinv.out.2.1 (by decide)) _).alloc _
        have F5 : Hid (Upd [] w ((wr.setCell ⟨w.heap.size + 1, q, none⟩ (.bool true)).alloc (.cells #[.bool false] 4))) := Upd.alloc (Upd.setCell hinv.out.2.2.2.2.2.2.2 (.inr (by simp)) _) _
        have F6 : Hid (Olds os ∧ Taken ub os) := ⟨hinv.out.2.2.2.2.2.1, hinv.out.2.2.2.2.2.2.1⟩
        clear hinv cu fu cx
        generalize ((wr.setCell ⟨w.heap.size + 1, q, none⟩ (.bool true)).alloc (.cells #[.bool false] 4)) = w2 at *
        have ho := fun w => old_any q w hq12
        refine (ho w2).mono ?_
        rintro e w3 ⟨rfl, U3⟩
        have G5 : Hid (Upd [] w w3) := F5.out.transTo U3 (by simp)
        have hszw : w.heap.size + 2 ≤ w3.heap.size := by have := lt_of_heap F2.out; have := U3.size; omega
        go_wp2_with fail
        refine (bool_any (w.heap.size + 2) w.heap.size ⟨wr.heap.size, 0, none⟩ (oldAt q) ⟨#[117]⟩ w3 _ _ ov _ os hszw (U3.keep F1.out (by simp)) (U3.owns F3.out (by simp)) (by omega) Hfresh.out (oldAt_ne q hq12)).mono ?_
        rintro e w4 ⟨rfl, ov', g1, g2, g3, g4, g5⟩
        have hne1 := owns_ne F3.out F2.out (by decide)
        have hob : ∀ g, ov.ownBlock = some g → w.heap.size + 2 ≤ g := fun g hg => (owns_block F3.out hg).choose_spec.2
        have K2 : Hid (w4.heap[w.heap.size + 1]? = some (.cells (ub.setIfInBounds q (.bool true)) 29 (0,0))) := g4.keep (U3.keep F2.out (by simp)) (by simp; exact hne1)
        have K4 : Hid (w4.ownsRow (w.heap.size + 2) 21 1 u15 os.length (letsOf os)) := g4.owns (U3.owns F4.out (by simp)) (by
          intro g hg
          obtain ⟨cur, hh, hge⟩ := owns_block F4.out hg
          simp
          refine ⟨by omega, fun h => ?_⟩
          obtain ⟨cur2, hh2, _⟩ := owns_block F3.out h
          exact ne_elem hh hh2 (by decide) rfl)
        have K5 : Hid (Upd [] w w4) := G5.out.transTo g4 (by
          intro i hi'
          right
          simp at hi'
          rcases hi' with rfl | hi'
          · omega
          · have := hob _ hi'; omega)
        have K1 : Hid (w4.heap[w.heap.size]? = some (.cells #[.string ⟨#[112, 114, 111, 103]⟩, .string ⟨#[111, 112, 115]⟩, ov', .nilIface] 28 (0,0))) := g1
        have K3 : Hid (w4.ownsRow (w.heap.size + 2) 38 4 ov' (os.length + 1) (ocs os ++ oc (oldAt q, ⟨#[]⟩, ⟨#[117]⟩, .func (.func 15) #[] #[.pointer (some ⟨w3.heap.size, 0, none⟩)]))) := g3
        generalize w3.heap.size = kb at *
        clear g1 g2 g3 g4 g5 U3 F1 F2 F3 F4 F5 G5 hob hne1
        go_wp2_with fail
        refine (ho w4).mono ?_
        rintro e w5 ⟨rfl, U5⟩
        have M1 : Hid (w5.heap[w.heap.size]? = some (.cells #[.string ⟨#[112, 114, 111, 103]⟩, .string ⟨#[111, 112, 115]⟩, ov', .nilIface] 28 (0,0))) := U5.keep K1.out (by simp)
        have M2 : Hid (w5.heap[w.heap.size + 1]? = some (.cells (ub.setIfInBounds q (.bool true)) 29 (0,0))) := U5.keep K2.out (by simp)
        have M3 : Hid (w5.ownsRow (w.heap.size + 2) 38 4 ov' (os.length + 1) (ocs os ++ oc (oldAt q, ⟨#[]⟩, ⟨#[117]⟩, .func (.func 15) #[] #[.pointer (some ⟨kb, 0, none⟩)]))) := U5.owns K3.out (by simp)
        have M4 : Hid (w5.ownsRow (w.heap.size + 2) 21 1 u15 os.length (letsOf os)) := U5.owns K4.out (by simp)
        have M5 : Hid (Upd [] w w5) := K5.out.transTo U5 (by simp)
        have hszw5 : w.heap.size + 2 ≤ w5.heap.size := by have := lt_of_heap M2.out; omega
        clear K1 K2 K3 K4 K5 U5
        go_wp2_with (at_builtin; go_must (refine wpList_append_lies _ rfl _ _ _ rfl (w.heap.size + 2) 21 i0 _ 1 4 Ybaf.underlying30 hi hz0 hz1 hz2 rfl (by omega) u15 os.length (letsOf os) rfl (M4.out.alloc _) ⟨w5.heap.size, 0, none⟩ 1 1 [.int .i32 (oldAt q)] rfl (by rfl) (World.news_of_block (cs := #[.int .i32 (oldAt q)]) (heap_last w5 _ _ (by simp))) (by simp [Value.oneCell']) (by omega) (by unfold maxLen; omega) (by omega) (by simp; omega) (w5.heap.size + 1) (by simp) ?_); intro gg cap w6 hown6 hgrow6 hat6 hlt6)
        have N : Hid (∀ g, u15.ownBlock = some g → w.heap.size + 2 ≤ g ∧ (∃ cur, w5.heap[g]? = some (.cells cur 21 (0,0)))) := fun g hg => by
          obtain ⟨cur, hh, hge⟩ := owns_block M4.out hg
          exact ⟨hge, cur, hh⟩
        have U6 : Upd u15.ownBlock.toList w5 w6 := Upd.grown (Upd.alloc (Upd.refl _ _) _) hgrow6 (fun k hk => .inl (by simp [hk]))
        go_roundw
        case rel =>
          refine ⟨k + 1, os ++ [(oldAt q, ⟨#[]⟩, ⟨#[117]⟩, .func (.func 15) #[] #[.pointer (some ⟨kb, 0, none⟩)])], ov', _, by omega, by go_num, U6.keep M1.out ?_, U6.keep M2.out ?_, ?_, ?_, ?_, F6.out.1.snoc hq12 _, F6.out.2.snoc hq12 _, M5.out.transTo U6 ?_⟩
          · simp; intro h; have := (N.out _ h).1; omega
          · simp; intro h; have := (N.out _ h).1; omega
          · rw [ocs_snoc, List.length_append]
            refine U6.owns M3.out ?_
            intro g hg
            simp
            intro h
            obtain ⟨_, cur, hh⟩ := N.out _ h
            obtain ⟨cur2, hh2, _⟩ := owns_block M3.out hg
            exact ne_elem hh hh2 (by decide) rfl
          · rw [letsOf_snoc, List.length_append]
            exact hown6
          · simp; omega
          · intro i hi'; right; simp at hi'; have := (N.out _ hi').1; omega
        case measure => simp [intOf]; omega
    · obtain ⟨q8, hq8⟩ : ∃ q : Nat, sel % 8 = (q : Int) := ⟨(sel % 8).toNat, by omega⟩
      have hq8l : q8 < 8 := by omega
      obtain ⟨la, lc, rfl, hla⟩ := owns_slice hinv.out.2.2.2.1
      obtain ⟨m, hm⟩ : ∃ m, m = os.length := ⟨_, rfl⟩
      have Hm : Hid (m = os.length) := hm
      have hmk : m ≤ 1024 := by have := hinv.out.2.2.2.2.1; omega
      have I1 : Hid (wr.heap[w.heap.size]? = some (.cells #[.string ⟨#[112, 114, 111, 103]⟩, .string ⟨#[111, 112, 115]⟩, ov, .nilIface] 28 (0,0))) := hinv.out.1
      have I3 : Hid (wr.ownsRow (w.heap.size + 2) 38 4 ov m (ocs os)) := by rw [hm]; exact hinv.out.2.2.1
      have I4 : Hid (wr.ownsRow (w.heap.size + 2) 21 1 (.slice la m lc) m (letsOf os)) := by rw [hm]; exact hinv.out.2.2.2.1
      have I6 : Hid (Olds os) := hinv.out.2.2.2.2.2.1
      have I8 : Hid (Upd [] w wr) := hinv.out.2.2.2.2.2.2.2
      have hszr : w.heap.size + 2 ≤ wr.heap.size := by have := lt_of_heap hinv.out.2.1; omega
      rw [← hm]
      clear hinv hla hm
      go_wp2_with fail
      refine (new_any q8 wr hq8l).mono ?_
      rintro e w1 ⟨rfl, U1⟩
      have hsz1 := U1.size
      go_wp2_with fail
      have U2 : Hid (Upd [] wr (w1.alloc (.cells #[.string p] 9))) := Upd.alloc U1 _
      refine (string_any (w.heap.size + 2) w.heap.size w1.heap.size (newAt q8) p val us (w1.alloc (.cells #[.string p] 9)) _ _ ov _ os (by simp; omega) (U2.out.keep I1.out (by simp)) (by rw [← Hm.out]; exact U2.out.owns I3.out (by simp)) (by have := Hm.out; omega) (heap_last _ _ _ rfl) hp' hu (fun i o ho => by obtain ⟨⟨j, hj, hjo⟩, _⟩ := I6.out i o ho; rw [hjo]; exact newAt_old q8 hq8l j hj) (newAt_ne q8 hq8l)).mono ?_
      rintro e w2 ⟨rfl, ov', g1, g2, g3, g4, g5⟩
      have hob : ∀ g, ov.ownBlock = some g → g < wr.heap.size ∧ w.heap.size + 2 ≤ g ∧ ∃ cur, wr.heap[g]? = some (.cells cur 38 (0,0)) := by
        intro g hg
        obtain ⟨cur, hh, hge⟩ := owns_block I3.out hg
        exact ⟨lt_of_heap hh, hge, cur, hh⟩
      have hsz2 := g4.size
      simp at hsz2 g2
      have V3 : Hid (w2.heap[w1.heap.size]? = some (.cells #[.string p] 9 (0,0))) := g4.keep (heap_last _ _ _ rfl) (by simp; exact ⟨by omega, fun h => by have := (hob _ h).1; omega⟩)
      have V4 : Hid (w2.ownsRow (w.heap.size + 2) 21 1 (.slice la m lc) m (letsOf os)) := g4.owns (U2.out.owns I4.out (by simp)) (by
        intro g hg
        obtain ⟨cur, hh, hge⟩ := owns_block I4.out hg
        simp
        refine ⟨by omega, fun h => ?_⟩
        obtain ⟨_, _, cur2, hh2⟩ := hob _ h
        exact ne_elem hh hh2 (by decide) rfl)
      have V6 : Hid (Upd [] w w2) := (I8.out.transTo (U2.out) (by simp)).transTo g4 (by
        intro i hi'
        right
        simp at hi'
        rcases hi' with rfl | hi'
        · omega
        · have := (hob _ hi').2.1; omega)
      have V7 : Hid (w2.heap[w1.heap.size + 1]? = some (.cells #[.pointer (some ⟨w1.heap.size, 0, none⟩)] 35 (0,0))) := g2
      have V8 : Hid (w2.heap[w.heap.size]? = some (.cells #[.string ⟨#[112, 114, 111, 103]⟩, .string ⟨#[111, 112, 115]⟩, ov', .nilIface] 28 (0,0))) := g1
      have e0 : ocs os ++ oc (newAt q8, val, usageOf p us, .func (.func 16) #[] #[.pointer (some ⟨(w1.alloc (.cells #[.string p] 9)).heap.size, 0, none⟩)]) = ocs (os ++ [(newAt q8, val, usageOf p us, Value.func (.func 16) #[] #[.pointer (some ⟨w1.heap.size + 1, 0, none⟩)])]) := by rw [ocs_snoc]; simp
      rw [e0, ← Hm.out] at g3
      obtain ⟨sg, cap, hsv, _, _⟩ := g3.form (by omega)
      subst hsv
      have V9 : Hid (w2.ownsRow (w.heap.size + 2) 38 4 (.slice (some ⟨sg, 0, none⟩) (m + 1) cap) (m + 1) (ocs (os ++ [(newAt q8, val, usageOf p us, Value.func (.func 16) #[] #[.pointer (some ⟨w1.heap.size + 1, 0, none⟩)])]))) := g3
      have hcb : w.heap.size ≤ w1.heap.size := by omega
      generalize w1.heap.size = cb at *
      clear g1 g2 g3 g4 g5 hsz2 hsz1 U1 U2 e0 I1 I3 I4 hob
      have c2 : w2.cell? ⟨w.heap.size, 2, none⟩ = some (.slice (some ⟨sg, 0, none⟩) (m + 1) cap) := cell_at V8.out 2
      have cp : w2.cell? ⟨cb, 0, none⟩ = some (.string p) := cell_at V3.out 0
      go_wp2_with fail
      clear c2 cp
      go_loopw [83] (fun i wq => ∃ (j : Nat), j ≤ m ∧ i = .int .i64 j ∧ Hid (Upd [] w2 wq)) (fun i _ => m - (intOf i).toNat)
      case atStart => exact ⟨0, by omega, rfl, Upd.refl _ _⟩
      case round =>
        obtain ⟨j, hj, rfl, hU⟩ := hrel
        have c2 : wr.cell? ⟨w.heap.size, 2, none⟩ = some (.slice (some ⟨sg, 0, none⟩) (m + 1) cap) := cell_at (hU.out.keep V8.out (by simp)) 2
        by_cases hlt' : j < m
        · have hos : os[j]? = some (os[j]'(by rw [← Hm.out]; exact hlt')) := List.getElem?_eq_getElem _
          generalize os[j]'(by rw [← Hm.out]; exact hlt') = o at hos
          have hos2 : (os ++ [(newAt q8, val, usageOf p us, Value.func (.func 16) #[] #[.pointer (some ⟨cb + 1, 0, none⟩)])])[j]? = some o := by rw [List.getElem?_append_left (by rw [← Hm.out]; exact hlt')]; exact hos
          obtain ⟨_, po2, po3, gv, po4⟩ := I6.out j o hos
          obtain ⟨lg, lc', hsv', _, _⟩ := V4.out.form (by omega)
          simp only [Value.slice.injEq] at hsv'
          obtain ⟨rfl, _, rfl⟩ := hsv'
          have V9' := hU.out.owns V9.out (by simp)
          have V4' := hU.out.owns V4.out (by simp)
          have d0 : wr.cell? ⟨sg, j * 4, none⟩ = some (.int .i32 o.1) := opt_cell V9' hos2 0 _ (by omega) rfl
          have d1 : wr.cell? ⟨sg, j * 4 + 1, none⟩ = some (.string ⟨#[]⟩) := by rw [← po2]; exact opt_cell V9' hos2 1 _ (by omega) rfl
          have d2 : wr.cell? ⟨sg, j * 4 + 2, none⟩ = some (.string ⟨#[117]⟩) := by rw [← po3]; exact opt_cell V9' hos2 2 _ (by omega) rfl
          have d3 : wr.cell? ⟨sg, j * 4 + 3, none⟩ = some (.func (.func 15) #[] gv) := by rw [← po4]; exact opt_cell V9' hos2 3 _ (by omega) rfl
          have dl : wr.cell? ⟨lg, j, none⟩ = some (.int .i32 o.1) := by
            have h1 := V4'.cellAt j (by omega)
            rw [h1]
            exact letsOf_at hos
          have b1 : (0 : Int) ≤ (j : Int) := by omega
          have b2 : (j : Int) < ((m + 1 : Nat) : Int) := by omega
          have b3 : (j : Int) < (m : Int) := by omega
          have hsf := fun (a : Addr) (c : Array Value) (w : World) => run_store Ybaf.prog w a (.func (.func 15) #[] c) .plain rfl
          have hfn := fun (x y : Array Value) (w : World) => eq_fn_nil (.func 15) x y w
          clear hos hos2 po2 po3 po4 V9' V4'
          generalize o.1 = l at *
          go_wp2
          go_roundw
          case rel => exact ⟨j + 1, by omega, by go_num, Upd.alloc hU.out _⟩
          case measure => simp [intOf]; omega
        · have hjm : j = m := by omega
          subst hjm
          have hos2 : (os ++ [(newAt q8, val, usageOf p us, Value.func (.func 16) #[] #[.pointer (some ⟨cb + 1, 0, none⟩)])])[j]? = some (newAt q8, val, usageOf p us, Value.func (.func 16) #[] #[.pointer (some ⟨cb + 1, 0, none⟩)]) := by rw [Hm.out]; simp
          have V9' := hU.out.owns V9.out (by simp)
          have W3 : Hid (wr.heap[cb]? = some (.cells #[.string p] 9 (0,0))) := hU.out.keep V3.out (by simp)
          have W6 : Hid (Upd [] w wr) := V6.out.transTo hU.out (by simp)
          have W7 : Hid (wr.heap[cb + 1]? = some (.cells #[.pointer (some ⟨cb, 0, none⟩)] 35 (0,0))) := hU.out.keep V7.out (by simp)
          have d0 : wr.cell? ⟨sg, j * 4, none⟩ = some (.int .i32 (newAt q8)) := opt_cell V9' hos2 0 _ (by omega) rfl
          have d1 : wr.cell? ⟨sg, j * 4 + 1, none⟩ = some (.string val) := opt_cell V9' hos2 1 _ (by omega) rfl
          have d2 : wr.cell? ⟨sg, j * 4 + 2, none⟩ = some (.string (usageOf p us)) := opt_cell V9' hos2 2 _ (by omega) rfl
          have d3 : wr.cell? ⟨sg, j * 4 + 3, none⟩ = some (.func (.func 16) #[] #[.pointer (some ⟨cb + 1, 0, none⟩)]) := opt_cell V9' hos2 3 _ (by omega) rfl
          have dv : wr.cell? ⟨cb, 0, none⟩ = some (.string p) := cell_at W3.out 0
          have fv := free_at W3.out 0
          have hvl := lt_of_heap W3.out
          have hsf := fun (a : Addr) (c : Array Value) (w : World) => run_store Ybaf.prog w a (.func (.func 16) #[] c) .plain rfl
          have hfn := fun (x y : Array Value) (w : World) => eq_fn_nil (.func 16) x y w
          clear hos2 V9' V3 V4 V6 V7 V8 V9
          cases hpe : p.toList.isEmpty
          · have e1 : usageOf p us = us ++ ((⟨#[32, 40, 100, 101, 102, 97, 117, 108, 116, 58, 32]⟩ ++ p) ++ ⟨#[41]⟩) := by unfold usageOf; rw [if_neg (by simp [hpe])]
            rw [e1, ← ByteArray.append_assoc, ← ByteArray.append_assoc] at d2
            clear e1
            go_wp2_with fail
            refine (set_string (cb + 1) cb p v _ (heap_past W7.out _) (heap_past W3.out _)).mono ?_
            rintro e w4 ⟨rfl, rfl⟩
            go_wp2_with fail
            go_ret
            exact ⟨rfl, Upd.alloc (Upd.setCell W6.out (.inr (by show w.heap.size ≤ cb; omega)) _) _⟩
          · have e1 : usageOf p us = us := by unfold usageOf; rw [if_pos hpe]
            rw [e1] at d2
            go_wp2_with fail
            refine (set_string (cb + 1) cb p v _ (heap_past W7.out _) (heap_past W3.out _)).mono ?_
            rintro e w4 ⟨rfl, rfl⟩
            go_wp2_with fail
            go_ret
            exact ⟨rfl, Upd.alloc (Upd.setCell W6.out (.inr (by show w.heap.size ≤ cb; omega)) _) _⟩

end Go.Proofs.YbulkcsneFmt
