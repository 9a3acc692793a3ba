/-
  INDEPENDENT, SIXTH PART: nat.add 31 of 0 and 1; nat.cmp 32.
-/
import Derived.Test.YbulkcspiIe
namespace Go.Proofs.Ybulkcspi
open Go.RowKit Go.Lib
attribute [local go_sem ↓] Go.wp_at_zero Go.wp_at_succ

/-- What nat.add and nat.sub answer, S: the blocks that may have turned. -/
def NatAnsS (B : Nat) (S : List Nat) (n : Nat) (Z : Nat → Int) (w : World) (e : Ending) (w' : World) : Prop :=
  ∃ v', e = .returned v' ∧ w'.ownsRow B 104 1 v' (topOf Z n) (vals Z (topOf Z n)) ∧ Upd S w w' ∧ ∀ g', v'.ownBlock = some g' → g' ∈ S ∨ w.heap.size ≤ g'
theorem NatAns.toS {B g n : Nat} {Z : Nat → Int} {w w' : World} {e : Ending} (h : NatAns B g n Z w e w') : NatAnsS B [g] n Z w e w' := by
  obtain ⟨v', h1, h2, h3, h4⟩ := h
  exact ⟨v', h1, h2, h3, fun g' hg' => by rcases h4 g' hg' with h | h; exact .inl (by simp [h]); exact .inr h⟩
/-- What nat.set of [1] answers. -/
def OneAns (B : Nat) (S : List Nat) (w : World) (e : Ending) (w' : World) : Prop :=
  ∃ v', e = .returned v' ∧ w'.ownsRow B 104 1 v' 1 [.int .u64 1] ∧ Upd S w w' ∧ ∀ g', v'.ownBlock = some g' → g' ∈ S ∨ w.heap.size ≤ g'

set_option maxRecDepth 100000 in
theorem natset_one (B g c yg cy : Nat) (w : World) (ho : w.ownsRow B 104 1 (.slice (some ⟨g, 0, none⟩) 0 c) 0 []) (hy : w.heap[yg]? = some (.cells #[.int .u64 1] 104 (0,0))) (hB : B ≤ w.heap.size) :
    Calls Yba.prog 41 #[.slice (some ⟨g, 0, none⟩) 0 c, .slice (some ⟨yg, 0, none⟩) 1 cy] w fun e w' => OneAns B [g] w e w' := by
  have hsz : (Yba.prog.info? 104).map (·.size) = some 1 := by kernel_rfl
  obtain ⟨arr, h1, h2, h3, h4, _, h5⟩ := owns_open ho
  have h4' : c ≤ 9223372036854775807 := by unfold maxLen at h4; omega
  have Hmk := remake_any 1 g 0 c w (by omega) (by omega) h4'
  have HH : Hid (w.heap[g]? = some (.cells arr 104 (0,0)) ∧ arr.size = c * 1 ∧ c ≤ maxLen ∧ B ≤ g ∧ w.heap[yg]? = some (.cells #[.int .u64 1] 104 (0,0))) := ⟨h1, h2, h4, h5, hy⟩
  clear ho h1 h2 h4 h5 hy
  go_enter Yba.func41, Yba.ntmps41
  go_wp2_with fail
  refine Hmk.mono ?_
  rintro e w1 hans
  clear Hmk
  obtain ⟨zg, zc, zarr, rfl, z1, z2, z3, z4, z5, z6, z7⟩ : ∃ (zg zc : Nat) (zarr : Array Value), e = .returned (.slice (some ⟨zg, 0, none⟩) 1 zc) ∧ w1.heap[zg]? = some (.cells zarr 104 (0,0)) ∧ zarr.size = zc ∧ 1 ≤ zc ∧ zc ≤ maxLen ∧ B ≤ zg ∧ (zg = g ∨ w.heap.size ≤ zg) ∧ Upd [] w w1 := by
    rcases hans with ⟨q1, rfl, rfl⟩ | ⟨q1, c', rfl, q2, q3, rfl⟩
    · exact ⟨g, c, arr, rfl, HH.out.1, by have := HH.out.2.1; omega, q1, HH.out.2.2.1, HH.out.2.2.2.1, .inl rfl, Upd.refl _ _⟩
    · exact ⟨w.heap.size, c', _, rfl, heap_last _ _ _ rfl, size_madeCells _ _, q2, by unfold maxLen; omega, hB, .inr (Nat.le_refl _), Upd.alloc (Upd.refl _ _) _⟩
  clear hans
  have hy1 : w1.heap[yg]? = some (.cells #[.int .u64 1] 104 (0,0)) := z7.keep HH.out.2.2.2.2 (by simp)
  have hcp : ∀ ty, (Builtin.copy_ #[37, 37] ty #[.slice (some ⟨zg, 0, none⟩) 1 zc, .slice (some ⟨yg, 0, none⟩) 1 cy]).run Yba.prog w1 = .ok (goInt 1) (w1.setCell ⟨zg, 0, none⟩ (.int .u64 1)) := by
    intro ty
    have h := run_copy_cells (P := Yba.prog) w1 37 37 ty 104 zg 0 1 zc ⟨yg, 0, none⟩ 1 cy [.int .u64 1] Yba.underlying37 hsz (by simp) ?_ ?_ ?_ (by simp [Value.oneCell'])
    · exact h
    · intro j v hv
      cases j with
      | zero =>
        simp at hv
        subst hv
        rw [add_at]
        exact cell_at hy1 0
      | succ j => simp at hv
    · intro j hj
      simp at hj
      subst hj
      rw [cell_at z1, Array.getElem?_eq_getElem (by omega)]; rfl
    · intro j _
      exact free_at z1 _
  have HF : Hid (OneAns B [g] w (.returned (.slice (some ⟨zg, 0, none⟩) 1 zc)) (w1.setCell ⟨zg, 0, none⟩ (.int .u64 1))) := by
    refine ⟨_, rfl, ⟨by simp, .inr ⟨zg, zc, _, rfl, z5, set_at z1 0 _, z3, z4, by simp; omega, ?_⟩⟩, ?_, ?_⟩
    · apply List.ext_getElem?
      intro j
      rw [List.getElem?_take]
      cases j with
      | zero => rw [if_pos (by omega), Array.getElem?_toList, Array.getElem?_setIfInBounds_self_of_lt (by omega)]; rfl
      | succ j => rw [if_neg (by omega)]; simp
    · rcases z6 with h | h
      · subst h; exact Upd.setCell (z7.mono (by simp)) (.inl (by simp)) _
      · exact Upd.setCell (z7.mono (by simp)) (.inr (by simpa using h)) _
    · intro g' hg'
      simp [Value.ownBlock] at hg'
      subst hg'
      rcases z6 with h | h
      · exact .inl (by simp [h])
      · exact .inr h
  clear z1 z2 z4 z7 hy1
  go_wp2
  go_ret
  exact HF.out

theorem top_zero_one (X : Nat → Int) : topOf (addZ X 0) (0 + 1) = 1 ∧ vals (addZ X 0) 1 = [.int .u64 1] := by
  constructor
  · rfl
  · rfl

set_option maxRecDepth 100000 in
theorem natadd_zero (B yg cy : Nat) (a : Option Addr) (c : Nat) (X : Nat → Int) (w : World) (ho : w.ownsRow B 104 1 (.slice a 0 c) 0 []) (hy : w.heap[yg]? = some (.cells #[.int .u64 1] 104 (0,0))) (hoy : w.ownsRow 0 104 1 (.slice (some ⟨yg, 0, none⟩) 1 cy) 1 [.int .u64 1]) (hB : B ≤ w.heap.size) :
    Calls Yba.prog 31 #[.slice a 0 c, .slice a 0 c, .slice (some ⟨yg, 0, none⟩) 1 cy] w fun e w' => NatAnsS B (Value.slice a 0 c).ownBlock.toList (0 + 1) (addZ X 0) w e w' := by
  have Hset : Calls Yba.prog 41 #[.slice a 0 c, .slice (some ⟨yg, 0, none⟩) 1 cy] w fun e w' => OneAns B (Value.slice a 0 c).ownBlock.toList w e w' := by
    rcases ho.2 with ⟨h, _⟩ | ⟨g, cap, cur, hv, _⟩
    · obtain ⟨rfl, rfl⟩ : a = none ∧ c = 0 := by simpa using h
      refine (natset_any 0 1 _ _ w hoy (by omega) (by simp [Value.oneCell'])).mono ?_
      rintro e w' ⟨v', rfl, h1, h2, _⟩
      refine ⟨v', rfl, owns_mono h1 hB, h2.mono (by simp), fun g' hg' => .inr ?_⟩
      exact (owns_block h1 hg').choose_spec.2
    · simp only [Value.slice.injEq, true_and] at hv
      obtain ⟨rfl, rfl⟩ := hv
      exact natset_one B g c yg cy w ho hy hB
  have Hin : Calls Yba.prog 31 #[.slice a 0 c, .slice (some ⟨yg, 0, none⟩) 1 cy, .slice a 0 c] w fun e w' => OneAns B (Value.slice a 0 c).ownBlock.toList w e w' := by
    clear ho hy hoy
    go_enter Yba.func31, Yba.ntmps31
    go_wp2_with fail
    refine Hset.mono ?_
    rintro e w' ⟨v', rfl, hans⟩
    go_wp2
    go_ret
    exact ⟨v', rfl, hans⟩
  clear ho hy hoy Hset
  go_enter Yba.func31, Yba.ntmps31
  go_wp2_with fail
  refine Hin.mono ?_
  rintro e w' ⟨v', rfl, h1, h2, h3⟩
  have HA : Hid (w'.ownsRow B 104 1 v' 1 [.int .u64 1] ∧ Upd (Value.slice a 0 c).ownBlock.toList w w' ∧ ∀ g', v'.ownBlock = some g' → g' ∈ (Value.slice a 0 c).ownBlock.toList ∨ w.heap.size ≤ g') := ⟨h1, h2, h3⟩
  clear h1 h2 h3
  go_wp2
  go_ret
  exact ⟨v', rfl, by rw [(top_zero_one X).1, (top_zero_one X).2]; exact HA.out.1, HA.out.2.1, HA.out.2.2⟩

/-- cmp of a number that is not 0 with 1. -/
def CmpOne (w : World) (e : Ending) (w' : World) : Prop := ∃ r : Int, e = .returned (.int .i64 r) ∧ 0 ≤ r ∧ r ≤ 1 ∧ Upd [] w w'
set_option maxRecDepth 100000 in
theorem natcmp_one (B g m c yg cy : Nat) (X : Nat → Int) (w : World) (hm : 1 ≤ m) (hm2 : m ≤ 500) (hW : Wrds X m) (hT : X (m - 1) ≠ 0) (ho : w.ownsRow B 104 1 (.slice (some ⟨g, 0, none⟩) m c) m (vals X m)) (hy : w.heap[yg]? = some (.cells #[.int .u64 1] 104 (0,0))) :
    Calls Yba.prog 32 #[.slice (some ⟨g, 0, none⟩) m c, .slice (some ⟨yg, 0, none⟩) 1 cy] w fun e w' => CmpOne w e w' := by
  by_cases hm1 : m = 1
  · subst hm1
    obtain ⟨arr, h1, _, _, _, _, h6⟩ := vals_cells ho
    have c1 : w.cell? ⟨g, 0, none⟩ = some (.int .u64 (X 0)) := (cell_at h1 0).trans (h6 0 (by omega))
    have c2 : w.cell? ⟨yg, 0, none⟩ = some (.int .u64 1) := cell_at hy 0
    have hx := hW 0 (by omega)
    have hx1 : 1 ≤ X 0 := by have : X 0 ≠ 0 := hT; omega
    generalize X 0 = x at *
    clear ho hy h1 h6 hW hT
    have l1 : ¬ x < 1 := by omega
    go_enter Yba.func32, Yba.ntmps32
    go_wp2_with fail
    go_loopw [7] (fun i wr => i = .int .i64 0 ∧ Hid (Upd [] w wr)) (fun _ _ => 0)
    case atStart => exact ⟨rfl, Upd.refl _ _⟩
    case round =>
      obtain ⟨rfl, hU⟩ := hrel
      have d1 := hU.out.cell c1 (by simp)
      have d2 := hU.out.cell c2 (by simp)
      by_cases hgt : 1 < x
      · go_wp2_with (go_quiet (fail))
        go_ret
        exact ⟨1, rfl, by omega, by omega, ((hU.out.drewN _).drewN _).drewN _⟩
      · go_wp2_with (go_quiet (fail))
        go_ret
        exact ⟨0, rfl, by omega, by omega, hU.out.drewN _⟩
  · have q1 : (1 : Int) < (m : Int) := by omega
    have q2 : ((m : Int) == 1) = false := by simp; omega
    clear ho hy hW hT
    go_enter Yba.func32, Yba.ntmps32
    go_wp2
    go_ret
    exact ⟨1, rfl, by omega, by omega, Upd.refl _ _⟩

set_option maxRecDepth 100000 in
theorem natcmp_same (B B' m : Nat) (v v' : Value) (X : Nat → Int) (w : World) (hm2 : m ≤ 600) (ho : w.ownsRow B 104 1 v m (vals X m)) (ho' : w.ownsRow B' 104 1 v' m (vals X m)) :
    Calls Yba.prog 32 #[v, v'] w fun e w' => e = .returned (.int .i64 0) ∧ Upd [] w w' := by
  obtain ⟨a, c, rfl, ha⟩ := owns_slice ho
  obtain ⟨a', c', rfl, ha'⟩ := owns_slice ho'
  by_cases hm0 : m = 0
  · subst hm0
    clear ho ho' ha ha'
    go_enter Yba.func32, Yba.ntmps32
    go_wp2
    go_ret
    exact ⟨rfl, Upd.refl _ _⟩
  · obtain ⟨g, cap, hv, _, _⟩ := ho.form (by omega)
    simp only [Value.slice.injEq, true_and] at hv
    obtain ⟨rfl, rfl⟩ := hv
    obtain ⟨g', cap', hv', _, _⟩ := ho'.form (by omega)
    simp only [Value.slice.injEq, true_and] at hv'
    obtain ⟨rfl, rfl⟩ := hv'
    have HC : Hid (∀ k, k < m → w.cell? ⟨g, k, none⟩ = some (.int .u64 (X k)) ∧ w.cell? ⟨g', k, none⟩ = some (.int .u64 (X k))) := by
      intro k hk
      obtain ⟨arr, h1, _, _, _, _, h6⟩ := vals_cells ho
      obtain ⟨arr', h1', _, _, _, _, h6'⟩ := vals_cells ho'
      exact ⟨(cell_at h1 k).trans (h6 k hk), (cell_at h1' k).trans (h6' k hk)⟩
    have q1 : ((m : Int) == 0) = false := by simp; exact hm0
    obtain ⟨k, rfl⟩ : ∃ k, m = k + 1 := ⟨m - 1, by omega⟩
    have e0 : ((k + 1 : Nat) : Int) - 1 = (k : Int) := by omega
    clear ho ho' ha ha'
    go_enter Yba.func32, Yba.ntmps32
    go_wp2_with fail
    go_loopw [7] (fun i wr => ∃ s : Nat, s ≤ k ∧ i = .int .i64 s ∧ Hid (Upd [] w wr)) (fun i _ => (intOf i).toNat)
    case atStart => exact ⟨k, Nat.le_refl _, by go_num, Upd.refl _ _⟩
    case round =>
      obtain ⟨s, hs, rfl, hU⟩ := hrel
      obtain ⟨d1, d2⟩ := HC.out s (by omega)
      have c1 := hU.out.cell d1 (by simp)
      have c2 := hU.out.cell d2 (by simp)
      clear d1 d2
      generalize X s = x at c1 c2
      have b1 : (s : Int) < ((k + 1 : Nat) : Int) := by omega
      have b2 : (s : Int) < (k : Int) + 1 := by omega
      cases s with
      | zero =>
        have l1 : ¬ x < x := by omega
        go_wp2_with (go_quiet (fail))
        go_ret
        exact ⟨rfl, hU.out.drewN _⟩
      | succ s' =>
        have e1 : ((s' + 1 : Nat) : Int) - 1 = (s' : Int) := by omega
        have p1 : (0 : Int) < ((s' + 1 : Nat) : Int) := by omega
        have p2 : (0 : Int) < (s' : Int) + 1 := by omega
        have p3 : (0 : Int) ≤ (s' : Int) + 1 := by omega
        go_wp2_with (go_quiet (fail))
        go_roundw
        case rel => exact ⟨s', by omega, by go_num, hU.out.drewN _⟩
        case measure => simp [intOf]

end Go.Proofs.Ybulkcspi
