/-
  INDEPENDENT, SEVENTH PART: lshVU 26, nat.lsh 34, both by 3.
-/
import Derived.Test.YbulkcspiIf
namespace Go.Proofs.Ybulkcspi
open Go.RowKit Go.Lib
attribute [local go_sem ↓] Go.wp_at_zero Go.wp_at_succ

/-- The words, shifted to the left by 3, as the Go text reckons them. -/
def lshZ (X : Nat → Int) (m j : Nat) : Int :=
  if j = 0 then IntKind.u64.wrap (X 0 * 8) else if j < m then bits .or .u64 (IntKind.u64.wrap (X j * 8)) (X (j - 1) / 2305843009213693952) else X (m - 1) / 2305843009213693952

set_option maxRecDepth 100000 in
set_option maxHeartbeats 1000000 in
theorem lshVU_any (zg xg k cz cx : Nat) (X : Nat → Int) (zarr : Array Value) (w : World) (hm2 : k ≤ 600) (hW : Wrds X (k + 1)) (hz : w.heap[zg]? = some (.cells zarr 104 (0,0))) (hzs : k + 1 ≤ zarr.size) (hx : ∀ j, j < k + 1 → w.cell? ⟨xg, j, none⟩ = some (.int .u64 (X j))) :
    Calls Yba.prog 26 #[.slice (some ⟨zg, 0, none⟩) (k + 1) cz, .slice (some ⟨xg, 0, none⟩) (k + 1) cx, .int .u64 3] w fun e w' => e = .returned (.int .u64 (X k / 2305843009213693952)) ∧ (∃ arr', w'.heap[zg]? = some (.cells arr' 104 (0,0)) ∧ arr'.size = zarr.size ∧ (∀ j, j < k + 1 → arr'[j]? = some (.int .u64 (lshZ X (k + 1) j))) ∧ ∀ p, k + 1 ≤ p → arr'[p]? = zarr[p]?) ∧ Upd [zg] w w' := by
  have HX : Hid (w.heap[zg]? = some (.cells zarr 104 (0,0)) ∧ ∀ j, j < k + 1 → w.cell? ⟨xg, j, none⟩ = some (.int .u64 (X j))) := ⟨hz, hx⟩
  have HW : Hid (Wrds X (k + 1)) := hW
  have e0 : ((k + 1 : Nat) : Int) - 1 = (k : Int) := by omega
  have cl : w.cell? ⟨xg, k, none⟩ = some (.int .u64 (X k)) := hx k (by omega)
  have hxk := hW k (by omega)
  have b1 : (0 : Int) ≤ (k : Int) := by omega
  have b2 : (k : Int) < ((k + 1 : Nat) : Int) := by omega
  clear hz hx hW
  obtain ⟨xk, hxke⟩ : ∃ xk, X k = xk := ⟨_, rfl⟩
  rw [hxke] at cl hxk ⊢
  clear hxke
  have a1 : bits .and .u64 3 63 = 3 := by decide
  have a2 : IntKind.u64.wrap (64 - 3) = 61 := by decide
  have a3 : bits .and .u64 61 63 = 61 := by decide
  have a4 : IntKind.u64.wrap 61 = 61 := by decide
  have q1 : ((k : Int) + 1 == 0) = false := by simp; omega
  go_enter Yba.func26, Yba.ntmps26
  go_wp2_with fail
  go_loopw [8] (fun i wr => ∃ s : Nat, s ≤ k ∧ i = .int .i64 s ∧ Hid (∃ arr', wr.heap[zg]? = some (.cells arr' 104 (0,0)) ∧ arr'.size = zarr.size ∧ (∀ j, s < j → j < k + 1 → arr'[j]? = some (.int .u64 (lshZ X (k + 1) j))) ∧ (∀ p, p ≤ s ∨ k + 1 ≤ p → arr'[p]? = zarr[p]?) ∧ Upd [zg] w wr)) (fun i _ => (intOf i).toNat)
  case atStart => exact ⟨k, Nat.le_refl _, by go_num, zarr, HX.out.1, rfl, fun j h1 h2 => by omega, fun p _ => rfl, Upd.refl _ _⟩
  case round =>
    obtain ⟨s, hs, rfl, hJ⟩ := hrel
    obtain ⟨arr', j1, j2, j3, j4, j5⟩ := hJ.out
    have HXC : Hid (∀ j, j ≤ s → wr.cell? ⟨xg, j, none⟩ = some (.int .u64 (X j))) := by
      intro j hj
      by_cases hxz : xg = zg
      · rw [hxz, cell_at j1, j4 j (.inl hj), ← cell_at HX.out.1 j, ← hxz]
        exact HX.out.2 j (by omega)
      · exact j5.cell (HX.out.2 j (by omega)) (by simpa using hxz)
    have HJ : Hid (wr.heap[zg]? = some (.cells arr' 104 (0,0)) ∧ arr'.size = zarr.size ∧ (∀ j, s < j → j < k + 1 → arr'[j]? = some (.int .u64 (lshZ X (k + 1) j))) ∧ (∀ p, p ≤ s ∨ k + 1 ≤ p → arr'[p]? = zarr[p]?) ∧ Upd [zg] w wr) := ⟨j1, j2, j3, j4, j5⟩
    have hsa : s < arr'.size := by omega
    have c3 : wr.cell? ⟨zg, s, none⟩ = some (arr'[s]'hsa) := (cell_at j1 s).trans (Array.getElem?_eq_getElem _)
    have f3 := free_at j1 s
    generalize arr'[s]'hsa = old at c3
    clear j1 j3 j4 j5 hJ
    cases s with
    | zero =>
      have c1 := HXC.out 0 (by omega)
      have hx0 := HW.out 0 (by omega)
      obtain ⟨x0, hx0e⟩ : ∃ x0, X 0 = x0 := ⟨_, rfl⟩
      rw [hx0e] at c1 hx0
      have HE : Hid (X 0 = x0) := hx0e
      clear hx0e
      go_wp2
      go_ret
      refine ⟨rfl, ⟨_, set_at HJ.out.1 0 _, by simpa using HJ.out.2.1, ?_, ?_⟩, Upd.setCell HJ.out.2.2.2.2 (.inl (by simp)) _⟩
      · intro j hj
        by_cases hj0 : j = 0
        · subst hj0
          rw [Array.getElem?_setIfInBounds_self_of_lt hsa]
          simp only [lshZ, if_true, HE.out]
        · rw [Array.getElem?_setIfInBounds, if_neg (fun e => hj0 e.symm)]
          exact HJ.out.2.2.1 j (by omega) hj
      · intro p hp
        rw [Array.getElem?_setIfInBounds, if_neg (by omega)]
        exact HJ.out.2.2.2.1 p (.inr hp)
    | succ s' =>
      have c1 := HXC.out (s' + 1) (by omega)
      have c2 := HXC.out s' (by omega)
      have hx1 := HW.out (s' + 1) (by omega)
      have hx2 := HW.out s' (by omega)
      have HLZ : Hid (lshZ X (k + 1) (s' + 1) = bits .or .u64 (IntKind.u64.wrap (X (s' + 1) * 8)) (X s' / 2305843009213693952)) := by
        show lshZ X (k + 1) (s' + 1) = _
        unfold lshZ
        rw [if_neg (by omega), if_pos (by omega)]
        rfl
      generalize X (s' + 1) = x1 at c1 hx1 HLZ
      generalize X s' = x2 at c2 hx2 HLZ
      have e1 : ((s' + 1 : Nat) : Int) - 1 = (s' : Int) := by omega
      have g1 : (0 : Int) ≤ (s' : Int) + 1 := by omega
      have g2 : (s' : Int) + 1 < ((k + 1 : Nat) : Int) := by omega
      have g3 : (s' : Int) < ((k + 1 : Nat) : Int) := by omega
      have g4 : (s' : Int) + 1 < (k : Int) + 1 := by omega
      have g5 : (s' : Int) < (k : Int) + 1 := by omega
      have g6 : (0 : Int) < (s' : Int) + 1 := by omega
      have g7 : (0 : Int) ≤ (s' : Int) := by omega
      have g8 : IntKind.i64.wrap (s' : Int) = (s' : Int) := by rw [IntKind.wrap_i64]; omega
      clear HXC
      go_wp2_with fail
      refine wp_region_lex [0,0,0,0,0,1,0,0,0,0,0,0,1,0,0,0,0,3] (fun w' => Upd [] wr w') (by kernel_rfl) (by kernel_rfl) (fun _ _ _ _ _ h => h) ((Upd.refl [] wr).drew) ?_
      simp only [List.zip_cons_cons, List.zip_nil_right]
      repeat (first
        | (refine lex0 ?_ rfl ?_ ?_; rotate_left; (focus (intro w'; go_simp; (first | done | with_reducible rfl))); simp only [Act.put, List.setIfInBounds_toArray, List.set_cons_zero, List.set_cons_succ])
        | (refine lex1 ?_ rfl ?_ ?_; rotate_left; (focus (intro w' hSw; replace hSw : Upd [] wr w' := hSw; have e1 := hSw.cell c1 (by simp); have e2 := hSw.cell c2 (by simp); go_simp; (first | done | with_reducible rfl))); simp only [Act.put, List.setIfInBounds_toArray, List.set_cons_zero, List.set_cons_succ]))
      have d3 : wr.drew.cell? ⟨zg, s' + 1, none⟩ = some old := c3
      have h3 : wr.drew.frozen? ⟨zg, s' + 1, none⟩ = false := f3
      refine lex3 (fun K hK => ?_)
      go_simp
      refine hK _ _ ?_
      clear hK K
      try simp only [Act.put, List.setIfInBounds_toArray, List.set_cons_zero, List.set_cons_succ]
      refine lexE ?_
      go_wp2
      refine ⟨⟨s', by omega, rfl, _, set_at HJ.out.1 (s' + 1) _, by simpa using HJ.out.2.1, ?_, ?_, (Upd.setCell HJ.out.2.2.2.2 (.inl (by simp)) _).drew⟩, by simp [intOf]⟩
      · intro j h1 h2
        by_cases hj : j = s' + 1
        · subst hj
          rw [Array.getElem?_setIfInBounds_self_of_lt hsa, HLZ.out]
        · rw [Array.getElem?_setIfInBounds, if_neg (fun e => hj e.symm)]
          exact HJ.out.2.2.1 j (by omega) h2
      · intro p hp
        rw [Array.getElem?_setIfInBounds, if_neg (by omega)]
        exact HJ.out.2.2.2.1 p (by omega)

set_option maxRecDepth 100000 in
theorem natlsh_zero (B c : Nat) (a : Option Addr) (X : Nat → Int) (w : World) (ho : w.ownsRow B 104 1 (.slice a 0 c) 0 []) :
    Calls Yba.prog 34 #[.slice a 0 c, .slice a 0 c, .int .u64 3] w fun e w' => NatAnsS B (Value.slice a 0 c).ownBlock.toList 0 (lshZ X 0) w e w' := by
  have HO : Hid (w.ownsRow B 104 1 (.slice a 0 c) 0 []) := ho
  clear ho
  cases a with
  | none =>
    go_enter Yba.func34, Yba.ntmps34
    go_wp2
    go_ret
    exact ⟨_, rfl, HO.out, Upd.refl _ _, fun g' hg' => by simp [Value.ownBlock] at hg'⟩
  | some x =>
    go_enter Yba.func34, Yba.ntmps34
    go_wp2
    go_ret
    exact ⟨_, rfl, HO.out, Upd.refl _ _, fun g' hg' => .inl (by simpa using hg')⟩

theorem run_clear_zero (x : Addr) (c : Nat) (ty : TypeId) (w : World) : (Builtin.clear_ #[37] ty #[.slice (some x) 0 c]).run Yba.prog w = .ok (.tuple #[]) w := by
  simp [Builtin.clear_, run_underlying Yba.underlying37]

set_option maxRecDepth 100000 in
set_option maxHeartbeats 1000000 in
theorem natlsh_any (B g k c : Nat) (X : Nat → Int) (w : World) (hk : k ≤ 500) (hW : Wrds X (k + 1)) (ho : w.ownsRow B 104 1 (.slice (some ⟨g, 0, none⟩) (k + 1) c) (k + 1) (vals X (k + 1))) (hB : B ≤ w.heap.size) :
    Calls Yba.prog 34 #[.slice (some ⟨g, 0, none⟩) (k + 1) c, .slice (some ⟨g, 0, none⟩) (k + 1) c, .int .u64 3] w fun e w' => NatAnsS B [g] (k + 1 + 1) (lshZ X (k + 1)) w e w' := by
  obtain ⟨arr, h1, h2, h3, h4, h5, h6⟩ := vals_cells ho
  have h4' : c ≤ 9223372036854775807 := by unfold maxLen at h4; omega
  have HH : Hid (w.heap[g]? = some (.cells arr 104 (0,0)) ∧ (∀ j, j < k + 1 → arr[j]? = some (.int .u64 (X j))) ∧ Wrds X (k + 1) ∧ c ≤ maxLen) := ⟨h1, h6, hW, h4⟩
  have HC : ∀ (args : Array Value) (w : World), (callFunc 52 args).run Yba.prog w = .ok (.enter 26 args) w := twin_lshVU
  have Hcl : ∀ (x : Addr) (c : Nat) (ty : TypeId) (w : World), (Builtin.clear_ #[37] ty #[.slice (some x) 0 c]).run Yba.prog w = .ok (.tuple #[]) w := run_clear_zero
  obtain ⟨M, hM⟩ : ∃ M : Nat, M = k + 1 := ⟨_, rfl⟩
  obtain ⟨N, hN⟩ : ∃ N : Nat, N = k + 2 := ⟨_, rfl⟩
  have Hmk := remake_any N g M c w (by omega) (by omega) h4'
  rw [← hM]
  have e0 : (M : Int) + 1 = (N : Int) := by omega
  have q1 : ((M : Int) == 0) = false := by simp; omega
  have HM : Hid (M = k + 1 ∧ N = k + 2) := ⟨hM, hN⟩
  have m1 : M ≤ 501 := by omega
  have m2 : N ≤ 502 := by omega
  have m3 : M < N := by omega
  have m4 : 1 ≤ M := by omega
  clear ho h1 h6 hW h4 hM hN
  go_enter Yba.func34, Yba.ntmps34
  go_wp2_with fail
  refine Hmk.mono ?_
  rintro e w1 hans
  clear Hmk
  obtain ⟨zg, zc, zarr, rfl, z1, z2, z3, z4, z5, z6, z7⟩ : ∃ (zg zc : Nat) (zarr : Array Value), e = .returned (.slice (some ⟨zg, 0, none⟩) N zc) ∧ w1.heap[zg]? = some (.cells zarr 104 (0,0)) ∧ zarr.size = zc ∧ N ≤ zc ∧ zc ≤ maxLen ∧ B ≤ zg ∧ (zg = g ∨ w.heap.size ≤ zg) ∧ Upd [] w w1 := by
    rcases hans with ⟨q1, rfl, rfl⟩ | ⟨q1, c', rfl, q2, q3, rfl⟩
    · exact ⟨g, c, arr, rfl, HH.out.1, h2, q1, HH.out.2.2.2, h5, .inl rfl, Upd.refl _ _⟩
    · exact ⟨w.heap.size, c', _, rfl, heap_last _ _ _ rfl, size_madeCells _ _, q2, by unfold maxLen; omega, hB, .inr (Nat.le_refl _), Upd.alloc (Upd.refl _ _) _⟩
  clear hans
  have Hsh := lshVU_any zg g k zc c X zarr w1 (by omega) HH.out.2.2.1 z1 (by have := HM.out; omega) (fun j hj => (cell_at (z7.keep HH.out.1 (by simp)) j).trans (HH.out.2.1 j hj))
  rw [← HM.out.1] at Hsh
  have z4' : zc ≤ 9223372036854775807 := by unfold maxLen at z4; omega
  have HZ : Hid (w1.heap[zg]? = some (.cells zarr 104 (0,0)) ∧ zarr.size = zc ∧ zc ≤ maxLen ∧ (zg = g ∨ w.heap.size ≤ zg) ∧ Upd [] w w1) := ⟨z1, z2, z4, z6, z7⟩
  clear z1 z2 z4 z6 z7
  obtain ⟨top, htop⟩ : ∃ top : Int, top = X k / 2305843009213693952 := ⟨_, rfl⟩
  rw [← htop] at Hsh
  have HT : Hid (top = X k / 2305843009213693952) := htop
  clear htop
  have k1 : (M : Int) ≤ (zc : Int) := by omega
  have k2 : (0 : Int) ≤ (M : Int) := by omega
  go_wp2_with fail
  refine Hsh.mono ?_
  rintro e w2 ⟨rfl, ⟨arr2, r1, r2, r3, r4⟩, hu2⟩
  clear Hsh
  have hMs : M < arr2.size := by rw [r2, HZ.out.2.1]; omega
  have d1 : w2.cell? ⟨zg, M, none⟩ = some (arr2[M]'hMs) := (cell_at r1 _).trans (Array.getElem?_eq_getElem _)
  have f1 := free_at r1 M
  generalize arr2[M]'hMs = old at d1
  have hz3 := set_at r1 M (.int .u64 top)
  have ha3 : ∀ j, j < N → (arr2.setIfInBounds M (.int .u64 top))[j]? = some (.int .u64 (lshZ X (k + 1) j)) := by
    intro j hj
    have hmm := HM.out
    by_cases hjM : j = M
    · subst hjM
      rw [Array.getElem?_setIfInBounds_self_of_lt hMs, HT.out]
      unfold lshZ
      rw [if_neg (by omega), if_neg (by omega)]
      rfl
    · rw [Array.getElem?_setIfInBounds, if_neg (fun e => hjM e.symm)]
      have := r3 j (by omega)
      rw [this, hmm.1]
  have Hn := norm_top zg N zc (lshZ X (k + 1)) _ _ hz3 ha3 (by omega) (by omega)
  have HF : Hid (NatAnsS B [g] N (lshZ X (k + 1)) w (.returned (.slice (some ⟨zg, 0, none⟩) (topOf (lshZ X (k + 1)) N) zc)) (w2.setCell ⟨zg, M, none⟩ (.int .u64 top))) := by
    have htl := topOf_le (lshZ X (k + 1)) N
    refine ⟨_, rfl, vals_owns hz3 (by simp; rw [r2]; exact HZ.out.2.1) (by omega) HZ.out.2.2.1 z5 (fun j hj => ha3 j (by omega)), ?_, ?_⟩
    · have hU3 : Upd [zg] w (w2.setCell ⟨zg, M, none⟩ (.int .u64 top)) := Upd.setCell ((HZ.out.2.2.2.2.mono (by simp)).transTo hu2 (fun i hi => .inl hi)) (.inl (by simp)) _
      rcases HZ.out.2.2.2.1 with h | h
      · rw [← h]; exact hU3
      · exact (Upd.refl [g] w).transTo hU3 (by intro i hi; right; simp at hi; omega)
    · intro g' hg'
      simp [Value.ownBlock] at hg'
      rw [← hg']
      rcases HZ.out.2.2.2.1 with h | h
      · exact .inl (by simp [h])
      · exact .inr h
  have b3 : (M : Int) < (N : Int) := by omega
  have HNN : Hid (M + 1 = N) := by have := HM.out; show M + 1 = N; omega
  have HZZ : Hid (lshZ X M = lshZ X (k + 1)) := by show lshZ X M = lshZ X (k + 1); rw [HM.out.1]
  clear hz3 ha3 r1 r2 r3 r4 hu2
  go_wp2_with fail
  refine Hn.mono ?_
  rintro e w3 ⟨rfl, rfl⟩
  go_wp2
  go_ret
  rw [HNN.out, HZZ.out]
  exact HF.out

end Go.Proofs.Ybulkcspi
