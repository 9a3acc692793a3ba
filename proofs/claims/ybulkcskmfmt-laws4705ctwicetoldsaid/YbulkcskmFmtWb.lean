/-
  WALKS, SECOND PART: the signing: Sign, appendSignedChecking, appendSigned, (*auth).sign.
-/
import Derived.Test.YbulkcskmFmtWa
import Derived.Laws.CopyOwn
import Derived.Deep.RegionHeld3
namespace Go.Proofs.YbulkcskmFmt
open Go.RowKit Go.Lib
attribute [local go_sem ↓] Go.wp_at_zero Go.wp_at_succ
theorem Ybaf.info39 : (Ybaf.prog.info? 39).map (fun i => (i.zero, i.size, i.bytes)) = some (some (.slice none 0 0), 1, 24) := by kernel_rfl

theorem owns_none {w w' : World} {B : Nat} {e : TypeId} {sz n : Nat} {v : Value} {xs : List Value} (ho : w.ownsRow B e sz v n xs) (hg : w.grownBy w' none) : w'.ownsRow B e sz v n xs :=
  ho.kept hg (by cases hv : v.ownBlock <;> simp)
/-- 'copy' over the whole of a row of the call's own. -/
theorem wpList_copy_full {P : Program} {w : World} {ops : Array Oper} {rest : List Oper} {o : Oper} {a : Act} {Q : Exit → Act → World → Prop} (hgd : o.guard = none) (d s : Operand) (dT sT : TypeId)
    (ho : o.op = .call { callee := .builtin .copy, args := #[d, s], argTypes := #[dT, sT] }) (elem : TypeId) (hu : P.underlying dT = some (.slice elem)) (hsz : (P.info? elem).map (·.size) = some 1)
    (g dCap : Nat) (ad : Addr) (L sCap : Nat) (hd : a.eval d = .slice (some ⟨g, 0, none⟩) L dCap) (hs : a.eval s = .slice (some ad) L sCap)
    (cur : Array Value) (t : TypeId) (hg : w.heap[g]? = some (.cells cur t (0, 0))) (hcur : cur.size = L) (cs : List Value) (hn : cs.length = L)
    (hsrc : ∀ j v, cs[j]? = some v → w.cell? (ad.add j) = some v) (h1 : ∀ v ∈ cs, v.oneCell' = true)
    (h : ∀ w', w'.heap[g]? = some (.cells cs.toArray t (0, 0)) → Upd [g] w w' → wpList P ops Q rest (a.put o.dst (goInt L)) w') : wpList P ops Q (o :: rest) a w := by
  refine wpList_copy_own hgd d s dT sT ho elem hu hsz g 0 L dCap ad L sCap hd hs cur t hg cs (by simp; omega) hsrc (by omega) h1 ?_
  have e : (cur.toList.take 0 ++ (cs ++ cur.toList.drop (0 + cs.length))).toArray = cs.toArray := by
    rw [List.drop_of_length_le (by simp; omega)]; simp
  rw [e, hn]
  exact h _ (setRow_heap w g cur _ t _ hg) ⟨rfl, rfl, rfl, by simp, fun k _ hk => setRow_other w g k _ (by simpa using hk)⟩

set_option maxRecDepth 100000 in
set_option maxHeartbeats 1000000 in
theorem Sign_any (B gb pb pc L n : Nat) (tag : Int) (w : World) (pays ver : Value) (ps cs : List Value) (hB : B ≤ w.heap.size)
    (hown : w.ownsRow B 39 1 pays n ps) (hn : n ≤ 100) (hL : L ≤ 100)
    (hh : w.heap[gb]? = some (.cells #[.int .u8 tag, pays, ver] 33 (0,0)))
    (hp : w.ownsRow B 5 1 (.slice (some ⟨pb, 0, none⟩) L pc) L cs) (h1c : ∀ v ∈ cs, v.oneCell' = true) :
    Calls Ybaf.prog 49 #[.pointer (some ⟨gb, 0, none⟩), .slice (some ⟨pb, 0, none⟩) L pc] w
      fun e w' => ∃ gg cb pays', e = .returned (.slice (some ⟨gg, 0, none⟩) 3 3) ∧ w'.heap[gb]? = some (.cells #[.int .u8 tag, pays', ver] 33 (0,0)) ∧ 
        w'.ownsRow B 39 1 pays' (n + 1) (ps ++ [.slice (some ⟨cb, 0, none⟩) L L]) ∧ w'.heap[cb]? = some (.cells cs.toArray 5 (0,0)) ∧ w'.heap[gg]? = some (.cells #[.int .u8 tag, .int .u8 L, .int .u8 n] 5 (0,0)) ∧
        w.heap.size ≤ cb ∧ cb < gg ∧ Upd (gb :: pays.ownBlock.toList) w w' ∧ (∀ g, pays'.ownBlock = some g → pays.ownBlock = some g ∨ w.heap.size ≤ g) := by
  obtain ⟨i0, hi, hz0, hz1, hz2⟩ := info_parts Ybaf.info39
  obtain ⟨j0, hj, hy0, hy1, hy2⟩ := info_parts Ybaf.info5
  have h0 : w.cell? ⟨gb, 1, none⟩ = some pays := by rw [cell_at hh]; rfl
  have hlt := lt_of_heap hh
  have hne := owns_ne hown hh (by decide)
  obtain ⟨sa', sl', sc', hse⟩ : ∃ a b c, pays = .slice a b c := by
    rcases hown.2 with ⟨h, _⟩ | ⟨_, _, _, h, _⟩ <;> exact ⟨_, _, _, h⟩
  subst hse
  have hsl : sl' = n := by
    rcases hown.2 with ⟨h, h2⟩ | ⟨_, _, _, h, _⟩ <;> (simp at h; omega)
  subst hsl
  have Hh : Hid (w.heap[gb]? = some (.cells #[.int .u8 tag, .slice sa' sl' sc', ver] 33 (0,0))) := hh
  clear hh
  have hcl : cs.length = L := by simpa using hp.1
  have tok1 : True := trivial
  have tok2 : True := trivial
  have tok3 : True := trivial
  go_enter Ybaf.func49, Ybaf.ntmps49
  go_wp2_with (first
    | (at_make; clear tok1; go_must (refine wpList_make_full _ (by rfl) _ _ _ (by rfl) B 5 j0 _ 1 Ybaf.underlying39 hj hy0 hy1 .i64 .i64 _ _ L (by rfl) (by rfl) (by rfl) (by rfl) (by rw [hy2]; omega) (by unfold maxLen; omega) hB ?_); intro w1 hown1 hgrow1; have hlen1 : L ≤ 100 := hL; obtain ⟨cur, hcur, hcs, _⟩ := owns_open hown1; rw [Nat.mul_one] at hcs; have hp1 := owns_none hp hgrow1; have hh1 : Hid (w1.heap[gb]? = some (.cells #[.int .u8 tag, .slice sa' sl' sc', ver] 33 (0,0))) := (hgrow1.block gb hlt (by simp)).trans Hh.out; have hown1' := owns_none hown hgrow1)
    | (clear tok2; (refine wpList_copy_full (by rfl) _ _ 39 39 (by rfl) 5 Ybaf.underlying39 (by rw [hj]; simp [hy1]) w.heap.size L ⟨pb, 0, none⟩ L pc (by rfl) (by rfl) cur 5 hcur hcs cs hcl (hp1.cells rfl) h1c ?_); intro w2 hc2 hu2; have hh2 : Hid (w2.heap[gb]? = some (.cells #[.int .u8 tag, .slice sa' sl' sc', ver] 33 (0,0))) := hu2.keep hh1.out (by simp; omega); have e2 : w2.cell? ⟨gb, 1, none⟩ = some (.slice sa' sl' sc') := cell_at hh2.out 1; have Hc2 : Hid (w2.heap[w.heap.size]? = some (.cells cs.toArray 5 (0,0))) := hc2; clear hc2; have hown2 := hu2.owns hown1' (fun g hg hm => owns_ne hown1' hcur (by decide) (by simp at hm; rw [hg, hm])); have hs2 : w.heap.size < w2.heap.size := lt_of_heap Hc2.out)
    | (at_builtin; clear tok3; go_must (refine wpList_append_lies _ (by rfl) _ _ _ (by rfl) B 39 i0 _ 1 24 Ybaf.underlying31 hi hz0 hz1 hz2 rfl (by omega) (.slice sa' sl' sc') sl' ps (by rfl) (hown2.alloc _) ⟨w2.heap.size, 0, none⟩ 1 1 [.slice (some ⟨w.heap.size, 0, none⟩) L L] (by rfl) (by rfl) (World.news_of_block (cs := #[.slice (some ⟨w.heap.size, 0, none⟩) L L]) (heap_last w2 _ _ (by simp))) (by simp [Value.oneCell']) (by omega) (by unfold maxLen; omega) (by omega) (by simp; omega) (w2.heap.size + 1) (by simp) ?_); intro g3 c3 w3 hown3 hgrow3 hat3 hlt3; have hh3 : Hid (w3.heap[gb]? = some (.cells #[.int .u8 tag, .slice sa' sl' sc', ver] 33 (0,0))) := (hgrow3.block gb (by have := lt_of_heap hh2.out; simp; omega) (Ne.symm hne)).trans (heap_past hh2.out _); have hf3 := free_at hh3.out 1; have e3 : w3.cell? ⟨gb, 1, none⟩ = some (.slice sa' sl' sc') := cell_at hh3.out 1; have e4 : w3.cell? ⟨gb, 0, none⟩ = some (.int .u8 tag) := cell_at hh3.out 0; have hc3 : Hid (w3.heap[w.heap.size]? = some (.cells cs.toArray 5 (0,0))) := (hgrow3.block w.heap.size (by simp; omega) (fun e => owns_ne hown1' hcur (by decide) e.symm)).trans (heap_past Hc2.out _)))
  go_ret
  have hs3 : w2.heap.size < w3.heap.size := by have := hgrow3.size; simp at this; omega
  have hsz : (w3.setCell ⟨gb, 1, none⟩ (.slice (some ⟨g3, 0, none⟩) (sl' + 1) c3)).heap.size = w3.heap.size := by simp
  refine ⟨w3.heap.size, w.heap.size, .slice (some ⟨g3, 0, none⟩) (sl' + 1) c3, rfl, ?_, ?_, ?_, ?_, Nat.le_refl _, by omega, ?_, ?_⟩
  · exact heap_past (set_at hh3.out 1 _) _
  · exact (owns_set hown3 (owns_ne hown3 hh3.out (by decide)) _).alloc _
  · exact heap_past (by rw [set_ne (by simp; omega)]; exact hc3.out) _
  · exact heap_last _ _ _ hsz.symm
  · refine Upd.alloc (Upd.setCell (Upd.grown (Upd.alloc (Upd.transTo (Upd.grown (Upd.refl _ w) hgrow1 (by simp)) hu2 ?_) _) hgrow3 ?_) ?_ _) _
    · intro i hi; simp at hi; exact .inr (by omega)
    · intro k hk; left; rw [hk]; simp
    · left; simp
  · intro g hg
    simp [Value.ownBlock] at hg
    subst hg
    rcases hat3 with h | h
    · exact .inl h
    · exact .inr (by omega)


def preStr : ByteArray := { data := #[116, 97, 108, 108, 121, 99, 104, 101, 99, 107, 32, 115, 121, 110, 99, 104, 114, 111, 110, 105, 122, 101, 114, 32, 49, 0] }
theorem preStr_size : preStr.size = 26 := rfl

set_option maxRecDepth 100000 in
set_option maxHeartbeats 1000000 in
theorem asc_any (B mb : Nat) (V : Int) (w : World) (bv : Value) (a2 a3 a4 a5 : Value) (hB : B ≤ w.heap.size) (hV : 0 ≤ V) (hV2 : V ≤ 18446744073709551615)
    (hown : w.ownsRow B 5 1 bv 0 [])
    (hm : w.heap[mb]? = some (.cells #[.int .u8 1, .int .u64 V, a2, a3, a4, a5] 65 (0,0))) :
    Calls Ybaf.prog 19 #[.pointer (some ⟨mb, 0, none⟩), bv, .pointer none] w
      fun e w' => ∃ g cap, e = .returned (.tuple #[.slice (some ⟨g, 0, none⟩) 35 cap, .nilIface]) ∧ w'.ownsRow B 5 1 (.slice (some ⟨g, 0, none⟩) 35 cap) 35 (strCells preStr ++ [.int .u8 1] ++ (be64 V).map (Value.int .u8)) ∧
        Upd bv.ownBlock.toList w w' ∧ (bv.ownBlock = some g ∨ w.heap.size ≤ g) := by
  obtain ⟨i0, hi, hz0, hz1, hz2⟩ := info_parts Ybaf.info5
  have Hm : Hid (w.heap[mb]? = some (.cells #[.int .u8 1, .int .u64 V, a2, a3, a4, a5] 65 (0,0))) := hm
  have hml := lt_of_heap hm
  have hne := owns_ne hown hm (by decide)
  clear hm
  go_enter Ybaf.func19, Ybaf.ntmps19
  have tok1 : True := trivial
  have tok2 : True := trivial
  go_wp2_with (first
    | (at_builtin; clear tok1; go_must (refine wpList_append_str_lies w (by rfl) _ _ 39 9 (by rfl) B 5 i0 Ybaf.underlying39 Ybaf.underlying9 hi hz0 hz1 hz2 bv 0 [] (by rfl) hown preStr (by rfl) (by decide) (by rw [preStr_size]; omega) hB ?_); intro g1 c1 w1 hown1 hgrow1 hat1; have hm1 : Hid (w1.heap[mb]? = some (.cells #[.int .u8 1, .int .u64 V, a2, a3, a4, a5] 65 (0,0))) := (hgrow1.block mb hml (Ne.symm hne)).trans Hm.out; have e10 : w1.cell? ⟨mb, 0, none⟩ = some (.int .u8 1) := cell_at hm1.out 0; have e11 : w1.cell? ⟨mb, 1, none⟩ = some (.int .u64 V) := cell_at hm1.out 1; rw [preStr_size] at *; simp only [Nat.zero_add, List.nil_append] at hown1 ⊢; have hB1 : B ≤ w1.heap.size := Nat.le_trans hB hgrow1.size; have hne1 := owns_ne hown1 hm1.out (by decide))
    | (at_builtin; clear tok2; go_must (refine wpList_append_lies _ (by rfl) _ _ _ (by rfl) B 5 i0 _ 1 1 Ybaf.underlying39 hi hz0 hz1 hz2 rfl (by omega) (.slice (some ⟨g1, 0, none⟩) 26 c1) 26 (strCells preStr) (by rfl) (hown1.alloc _) ⟨w1.heap.size, 0, none⟩ 1 1 [.int .u8 1] (by rfl) (by rfl) (World.news_of_block (cs := #[.int .u8 1]) (heap_last w1 _ _ (by simp))) (by simp [Value.oneCell']) (by omega) (by unfold maxLen; omega) (by omega) (by simp; omega) (w1.heap.size + 1) (by simp) ?_); intro g2 c2 w2 hown2 hgrow2 hat2 hlt2; have hm2 : Hid (w2.heap[mb]? = some (.cells #[.int .u8 1, .int .u64 V, a2, a3, a4, a5] 65 (0,0))) := (hgrow2.block mb (by have := lt_of_heap hm1.out; simp; omega) (Ne.symm hne1)).trans (heap_past hm1.out _); have e20 : w2.cell? ⟨mb, 0, none⟩ = some (.int .u8 1) := cell_at hm2.out 0; have e21 : w2.cell? ⟨mb, 1, none⟩ = some (.int .u64 V) := cell_at hm2.out 1))
  have hB2 : B ≤ w2.heap.size := by have := hgrow2.size; simp at this; omega
  have hne2 := owns_ne hown2 hm2.out (by decide)
  have U2 : Upd bv.ownBlock.toList w w2 := by
    refine Upd.grown (Upd.alloc (Upd.grown (Upd.refl _ w) hgrow1 (fun k hk => .inl (by simp [hk]))) _) hgrow2 ?_
    intro k hk
    simp [Value.ownBlock] at hk
    subst hk
    rcases hat1 with h | h
    · exact .inl (by simp [h])
    · exact .inr (by omega)
  have A2 : bv.ownBlock = some g2 ∨ w.heap.size ≤ g2 := by
    rcases hat2 with h | h
    · simp [Value.ownBlock] at h
      subst h
      rcases hat1 with h | h
      · exact .inl h
      · exact .inr (by omega)
    · exact .inr (by have := hgrow1.size; omega)
  clear hgrow1 hgrow2 hat1 hat2 hown1 hm1 e10 e11 hne1 hown hB1
  have Hown2 : Hid (w2.ownsRow B 5 1 (.slice (some ⟨g2, 0, none⟩) 27 c2) 27 (strCells preStr ++ [.int .u8 1])) := hown2
  clear hown2
  go_region_held3 (fun w' => w'.cell? ⟨mb, 1, none⟩ = some (.int .u64 V))
    (first | go_keep | exact hu3.cell e21 (by simp [Value.ownBlock] at hne2 ⊢; omega))
    ((go_at_call 24; refine (au_any B 27 V w2.drew _ _ ?_ hV hV2 Hown2.out.drew (by omega)).mono ?_; (exact hB2); rintro e w3 ⟨g3, c3, rfl, hown3, hu3, hat3⟩))
  have hm3 := hu3.keep hm2.out (by simp [Value.ownBlock] at hne2 ⊢; omega)
  have e30 : w3.cell? ⟨mb, 0, none⟩ = some (.int .u8 1) := cell_at hm3 0
  clear hm3
  go_wp2
  go_ret2
  refine ⟨g3, c3, rfl, hown3, ?_, ?_⟩
  · refine U2.drew.transTo hu3 ?_
    intro i hi
    simp [Value.ownBlock] at hi
    subst hi
    rcases A2 with h | h
    · exact .inl (by simp [h])
    · exact .inr h
  · rcases hat3 with h | h
    · simp [Value.ownBlock] at h
      subst h
      exact A2
    · exact .inr (by have := U2.size; simp at h; omega)

/-- What a WISH(V) signs, as cells. -/
def payCells (V : Int) : List Value := strCells preStr ++ [.int .u8 1] ++ (be64 V).map (Value.int .u8)
theorem payCells_one (V : Int) : ∀ v ∈ payCells V, v.oneCell' = true := by
  intro v hv
  simp only [payCells, List.mem_append, List.mem_map] at hv
  rcases hv with (h | h) | ⟨_, _, rfl⟩
  · exact strCells_oneCell _ _ h
  · simp at h; subst h; rfl
  · rfl

set_option maxRecDepth 100000 in
set_option maxHeartbeats 1000000 in
theorem as_any (B mb : Nat) (V : Int) (w : World) (bv : Value) (a2 a3 a4 a5 : Value) (hB : B ≤ w.heap.size) (hV : 0 ≤ V) (hV2 : V ≤ 18446744073709551615)
    (hown : w.ownsRow B 5 1 bv 0 [])
    (hm : w.heap[mb]? = some (.cells #[.int .u8 1, .int .u64 V, a2, a3, a4, a5] 65 (0,0))) :
    Calls Ybaf.prog 15 #[.pointer (some ⟨mb, 0, none⟩), bv] w
      fun e w' => ∃ g cap, e = .returned (.slice (some ⟨g, 0, none⟩) 35 cap) ∧ w'.ownsRow B 5 1 (.slice (some ⟨g, 0, none⟩) 35 cap) 35 (payCells V) ∧
        Upd bv.ownBlock.toList w w' ∧ (bv.ownBlock = some g ∨ w.heap.size ≤ g) := by
  have Hown : Hid (w.ownsRow B 5 1 bv 0 []) := hown
  have Hm : Hid (w.heap[mb]? = some (.cells #[.int .u8 1, .int .u64 V, a2, a3, a4, a5] 65 (0,0))) := hm
  clear hown hm
  go_enter Ybaf.func15, Ybaf.ntmps15
  go_wp2_with (go_at_call 19; go_must (refine (asc_any B mb V w bv a2 a3 a4 a5 hB hV hV2 Hown.out Hm.out).mono ?_); rintro e w' ⟨g, cap, rfl, h1, h2, h3⟩)
  go_ret
  exact ⟨g, cap, rfl, h1, h2, h3⟩

end Go.Proofs.YbulkcskmFmt
