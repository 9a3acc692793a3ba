/-
  WALKS, THIRD PART: the law LawS4710CDefine.
-/
import Derived.Test.YbulkcsneFmtWb
import Derived.Deep.OwnRows
namespace Go.Proofs.YbulkcsneFmt
open Go.RowKit Go.Lib
attribute [local go_sem ↓] Go.wp_at_zero Go.wp_at_succ
theorem Ybaf.info21 : (Ybaf.prog.info? 21).map (fun i => (i.zero, i.size, i.bytes)) = some (some (.int .i32 0), 1, 4) := by kernel_rfl

theorem eqIn_fn_nil (d : Nat) (fn : Fn) (x y : Array Value) (w : World) : (Op.equalIn (d + 1) 36 (.func fn x y) .nilFunc).run Ybaf.prog w = .ok false w := by
  simp [Op.equalIn, run_underlying Ybaf.underlying36]
theorem eq_fn_nil (fn : Fn) (x y : Array Value) (w : World) : (binOp .eql 36 (.func fn x y) .nilFunc).run Ybaf.prog w = .ok (.bool false) w := by
  have h : (Op.equal 36 (.func fn x y) .nilFunc).run Ybaf.prog w = .ok false w := eqIn_fn_nil 9999 fn x y w
  simp [binOp, go_sem, h]

set_option maxRecDepth 100000 in
set_option maxHeartbeats 1000000 in
theorem cdefine_long (n c : Nat) (a : Option Addr) (sel : Int) (us : ByteArray) (bb : Bool) (w : World) (hn : 1024 < n) (hm : n ≤ maxLen) :
    Calls Ybaf.prog 5 #[.slice a n c, .int .u8 sel, .string us, .bool bb] w
      fun e w' => e = .returned (.bool true) ∧ Upd [] w w' := by
  unfold maxLen at hm
  go_enter Ybaf.func5, Ybaf.ntmps5
  go_wp2
  go_ret
  exact ⟨rfl, Upd.refl _ _⟩

set_option maxRecDepth 100000 in
set_option maxHeartbeats 4000000 in
theorem cdefine_short (n c : Nat) (a : Option Addr) (x0 : Addr) (sel : Int) (us : ByteArray) (bb : Bool) (w : World) (hn : n ≤ 1024) (ha : a = none → n = 0) (ha2 : ∀ x, a = some x → x = x0)
    (hs0 : 0 ≤ sel) (hs1 : sel ≤ 255)
    (hp : ∀ i, i < n → ∃ x, w.cell? (x0.add i) = some (.int .u8 x) ∧ 0 ≤ x ∧ x ≤ 255) :
    Calls Ybaf.prog 5 #[.slice a n c, .int .u8 sel, .string us, .bool bb] w
      fun e w' => e = .returned (.bool true) ∧ Upd [] w w' := by
  obtain ⟨i0, hi, hz0, hz1, hz2⟩ := info_parts Ybaf.info21
  have Hp : Hid (∀ i, i < n → ∃ x, w.cell? (x0.add i) = some (.int .u8 x) ∧ 0 ≤ x ∧ x ≤ 255) := hp
  have Ha : Hid (a = none → n = 0) := ha
  have Ha2 : Hid (∀ x, a = some x → x = x0) := ha2
  clear hp ha ha2
  have hq := letterAt_ok (i := sel % 16) (by omega) (by omega)
  obtain ⟨L, hL⟩ : ∃ L, letterAt (sel % 16) = L := ⟨_, rfl⟩
  rw [hL] at hq
  have hx16 : (0 : Int) ≤ sel % 16 ∧ sel % 16 ≤ 15 := by omega
  go_enter Ybaf.func5, Ybaf.ntmps5
  go_wp2_with fail
  refine (build_any n c a x0 L ⟨w.heap.size, 0, none⟩ (w.alloc (.cells #[.int .i64 0] 3)) hn Ha.out Ha2.out ?_).mono ?_
  · intro i hi'
    obtain ⟨x, h1, h2⟩ := Hp.out i hi'
    exact ⟨x, (Upd.alloc (Upd.refl [] w) _).cell h1 (by simp), h2⟩
  rintro e w1 ⟨os, ov, sb, rfl, hsb, h1, h2, h3, h4, h5⟩
  have Hcb : Hid (w1.heap[w.heap.size]? = some (.cells #[.int .i64 0] 3 (0,0))) := h5.keep (heap_last w _ _ rfl) (by simp)
  have U1 : Hid (Upd [] w w1) := (Upd.alloc (Upd.refl [] w) _).transTo h5 (by simp)
  simp at hsb
  obtain ⟨sa, sc, rfl, hsa⟩ := owns_slice h2
  obtain ⟨m, hm⟩ : ∃ m, m = os.length := ⟨_, rfl⟩
  have Hm : Hid (m = os.length) := hm
  rw [← hm] at h1 h2 h3
  have c2 : w1.cell? ⟨sb, 2, none⟩ = some (.slice sa m sc) := cell_at h1 2
  have H1 : Hid (w1.heap[sb]? = some (.cells #[.string ⟨#[112, 114, 111, 103]⟩, .string ⟨#[111, 112, 115]⟩, .slice sa m sc, .nilIface] 28 (0,0))) := h1
  have H2 : Hid (w1.ownsRow (w.heap.size + 1) 38 4 (.slice sa m sc) m (ocs os)) := (by simpa using h2 : w1.ownsRow (w.heap.size + 1) 38 4 (.slice sa m sc) m (ocs os))
  have H4 : Hid (Plain L os) := h4
  clear h1 h2 h4 h5 hm hsa
  go_wp2_with (at_make; go_must (refine wpList_make_row _ rfl _ _ _ rfl 21 i0 _ Ybaf.underlying30 hi hz0 hz1 (by rfl) _ _ m rfl rfl (by rw [hz2]; omega) (by omega) ?_))
  clear c2
  go_loopw [14] (fun i wr => ∃ (k : Nat) (arr : Array Value), k ≤ m ∧ i = .int .i64 k ∧ Hid (wr.heap[w1.heap.size]? = some (.cells arr 21 (0,0)) ∧ arr.size = m ∧ (∀ (j : Nat) (o : Opt), j < k → os[j]? = some o → arr[j]? = some (.int .i32 o.1)) ∧ Upd [] w1 wr)) (fun i _ => m - (intOf i).toNat)
  case atStart => exact ⟨0, _, by omega, rfl, heap_last _ _ _ rfl, by simp [madeCells], by intro j o h; omega, Upd.alloc (Upd.refl _ _) _⟩
  case round =>
    obtain ⟨k, arr, hk, rfl, hinv⟩ := hrel
    have hle : w1.heap.size ≠ sb := by have := lt_of_heap H1.out; omega
    by_cases hlt : k < m
    · have hos : os[k]? = some (os[k]'(by rw [← Hm.out]; exact hlt)) := List.getElem?_eq_getElem _
      generalize os[k]'(by rw [← Hm.out]; exact hlt) = o at hos
      have hos' : Hid (os[k]? = some o) := hos
      obtain ⟨sg, cap, hsv, _, _⟩ := H2.out.form (by omega)
      simp only [Value.slice.injEq] at hsv
      obtain ⟨rfl, _, rfl⟩ := hsv
      have c0 : wr.cell? ⟨sg, k * 4, none⟩ = some (.int .i32 o.1) := hinv.out.2.2.2.cell (opt_cell H2.out hos 0 _ (by omega) rfl) (by simp)
      have c2 : wr.cell? ⟨sb, 2, none⟩ = some (.slice (some ⟨sg, 0, none⟩) m sc) := cell_at (hinv.out.2.2.2.keep H1.out (by simp)) 2
      have hka : k < arr.size := by rw [hinv.out.2.1]; exact hlt
      have cl : wr.cell? ⟨w1.heap.size, k, none⟩ = some (arr[k]'hka) := by rw [cell_at hinv.out.1]; exact Array.getElem?_eq_getElem hka
      have fl := free_at hinv.out.1 k
      generalize arr[k]'hka = old at cl
      clear hos
      go_wp2
      go_roundw
      case rel =>
        refine ⟨k + 1, _, by omega, by go_num, set_at hinv.out.1 k _, by simp [hinv.out.2.1], ?_, Upd.setCell hinv.out.2.2.2 (.inr (by simp)) _⟩
        intro j o' hj ho'
        by_cases hjk : j = k
        · subst hjk
          obtain rfl : o' = o := Option.some.inj (ho'.symm.trans hos'.out)
          rw [Array.getElem?_setIfInBounds]; simp [hka]
        · rw [Array.getElem?_setIfInBounds, if_neg (by omega)]
          exact hinv.out.2.2.1 j o' (by omega) ho'
      case measure => simp [intOf]; omega
    · go_wp2_with fail
      have hkm : k = m := by omega
      have U2 : Hid (Upd [] w1 (wr.alloc (.cells #[.bool bb] 4))) := Upd.alloc hinv.out.2.2.2 _
      have hsz := hinv.out.2.2.2.size
      have hs1' := U1.out.size
      refine (bool_any (w.heap.size + 1) sb ⟨wr.heap.size, 0, none⟩ L us (wr.alloc (.cells #[.bool bb] 4)) _ _ _ _ os (by have := lt_of_heap Hcb.out; simp; omega) (U2.out.keep H1.out (by simp)) (by rw [← Hm.out]; exact U2.out.owns H2.out (by simp)) (by have := Hm.out; omega) (fun i o ho => (H4.out i o ho).1) hq.2.2).mono ?_
      rintro e w2 ⟨rfl, ov', g1, g2, g3, g4, g5⟩
      have hob : ∀ g, (Value.slice sa m sc).ownBlock = some g → g < w1.heap.size ∧ w.heap.size + 1 ≤ g := by
        intro g hg
        obtain ⟨_, hh, hge⟩ := owns_block H2.out hg
        exact ⟨lt_of_heap hh, hge⟩
      have hcb := lt_of_heap Hcb.out
      have hsbl := lt_of_heap H1.out
      have hsz2 := g4.size
      simp at hsz2 g2
      have V1 : Hid (w2.heap[w.heap.size]? = some (.cells #[.int .i64 0] 3 (0,0))) := g4.keep (U2.out.keep Hcb.out (by simp)) (by simp; exact ⟨by omega, fun h => by have := (hob _ h).2; omega⟩)
      have V2 : Hid (w2.heap[w1.heap.size]? = some (.cells arr 21 (0,0))) := g4.keep (heap_past hinv.out.1 _) (by simp; exact ⟨by omega, fun h => by have := (hob _ h).1; omega⟩)
      have V3 : Hid (w2.heap[wr.heap.size]? = some (.cells #[.bool bb] 4 (0,0))) := g4.keep (heap_last _ _ _ rfl) (by simp; exact ⟨by omega, fun h => by have := (hob _ h).1; omega⟩)
      have V4 : Hid (∀ (j : Nat) (o : Opt), os[j]? = some o → arr[j]? = some (.int .i32 o.1)) := fun j o ho => hinv.out.2.2.1 j o (by rw [hkm, Hm.out]; exact (List.getElem?_eq_some_iff.1 ho).1) ho
      have V5 : Hid (arr.size = m) := hinv.out.2.1
      have V6 : Hid (Upd [] w w2) := (U1.out.transTo (U2.out) (by simp)).transTo g4 (by
        intro i hi'
        right
        simp at hi'
        rcases hi' with rfl | hi'
        · omega
        · have := (hob _ hi').2; omega)
      have V7 : Hid (w2.heap[wr.heap.size + 1]? = some (.cells #[.pointer (some ⟨wr.heap.size, 0, none⟩)] 32 (0,0))) := g2
      have V8 : Hid (w2.heap[sb]? = some (.cells #[.string ⟨#[112, 114, 111, 103]⟩, .string ⟨#[111, 112, 115]⟩, ov', .nilIface] 28 (0,0))) := g1
      have e0 : ocs os ++ oc (L, ⟨#[]⟩, us, .func (.func 15) #[] #[.pointer (some ⟨(wr.alloc (.cells #[.bool bb] 4)).heap.size, 0, none⟩)]) = ocs (os ++ [(L, ⟨#[]⟩, us, .func (.func 15) #[] #[.pointer (some ⟨wr.heap.size + 1, 0, none⟩)])]) := by rw [ocs_snoc]; simp
      rw [e0, ← Hm.out] at g3
      obtain ⟨sg, cap, hsv, _, _⟩ := g3.form (by omega)
      subst hsv
      have V9 : Hid (w2.ownsRow (w.heap.size + 1) 38 4 (.slice (some ⟨sg, 0, none⟩) (m + 1) cap) (m + 1) (ocs (os ++ [(L, ⟨#[]⟩, us, .func (.func 15) #[] #[.pointer (some ⟨wr.heap.size + 1, 0, none⟩)])]))) := g3
      have hszw : wr.heap.size + 1 ≤ w2.heap.size := by omega
      generalize hvb : wr.heap.size = vb at *
      clear g1 g2 g3 g4 g5 hsz2 hinv U2 U1 e0 H1 H2 Hcb hob hvb
      have c2 : w2.cell? ⟨sb, 2, none⟩ = some (.slice (some ⟨sg, 0, none⟩) (m + 1) cap) := cell_at V8.out 2
      go_wp2_with fail
      clear c2
      go_loopw [16] (fun i wq => ∃ (j nd : Nat), j ≤ m ∧ i = .int .i64 j ∧ wq = w2.drewN nd) (fun i _ => m - (intOf i).toNat)
      case atStart => exact ⟨0, 0, by omega, rfl, rfl⟩
      case round =>
        obtain ⟨j, nd, hj, rfl, rfl⟩ := hrel
        have c2 : w2.cell? ⟨sb, 2, none⟩ = some (.slice (some ⟨sg, 0, none⟩) (m + 1) cap) := cell_at V8.out 2
        by_cases hlt' : j < m
        · have hos : os[j]? = some (os[j]'(by rw [← Hm.out]; exact hlt')) := List.getElem?_eq_getElem _
          generalize os[j]'(by rw [← Hm.out]; exact hlt') = o at hos
          have hos2 : (os ++ [(L, (⟨#[]⟩ : ByteArray), us, Value.func (.func 15) #[] #[.pointer (some ⟨vb + 1, 0, none⟩)])])[j]? = some o := by rw [List.getElem?_append_left (by rw [← Hm.out]; exact hlt')]; exact hos
          obtain ⟨_, po2, po3⟩ := H4.out j o hos
          have d0 : w2.cell? ⟨sg, j * 4, none⟩ = some (.int .i32 o.1) := opt_cell V9.out hos2 0 _ (by omega) rfl
          have d1 : w2.cell? ⟨sg, j * 4 + 1, none⟩ = some (.string ⟨#[]⟩) := by rw [← po2]; exact opt_cell V9.out hos2 1 _ (by omega) rfl
          have d2 : w2.cell? ⟨sg, j * 4 + 2, none⟩ = some (.string ⟨#[117]⟩) := by rw [← po3]; exact opt_cell V9.out hos2 2 _ (by omega) rfl
          have dl : w2.cell? ⟨w1.heap.size, j, none⟩ = some (.int .i32 o.1) := by rw [cell_at V2.out]; exact V4.out j o hos
          have b1 : (0 : Int) ≤ (j : Int) := by omega
          have b2 : (j : Int) < ((m + 1 : Nat) : Int) := by omega
          have b3 : (j : Int) < (m : Int) := by omega
          clear hos hos2 po2 po3
          generalize o.1 = l at *
          go_wp2_with fail
          go_quiet (fail)
          go_wp2
          go_roundw
          case rel => exact ⟨j + 1, _, by omega, by go_num, rfl⟩
          case measure => simp [intOf]; omega
        · have hjm : j = m := by omega
          subst hjm
          have V1 : Hid ((w2.drewN nd).heap[w.heap.size]? = some (.cells #[.int .i64 0] 3 (0,0))) := V1
          have V3 : Hid ((w2.drewN nd).heap[vb]? = some (.cells #[.bool bb] 4 (0,0))) := V3
          have V6 : Hid (Upd [] w (w2.drewN nd)) := V6.out.drewN nd
          have V7 : Hid ((w2.drewN nd).heap[vb + 1]? = some (.cells #[.pointer (some ⟨vb, 0, none⟩)] 32 (0,0))) := V7
          have V9 : Hid ((w2.drewN nd).ownsRow (w.heap.size + 1) 38 4 (.slice (some ⟨sg, 0, none⟩) (j + 1) cap) (j + 1) (ocs (os ++ [(L, ⟨#[]⟩, us, .func (.func 15) #[] #[.pointer (some ⟨vb + 1, 0, none⟩)])]))) := V9
          have V8 : Hid ((w2.drewN nd).heap[sb]? = some (.cells #[.string ⟨#[112, 114, 111, 103]⟩, .string ⟨#[111, 112, 115]⟩, .slice (some ⟨sg, 0, none⟩) (j + 1) cap, .nilIface] 28 (0,0))) := V8
          generalize w2.drewN nd = w3 at *
          have hos2 : (os ++ [(L, (⟨#[]⟩ : ByteArray), us, Value.func (.func 15) #[] #[.pointer (some ⟨vb + 1, 0, none⟩)])])[j]? = some (L, (⟨#[]⟩ : ByteArray), us, Value.func (.func 15) #[] #[.pointer (some ⟨vb + 1, 0, none⟩)]) := by rw [Hm.out]; simp
          have c2 : w3.cell? ⟨sb, 2, none⟩ = some (.slice (some ⟨sg, 0, none⟩) (j + 1) cap) := cell_at V8.out 2
          have d0 : w3.cell? ⟨sg, j * 4, none⟩ = some (.int .i32 L) := opt_cell V9.out hos2 0 _ (by omega) rfl
          have d1 : w3.cell? ⟨sg, j * 4 + 1, none⟩ = some (.string ⟨#[]⟩) := opt_cell V9.out hos2 1 _ (by omega) rfl
          have d2 : w3.cell? ⟨sg, j * 4 + 2, none⟩ = some (.string us) := opt_cell V9.out hos2 2 _ (by omega) rfl
          have d3 : w3.cell? ⟨sg, j * 4 + 3, none⟩ = some (.func (.func 15) #[] #[.pointer (some ⟨vb + 1, 0, none⟩)]) := opt_cell V9.out hos2 3 _ (by omega) rfl
          have dv : w3.cell? ⟨vb, 0, none⟩ = some (.bool bb) := cell_at V3.out 0
          have dc : w3.cell? ⟨w.heap.size, 0, none⟩ = some (.int .i64 0) := cell_at V1.out 0
          have fv := free_at V3.out 0
          have hvne : vb ≠ w.heap.size := ne_elem V3.out V1.out (by decide)
          have hvl := lt_of_heap V3.out
          have hcl := lt_of_heap V1.out
          have hsf := fun (a : Addr) (c : Array Value) (w : World) => run_store Ybaf.prog w a (.func (.func 15) #[] c) .plain rfl
          have hfn := fun (x y : Array Value) (w : World) => eq_fn_nil (.func 15) x y w
          clear hos2 V1 V2 V4 V5
          go_wp2_with fail
          refine (set_bool (vb + 1) vb bb us _ (heap_past V7.out _) (heap_past V3.out _)).mono ?_
          rintro e w4 ⟨rfl, rfl⟩
          go_wp2_with fail
          go_ret
          exact ⟨rfl, Upd.alloc (Upd.setCell V6.out (.inr (by show w.heap.size ≤ vb; omega)) _) _⟩

end Go.Proofs.YbulkcsneFmt
