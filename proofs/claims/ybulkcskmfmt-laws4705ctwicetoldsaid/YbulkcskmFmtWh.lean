/-
  WALKS, EIGHTH PART: the law's own helpers: zzs4705cpayloadok.
-/
import Derived.Test.YbulkcskmFmtWb
import Derived.Lib.SlBytesConst
namespace Go.Proofs.YbulkcskmFmt
open Go.RowKit Go.Lib
attribute [local go_sem ↓] Go.wp_at_zero Go.wp_at_succ

theorem pre_cells : strCells preStr = [.int .u8 116, .int .u8 97, .int .u8 108, .int .u8 108, .int .u8 121, .int .u8 99, .int .u8 104, .int .u8 101, .int .u8 99, .int .u8 107, .int .u8 32, .int .u8 115, .int .u8 121, .int .u8 110, .int .u8 99, .int .u8 104, .int .u8 114, .int .u8 111, .int .u8 110, .int .u8 105, .int .u8 122, .int .u8 101, .int .u8 114, .int .u8 32, .int .u8 49, .int .u8 0] := by rfl
/-- What a WISH(V) signs, as numbers. -/
def payInts (V : Int) : List Int := [116, 97, 108, 108, 121, 99, 104, 101, 99, 107, 32, 115, 121, 110, 99, 104, 114, 111, 110, 105, 122, 101, 114, 32, 49, 0] ++ [1] ++ be64 V
theorem payInts_len (V : Int) : (payInts V).length = 35 := rfl
theorem payCells_ints (V : Int) : payCells V = (payInts V).map (Value.int .u8) := by
  unfold payCells payInts
  rw [pre_cells]
  simp
theorem cell_of_ints {w : World} {b : Nat} {l : List Int} {cur : Array Value} {t : TypeId} {f : Nat × Nat} (h : w.heap[b]? = some (.cells cur t f)) (hc : cur.toList.take l.length = l.map (Value.int .u8)) :
    ∀ i, i < l.length → w.cell? ⟨b, 0 + i, none⟩ = some (.int .u8 (l.getD i 0)) := by
  intro i hi
  rw [Nat.zero_add, cell_at h]
  have h1 : (cur.toList.take l.length)[i]? = (l.map (Value.int .u8))[i]? := by rw [hc]
  rw [List.getElem?_take, if_pos hi, List.getElem?_map] at h1
  rw [← Array.getElem?_toList, h1]
  simp [List.getD, hi]

set_option maxRecDepth 100000 in
set_option maxHeartbeats 4000000 in
theorem pok_any (pb c : Nat) (V : Int) (w : World) (hV : 0 ≤ V) (hV2 : V ≤ 18446744073709551615)
    (hp : w.heap[pb]? = some (.cells (payCells V).toArray 5 (0,0))) :
    Calls Ybaf.prog 7 #[.slice (some ⟨pb, 0, none⟩) 35 c, .int .u64 V] w
      fun e w' => e = .returned (.bool true) ∧ Upd [] w w' := by
  obtain ⟨i0, hi, hz0, hz1, hz2⟩ := info_parts Ybaf.info5
  have Hp : Hid (w.heap[pb]? = some (.cells (payCells V).toArray 5 (0,0))) := hp
  clear hp
  have kc := fun (w : World) (C : Array Value) (n c : Nat) => Lib.run_convert_bytes_const (P := Ybaf.prog) w 39 5 C n c Ybaf.underlying39 Ybaf.underlying5
  have tok0 : True := trivial
  go_enter Ybaf.func7, Ybaf.ntmps7
  go_wp2_with (at_builtin; clear tok0; go_must (refine wpList_append_grows _ (by rfl) _ _ _ (by rfl) 5 i0 _ 1 1 Ybaf.underlying39 hi hz0 hz1 hz2 rfl (by omega) (some ⟨w.heap.size, 0, none⟩) 26 26 [.int .u8 116, .int .u8 97, .int .u8 108, .int .u8 108, .int .u8 121, .int .u8 99, .int .u8 104, .int .u8 101, .int .u8 99, .int .u8 107, .int .u8 32, .int .u8 115, .int .u8 121, .int .u8 110, .int .u8 99, .int .u8 104, .int .u8 114, .int .u8 111, .int .u8 110, .int .u8 105, .int .u8 122, .int .u8 101, .int .u8 114, .int .u8 32, .int .u8 49, .int .u8 0] (by rfl) (by simp) (by rfl) (fun b hb => by cases hb; exact World.news_of_block (cs := #[.int .u8 116, .int .u8 97, .int .u8 108, .int .u8 108, .int .u8 121, .int .u8 99, .int .u8 104, .int .u8 101, .int .u8 99, .int .u8 107, .int .u8 32, .int .u8 115, .int .u8 121, .int .u8 110, .int .u8 99, .int .u8 104, .int .u8 114, .int .u8 111, .int .u8 110, .int .u8 105, .int .u8 122, .int .u8 101, .int .u8 114, .int .u8 32, .int .u8 49, .int .u8 0]) (heap_past (heap_last w _ _ rfl) _)) ⟨w.heap.size + 1, 0, none⟩ 1 1 [.int .u8 1] (by rfl) (by rfl) (World.news_of_block (cs := #[.int .u8 1]) (heap_last (w.alloc _) _ _ (by simp))) (by simp [Value.oneCell']) (by omega) (by unfold maxLen; omega) (by omega) ?_); intro v0 w0 hown0 hgrow0; have hB0 : w.heap.size ≤ w0.heap.size := by (have := hgrow0.size; simp at this; omega))
  obtain ⟨g0, c0, rfl, hgB0, hgl0⟩ := hown0.form (by omega)
  have hO0 : Hid (w0.ownsRow w.heap.size 5 1 (.slice (some ⟨g0, 0, none⟩) 27 c0) 27 ([.int .u8 116, .int .u8 97, .int .u8 108, .int .u8 108, .int .u8 121, .int .u8 99, .int .u8 104, .int .u8 101, .int .u8 99, .int .u8 107, .int .u8 32, .int .u8 115, .int .u8 121, .int .u8 110, .int .u8 99, .int .u8 104, .int .u8 114, .int .u8 111, .int .u8 110, .int .u8 105, .int .u8 122, .int .u8 101, .int .u8 114, .int .u8 32, .int .u8 49, .int .u8 0] ++ [.int .u8 1])) := ⟨hown0.1, by
    rcases hown0.2 with ⟨h, _⟩ | ⟨g, cap, cur, hv, hb, rest⟩
    · simp at h
    · exact .inr ⟨g, cap, cur, hv, by simp at hb; omega, rest⟩⟩
  have hU0 : Hid (Upd [] w w0) := Upd.grown (Upd.alloc (Upd.alloc (Upd.refl [] w) _) _) hgrow0 (by simp)
  clear hown0 hgrow0 hgB0 hgl0 kc
  have e56 : IntKind.u64.wrap 56 = 56 := by decide
  refine wp_loop_rounds 9 ?_
  have tok1 : True := trivial
  rw [rounds_succ]
  go_wp2_with (at_builtin; clear tok1; go_must (refine wpList_append_lies _ (by rfl) _ _ _ (by rfl) w.heap.size 5 i0 _ 1 1 Ybaf.underlying39 hi hz0 hz1 hz2 rfl (by omega) (.slice (some ⟨g0, 0, none⟩) 27 c0) 27 ([.int .u8 116, .int .u8 97, .int .u8 108, .int .u8 108, .int .u8 121, .int .u8 99, .int .u8 104, .int .u8 101, .int .u8 99, .int .u8 107, .int .u8 32, .int .u8 115, .int .u8 121, .int .u8 110, .int .u8 99, .int .u8 104, .int .u8 114, .int .u8 111, .int .u8 110, .int .u8 105, .int .u8 122, .int .u8 101, .int .u8 114, .int .u8 32, .int .u8 49, .int .u8 0] ++ [.int .u8 1]) (by rfl) (hO0.out.alloc _) ⟨w0.heap.size, 0, none⟩ 1 1 [.int .u8 (V / 72057594037927936)] (by rfl) (by rfl) (World.news_of_block (cs := #[.int .u8 (V / 72057594037927936)]) (heap_last w0 _ _ (by simp))) (by simp [Value.oneCell']) (by omega) (by unfold maxLen; omega) (by omega) (by have := hU0.out.size; simp; omega) (w0.heap.size + 1) (by simp) ?_); intro g1 c1 w1 hown1 hgrow1 hat1 hlt1)
  have hO1 : Hid (w1.ownsRow w.heap.size 5 1 (.slice (some ⟨g1, 0, none⟩) 28 c1) 28 ([.int .u8 116, .int .u8 97, .int .u8 108, .int .u8 108, .int .u8 121, .int .u8 99, .int .u8 104, .int .u8 101, .int .u8 99, .int .u8 107, .int .u8 32, .int .u8 115, .int .u8 121, .int .u8 110, .int .u8 99, .int .u8 104, .int .u8 114, .int .u8 111, .int .u8 110, .int .u8 105, .int .u8 122, .int .u8 101, .int .u8 114, .int .u8 32, .int .u8 49, .int .u8 0] ++ [.int .u8 1] ++ [.int .u8 (V / 72057594037927936)])) := hown1
  have hU1 : Hid (Upd [] w w1) := Upd.grown (Upd.alloc hU0.out _) hgrow1 (fun q hq => .inr (hO0.out.lt q hq).1)
  clear hown1 hgrow1 hat1 hlt1 hO0 hU0
  have tok2 : True := trivial
  rw [rounds_succ]
  go_wp2_with (at_builtin; clear tok2; go_must (refine wpList_append_lies _ (by rfl) _ _ _ (by rfl) w.heap.size 5 i0 _ 1 1 Ybaf.underlying39 hi hz0 hz1 hz2 rfl (by omega) (.slice (some ⟨g1, 0, none⟩) 28 c1) 28 ([.int .u8 116, .int .u8 97, .int .u8 108, .int .u8 108, .int .u8 121, .int .u8 99, .int .u8 104, .int .u8 101, .int .u8 99, .int .u8 107, .int .u8 32, .int .u8 115, .int .u8 121, .int .u8 110, .int .u8 99, .int .u8 104, .int .u8 114, .int .u8 111, .int .u8 110, .int .u8 105, .int .u8 122, .int .u8 101, .int .u8 114, .int .u8 32, .int .u8 49, .int .u8 0] ++ [.int .u8 1] ++ [.int .u8 (V / 72057594037927936)]) (by rfl) (hO1.out.alloc _) ⟨w1.heap.size, 0, none⟩ 1 1 [.int .u8 (V / 281474976710656 % 256)] (by rfl) (by rfl) (World.news_of_block (cs := #[.int .u8 (V / 281474976710656 % 256)]) (heap_last w1 _ _ (by simp))) (by simp [Value.oneCell']) (by omega) (by unfold maxLen; omega) (by omega) (by have := hU1.out.size; simp; omega) (w1.heap.size + 1) (by simp) ?_); intro g2 c2 w2 hown2 hgrow2 hat2 hlt2)
  have hO2 : Hid (w2.ownsRow w.heap.size 5 1 (.slice (some ⟨g2, 0, none⟩) 29 c2) 29 ([.int .u8 116, .int .u8 97, .int .u8 108, .int .u8 108, .int .u8 121, .int .u8 99, .int .u8 104, .int .u8 101, .int .u8 99, .int .u8 107, .int .u8 32, .int .u8 115, .int .u8 121, .int .u8 110, .int .u8 99, .int .u8 104, .int .u8 114, .int .u8 111, .int .u8 110, .int .u8 105, .int .u8 122, .int .u8 101, .int .u8 114, .int .u8 32, .int .u8 49, .int .u8 0] ++ [.int .u8 1] ++ [.int .u8 (V / 72057594037927936)] ++ [.int .u8 (V / 281474976710656 % 256)])) := hown2
  have hU2 : Hid (Upd [] w w2) := Upd.grown (Upd.alloc hU1.out _) hgrow2 (fun q hq => .inr (hO1.out.lt q hq).1)
  clear hown2 hgrow2 hat2 hlt2 hO1 hU1
  have tok3 : True := trivial
  rw [rounds_succ]
  go_wp2_with (at_builtin; clear tok3; go_must (refine wpList_append_lies _ (by rfl) _ _ _ (by rfl) w.heap.size 5 i0 _ 1 1 Ybaf.underlying39 hi hz0 hz1 hz2 rfl (by omega) (.slice (some ⟨g2, 0, none⟩) 29 c2) 29 ([.int .u8 116, .int .u8 97, .int .u8 108, .int .u8 108, .int .u8 121, .int .u8 99, .int .u8 104, .int .u8 101, .int .u8 99, .int .u8 107, .int .u8 32, .int .u8 115, .int .u8 121, .int .u8 110, .int .u8 99, .int .u8 104, .int .u8 114, .int .u8 111, .int .u8 110, .int .u8 105, .int .u8 122, .int .u8 101, .int .u8 114, .int .u8 32, .int .u8 49, .int .u8 0] ++ [.int .u8 1] ++ [.int .u8 (V / 72057594037927936)] ++ [.int .u8 (V / 281474976710656 % 256)]) (by rfl) (hO2.out.alloc _) ⟨w2.heap.size, 0, none⟩ 1 1 [.int .u8 (V / 1099511627776 % 256)] (by rfl) (by rfl) (World.news_of_block (cs := #[.int .u8 (V / 1099511627776 % 256)]) (heap_last w2 _ _ (by simp))) (by simp [Value.oneCell']) (by omega) (by unfold maxLen; omega) (by omega) (by have := hU2.out.size; simp; omega) (w2.heap.size + 1) (by simp) ?_); intro g3 c3 w3 hown3 hgrow3 hat3 hlt3)
  have hO3 : Hid (w3.ownsRow w.heap.size 5 1 (.slice (some ⟨g3, 0, none⟩) 30 c3) 30 ([.int .u8 116, .int .u8 97, .int .u8 108, .int .u8 108, .int .u8 121, .int .u8 99, .int .u8 104, .int .u8 101, .int .u8 99, .int .u8 107, .int .u8 32, .int .u8 115, .int .u8 121, .int .u8 110, .int .u8 99, .int .u8 104, .int .u8 114, .int .u8 111, .int .u8 110, .int .u8 105, .int .u8 122, .int .u8 101, .int .u8 114, .int .u8 32, .int .u8 49, .int .u8 0] ++ [.int .u8 1] ++ [.int .u8 (V / 72057594037927936)] ++ [.int .u8 (V / 281474976710656 % 256)] ++ [.int .u8 (V / 1099511627776 % 256)])) := hown3
  have hU3 : Hid (Upd [] w w3) := Upd.grown (Upd.alloc hU2.out _) hgrow3 (fun q hq => .inr (hO2.out.lt q hq).1)
  clear hown3 hgrow3 hat3 hlt3 hO2 hU2
  have tok4 : True := trivial
  rw [rounds_succ]
  go_wp2_with (at_builtin; clear tok4; go_must (refine wpList_append_lies _ (by rfl) _ _ _ (by rfl) w.heap.size 5 i0 _ 1 1 Ybaf.underlying39 hi hz0 hz1 hz2 rfl (by omega) (.slice (some ⟨g3, 0, none⟩) 30 c3) 30 ([.int .u8 116, .int .u8 97, .int .u8 108, .int .u8 108, .int .u8 121, .int .u8 99, .int .u8 104, .int .u8 101, .int .u8 99, .int .u8 107, .int .u8 32, .int .u8 115, .int .u8 121, .int .u8 110, .int .u8 99, .int .u8 104, .int .u8 114, .int .u8 111, .int .u8 110, .int .u8 105, .int .u8 122, .int .u8 101, .int .u8 114, .int .u8 32, .int .u8 49, .int .u8 0] ++ [.int .u8 1] ++ [.int .u8 (V / 72057594037927936)] ++ [.int .u8 (V / 281474976710656 % 256)] ++ [.int .u8 (V / 1099511627776 % 256)]) (by rfl) (hO3.out.alloc _) ⟨w3.heap.size, 0, none⟩ 1 1 [.int .u8 (V / 4294967296 % 256)] (by rfl) (by rfl) (World.news_of_block (cs := #[.int .u8 (V / 4294967296 % 256)]) (heap_last w3 _ _ (by simp))) (by simp [Value.oneCell']) (by omega) (by unfold maxLen; omega) (by omega) (by have := hU3.out.size; simp; omega) (w3.heap.size + 1) (by simp) ?_); intro g4 c4 w4 hown4 hgrow4 hat4 hlt4)
  have hO4 : Hid (w4.ownsRow w.heap.size 5 1 (.slice (some ⟨g4, 0, none⟩) 31 c4) 31 ([.int .u8 116, .int .u8 97, .int .u8 108, .int .u8 108, .int .u8 121, .int .u8 99, .int .u8 104, .int .u8 101, .int .u8 99, .int .u8 107, .int .u8 32, .int .u8 115, .int .u8 121, .int .u8 110, .int .u8 99, .int .u8 104, .int .u8 114, .int .u8 111, .int .u8 110, .int .u8 105, .int .u8 122, .int .u8 101, .int .u8 114, .int .u8 32, .int .u8 49, .int .u8 0] ++ [.int .u8 1] ++ [.int .u8 (V / 72057594037927936)] ++ [.int .u8 (V / 281474976710656 % 256)] ++ [.int .u8 (V / 1099511627776 % 256)] ++ [.int .u8 (V / 4294967296 % 256)])) := hown4
  have hU4 : Hid (Upd [] w w4) := Upd.grown (Upd.alloc hU3.out _) hgrow4 (fun q hq => .inr (hO3.out.lt q hq).1)
  clear hown4 hgrow4 hat4 hlt4 hO3 hU3
  have tok5 : True := trivial
  rw [rounds_succ]
  go_wp2_with (at_builtin; clear tok5; go_must (refine wpList_append_lies _ (by rfl) _ _ _ (by rfl) w.heap.size 5 i0 _ 1 1 Ybaf.underlying39 hi hz0 hz1 hz2 rfl (by omega) (.slice (some ⟨g4, 0, none⟩) 31 c4) 31 ([.int .u8 116, .int .u8 97, .int .u8 108, .int .u8 108, .int .u8 121, .int .u8 99, .int .u8 104, .int .u8 101, .int .u8 99, .int .u8 107, .int .u8 32, .int .u8 115, .int .u8 121, .int .u8 110, .int .u8 99, .int .u8 104, .int .u8 114, .int .u8 111, .int .u8 110, .int .u8 105, .int .u8 122, .int .u8 101, .int .u8 114, .int .u8 32, .int .u8 49, .int .u8 0] ++ [.int .u8 1] ++ [.int .u8 (V / 72057594037927936)] ++ [.int .u8 (V / 281474976710656 % 256)] ++ [.int .u8 (V / 1099511627776 % 256)] ++ [.int .u8 (V / 4294967296 % 256)]) (by rfl) (hO4.out.alloc _) ⟨w4.heap.size, 0, none⟩ 1 1 [.int .u8 (V / 16777216 % 256)] (by rfl) (by rfl) (World.news_of_block (cs := #[.int .u8 (V / 16777216 % 256)]) (heap_last w4 _ _ (by simp))) (by simp [Value.oneCell']) (by omega) (by unfold maxLen; omega) (by omega) (by have := hU4.out.size; simp; omega) (w4.heap.size + 1) (by simp) ?_); intro g5 c5 w5 hown5 hgrow5 hat5 hlt5)
  have hO5 : Hid (w5.ownsRow w.heap.size 5 1 (.slice (some ⟨g5, 0, none⟩) 32 c5) 32 ([.int .u8 116, .int .u8 97, .int .u8 108, .int .u8 108, .int .u8 121, .int .u8 99, .int .u8 104, .int .u8 101, .int .u8 99, .int .u8 107, .int .u8 32, .int .u8 115, .int .u8 121, .int .u8 110, .int .u8 99, .int .u8 104, .int .u8 114, .int .u8 111, .int .u8 110, .int .u8 105, .int .u8 122, .int .u8 101, .int .u8 114, .int .u8 32, .int .u8 49, .int .u8 0] ++ [.int .u8 1] ++ [.int .u8 (V / 72057594037927936)] ++ [.int .u8 (V / 281474976710656 % 256)] ++ [.int .u8 (V / 1099511627776 % 256)] ++ [.int .u8 (V / 4294967296 % 256)] ++ [.int .u8 (V / 16777216 % 256)])) := hown5
  have hU5 : Hid (Upd [] w w5) := Upd.grown (Upd.alloc hU4.out _) hgrow5 (fun q hq => .inr (hO4.out.lt q hq).1)
  clear hown5 hgrow5 hat5 hlt5 hO4 hU4
  have tok6 : True := trivial
  rw [rounds_succ]
  go_wp2_with (at_builtin; clear tok6; go_must (refine wpList_append_lies _ (by rfl) _ _ _ (by rfl) w.heap.size 5 i0 _ 1 1 Ybaf.underlying39 hi hz0 hz1 hz2 rfl (by omega) (.slice (some ⟨g5, 0, none⟩) 32 c5) 32 ([.int .u8 116, .int .u8 97, .int .u8 108, .int .u8 108, .int .u8 121, .int .u8 99, .int .u8 104, .int .u8 101, .int .u8 99, .int .u8 107, .int .u8 32, .int .u8 115, .int .u8 121, .int .u8 110, .int .u8 99, .int .u8 104, .int .u8 114, .int .u8 111, .int .u8 110, .int .u8 105, .int .u8 122, .int .u8 101, .int .u8 114, .int .u8 32, .int .u8 49, .int .u8 0] ++ [.int .u8 1] ++ [.int .u8 (V / 72057594037927936)] ++ [.int .u8 (V / 281474976710656 % 256)] ++ [.int .u8 (V / 1099511627776 % 256)] ++ [.int .u8 (V / 4294967296 % 256)] ++ [.int .u8 (V / 16777216 % 256)]) (by rfl) (hO5.out.alloc _) ⟨w5.heap.size, 0, none⟩ 1 1 [.int .u8 (V / 65536 % 256)] (by rfl) (by rfl) (World.news_of_block (cs := #[.int .u8 (V / 65536 % 256)]) (heap_last w5 _ _ (by simp))) (by simp [Value.oneCell']) (by omega) (by unfold maxLen; omega) (by omega) (by have := hU5.out.size; simp; omega) (w5.heap.size + 1) (by simp) ?_); intro g6 c6 w6 hown6 hgrow6 hat6 hlt6)
  have hO6 : Hid (w6.ownsRow w.heap.size 5 1 (.slice (some ⟨g6, 0, none⟩) 33 c6) 33 ([.int .u8 116, .int .u8 97, .int .u8 108, .int .u8 108, .int .u8 121, .int .u8 99, .int .u8 104, .int .u8 101, .int .u8 99, .int .u8 107, .int .u8 32, .int .u8 115, .int .u8 121, .int .u8 110, .int .u8 99, .int .u8 104, .int .u8 114, .int .u8 111, .int .u8 110, .int .u8 105, .int .u8 122, .int .u8 101, .int .u8 114, .int .u8 32, .int .u8 49, .int .u8 0] ++ [.int .u8 1] ++ [.int .u8 (V / 72057594037927936)] ++ [.int .u8 (V / 281474976710656 % 256)] ++ [.int .u8 (V / 1099511627776 % 256)] ++ [.int .u8 (V / 4294967296 % 256)] ++ [.int .u8 (V / 16777216 % 256)] ++ [.int .u8 (V / 65536 % 256)])) := hown6
  have hU6 : Hid (Upd [] w w6) := Upd.grown (Upd.alloc hU5.out _) hgrow6 (fun q hq => .inr (hO5.out.lt q hq).1)
  clear hown6 hgrow6 hat6 hlt6 hO5 hU5
  have tok7 : True := trivial
  rw [rounds_succ]
  go_wp2_with (at_builtin; clear tok7; go_must (refine wpList_append_lies _ (by rfl) _ _ _ (by rfl) w.heap.size 5 i0 _ 1 1 Ybaf.underlying39 hi hz0 hz1 hz2 rfl (by omega) (.slice (some ⟨g6, 0, none⟩) 33 c6) 33 ([.int .u8 116, .int .u8 97, .int .u8 108, .int .u8 108, .int .u8 121, .int .u8 99, .int .u8 104, .int .u8 101, .int .u8 99, .int .u8 107, .int .u8 32, .int .u8 115, .int .u8 121, .int .u8 110, .int .u8 99, .int .u8 104, .int .u8 114, .int .u8 111, .int .u8 110, .int .u8 105, .int .u8 122, .int .u8 101, .int .u8 114, .int .u8 32, .int .u8 49, .int .u8 0] ++ [.int .u8 1] ++ [.int .u8 (V / 72057594037927936)] ++ [.int .u8 (V / 281474976710656 % 256)] ++ [.int .u8 (V / 1099511627776 % 256)] ++ [.int .u8 (V / 4294967296 % 256)] ++ [.int .u8 (V / 16777216 % 256)] ++ [.int .u8 (V / 65536 % 256)]) (by rfl) (hO6.out.alloc _) ⟨w6.heap.size, 0, none⟩ 1 1 [.int .u8 (V / 256 % 256)] (by rfl) (by rfl) (World.news_of_block (cs := #[.int .u8 (V / 256 % 256)]) (heap_last w6 _ _ (by simp))) (by simp [Value.oneCell']) (by omega) (by unfold maxLen; omega) (by omega) (by have := hU6.out.size; simp; omega) (w6.heap.size + 1) (by simp) ?_); intro g7 c7 w7 hown7 hgrow7 hat7 hlt7)
  have hO7 : Hid (w7.ownsRow w.heap.size 5 1 (.slice (some ⟨g7, 0, none⟩) 34 c7) 34 ([.int .u8 116, .int .u8 97, .int .u8 108, .int .u8 108, .int .u8 121, .int .u8 99, .int .u8 104, .int .u8 101, .int .u8 99, .int .u8 107, .int .u8 32, .int .u8 115, .int .u8 121, .int .u8 110, .int .u8 99, .int .u8 104, .int .u8 114, .int .u8 111, .int .u8 110, .int .u8 105, .int .u8 122, .int .u8 101, .int .u8 114, .int .u8 32, .int .u8 49, .int .u8 0] ++ [.int .u8 1] ++ [.int .u8 (V / 72057594037927936)] ++ [.int .u8 (V / 281474976710656 % 256)] ++ [.int .u8 (V / 1099511627776 % 256)] ++ [.int .u8 (V / 4294967296 % 256)] ++ [.int .u8 (V / 16777216 % 256)] ++ [.int .u8 (V / 65536 % 256)] ++ [.int .u8 (V / 256 % 256)])) := hown7
  have hU7 : Hid (Upd [] w w7) := Upd.grown (Upd.alloc hU6.out _) hgrow7 (fun q hq => .inr (hO6.out.lt q hq).1)
  clear hown7 hgrow7 hat7 hlt7 hO6 hU6
  have tok8 : True := trivial
  rw [rounds_succ]
  go_wp2_with (at_builtin; clear tok8; go_must (refine wpList_append_lies _ (by rfl) _ _ _ (by rfl) w.heap.size 5 i0 _ 1 1 Ybaf.underlying39 hi hz0 hz1 hz2 rfl (by omega) (.slice (some ⟨g7, 0, none⟩) 34 c7) 34 ([.int .u8 116, .int .u8 97, .int .u8 108, .int .u8 108, .int .u8 121, .int .u8 99, .int .u8 104, .int .u8 101, .int .u8 99, .int .u8 107, .int .u8 32, .int .u8 115, .int .u8 121, .int .u8 110, .int .u8 99, .int .u8 104, .int .u8 114, .int .u8 111, .int .u8 110, .int .u8 105, .int .u8 122, .int .u8 101, .int .u8 114, .int .u8 32, .int .u8 49, .int .u8 0] ++ [.int .u8 1] ++ [.int .u8 (V / 72057594037927936)] ++ [.int .u8 (V / 281474976710656 % 256)] ++ [.int .u8 (V / 1099511627776 % 256)] ++ [.int .u8 (V / 4294967296 % 256)] ++ [.int .u8 (V / 16777216 % 256)] ++ [.int .u8 (V / 65536 % 256)] ++ [.int .u8 (V / 256 % 256)]) (by rfl) (hO7.out.alloc _) ⟨w7.heap.size, 0, none⟩ 1 1 [.int .u8 (V % 256)] (by rfl) (by rfl) (World.news_of_block (cs := #[.int .u8 (V % 256)]) (heap_last w7 _ _ (by simp))) (by simp [Value.oneCell']) (by omega) (by unfold maxLen; omega) (by omega) (by have := hU7.out.size; simp; omega) (w7.heap.size + 1) (by simp) ?_); intro g8 c8 w8 hown8 hgrow8 hat8 hlt8)
  have hO8 : Hid (w8.ownsRow w.heap.size 5 1 (.slice (some ⟨g8, 0, none⟩) 35 c8) 35 ([.int .u8 116, .int .u8 97, .int .u8 108, .int .u8 108, .int .u8 121, .int .u8 99, .int .u8 104, .int .u8 101, .int .u8 99, .int .u8 107, .int .u8 32, .int .u8 115, .int .u8 121, .int .u8 110, .int .u8 99, .int .u8 104, .int .u8 114, .int .u8 111, .int .u8 110, .int .u8 105, .int .u8 122, .int .u8 101, .int .u8 114, .int .u8 32, .int .u8 49, .int .u8 0] ++ [.int .u8 1] ++ [.int .u8 (V / 72057594037927936)] ++ [.int .u8 (V / 281474976710656 % 256)] ++ [.int .u8 (V / 1099511627776 % 256)] ++ [.int .u8 (V / 4294967296 % 256)] ++ [.int .u8 (V / 16777216 % 256)] ++ [.int .u8 (V / 65536 % 256)] ++ [.int .u8 (V / 256 % 256)] ++ [.int .u8 (V % 256)])) := hown8
  have hU8 : Hid (Upd [] w w8) := Upd.grown (Upd.alloc hU7.out _) hgrow8 (fun q hq => .inr (hO7.out.lt q hq).1)
  clear hown8 hgrow8 hat8 hlt8 hO7 hU7
  rw [rounds_succ]
  obtain ⟨cur, hcur, hcs, hcc, _, hct, hcB⟩ := owns_open hO8.out
  have hq : w8.heap[pb]? = some (.cells (payCells V).toArray 5 (0,0)) := hU8.out.keep Hp.out (by simp)
  have q1 := cell_of_ints (l := payInts V) hq (by rw [payCells_ints, payInts_len]; simp [List.take_of_length_le, payInts_len])
  have q2 := cell_of_ints (l := payInts V) hcur (by rw [payInts_len]; simpa [payInts, be64] using hct)
  have Q1 : Hid (∀ i, i < (payInts V).length → w8.cell? ⟨pb, 0 + i, none⟩ = some (.int .u8 ((payInts V).getD i 0))) := q1
  have Q2 : Hid (∀ i, i < (payInts V).length → w8.cell? ⟨g8, 0 + i, none⟩ = some (.int .u8 ((payInts V).getD i 0))) := q2
  clear q1 q2 hq hcur hct
  go_wp2_with fail
  refine (beq_true pb 0 c g8 0 c8 (payInts V) w8 (by rw [payInts_len]; omega) Q1.out Q2.out).mono ?_
  rintro e w9 ⟨rfl, nn, rfl⟩
  go_wp2
  go_ret
  exact ⟨rfl, hU8.out.drewN _⟩
end Go.Proofs.YbulkcskmFmt
