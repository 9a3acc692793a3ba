/-
  WALKS, FIRST PART: the leaves: AppendUint64, the comparison of bytes, Send, ProposeView.
-/
import Derived.Test.YbulkcskmFmtProg
import Derived.Test.YbulkcskmFmtApp
import Derived.Deep.QuietTactic
import Derived.BigQuiet
import Derived.Deep.RegionLaw
import Derived.BigRegion
import Derived.Deep.DrawnRows
import Derived.Handy
import Derived.Deep.DeepMust
namespace Go.Proofs.YbulkcskmFmt
open Go.RowKit Go.Lib
attribute [local go_sem ↓] Go.wp_at_zero Go.wp_at_succ
theorem Ybaf.info5 : (Ybaf.prog.info? 5).map (fun i => (i.zero, i.size, i.bytes)) = some (some (.int .u8 0), 1, 1) := by kernel_rfl
theorem Ybaf.info37 : (Ybaf.prog.info? 37).map (fun i => (i.zero, i.size, i.bytes)) = some (some (.int .u64 0), 1, 8) := by kernel_rfl
theorem Ybaf.info71 : (Ybaf.prog.info? 71).map (fun i => (i.zero, i.size, i.bytes)) = some (some (.agg #[.int .i64 0, .int .u8 0, .int .u64 0, .int .u64 0, .slice none 0 0, .bool false, .slice none 0 0]), 7, 88) := by kernel_rfl

/-- The eight bytes of a uint64, the greatest first. -/
def be64 (V : Int) : List Int := [V / 72057594037927936, V / 281474976710656 % 256, V / 1099511627776 % 256, V / 4294967296 % 256, V / 16777216 % 256, V / 65536 % 256, V / 256 % 256, V % 256]

set_option maxRecDepth 100000 in
set_option maxHeartbeats 1000000 in
theorem au_any (B n : Nat) (V : Int) (w : World) (bv : Value) (xs : List Value) (hB : B ≤ w.heap.size) (hV : 0 ≤ V) (hV2 : V ≤ 18446744073709551615)
    (hown : w.ownsRow B 5 1 bv n xs) (hn : n ≤ 100000) :
    Calls Ybaf.prog 24 #[.agg #[], bv, .int .u64 V] w
      fun e w' => ∃ g cap, e = .returned (.slice (some ⟨g, 0, none⟩) (n + 8) cap) ∧ w'.ownsRow B 5 1 (.slice (some ⟨g, 0, none⟩) (n + 8) cap) (n + 8) (xs ++ (be64 V).map (Value.int .u8)) ∧
        Upd bv.ownBlock.toList w w' ∧ (bv.ownBlock = some g ∨ w.heap.size ≤ g) := by
  obtain ⟨i0, hi, hz0, hz1, hz2⟩ := info_parts Ybaf.info5
  go_enter Ybaf.func24, Ybaf.ntmps24
  go_wp2_with (at_builtin; go_must (refine wpList_append_lies _ rfl _ _ _ rfl B 5 i0 _ 1 1 Ybaf.underlying39 hi hz0 hz1 hz2 rfl (by omega) bv n xs rfl ((hown.alloc _).alloc _) ⟨w.heap.size + 1, 0, none⟩ 8 8 _ rfl (by rfl) (World.news_of_block (heap_last (w.alloc _) _ _ (by simp))) (by simp [Value.oneCell']) (by omega) (by unfold maxLen; omega) (by omega) (by simp; omega) (w.heap.size + 2) (by simp) ?_); intro gg cap w1 hown1 hgrow hat hlt1)
  go_ret
  refine ⟨gg, cap, rfl, hown1, ?_, ?_⟩
  · exact Upd.grown (Upd.alloc (Upd.alloc (Upd.refl _ _) _) _) hgrow (fun k hk => .inl (by simp [hk]))
  · rcases hat with h | h
    · exact .inl h
    · exact .inr (by omega)

set_option maxHeartbeats 400000 in
theorem beq_true (g1 o1 c1 g2 o2 c2 : Nat) (l : List Int) (w : World) (hl : l.length ≤ 1000000)
    (h1 : ∀ i, i < l.length → w.cell? ⟨g1, o1 + i, none⟩ = some (.int .u8 (l.getD i 0)))
    (h2 : ∀ i, i < l.length → w.cell? ⟨g2, o2 + i, none⟩ = some (.int .u8 (l.getD i 0))) :
    Calls Ybaf.prog 10 #[.slice (some ⟨g1, o1, none⟩) l.length c1, .slice (some ⟨g2, o2, none⟩) l.length c2] w
      fun e w' => e = .returned (.bool true) ∧ ∃ n, w' = w.drewN n := by
  go_enter Ybaf.func10, Ybaf.ntmps10
  go_wp2
  go_loopw [5] (fun i wr => ∃ k n : Nat, k ≤ l.length ∧ i = .int .i64 k ∧ wr = w.drewN n) (fun i _ => l.length - (intOf i).toNat)
  case atStart => exact ⟨0, 0, by omega, rfl, rfl⟩
  case round =>
    obtain ⟨k, n, hk, rfl, rfl⟩ := hrel
    by_cases hlt : k < l.length
    · have e1 := h1 k hlt
      have e2 := h2 k hlt
      clear h1 h2
      go_wp2_with fail
      go_quiet (fail)
      go_wp2
      go_roundw
      case rel => exact ⟨k + 1, _, by omega, by go_num, rfl⟩
      case measure => simp [intOf]; omega
    · go_wp2
      go_ret
      exact ⟨rfl, _, rfl⟩

/-- The seven cells of one send. -/
def sendCells (to V : Int) (sg : Value) : List Value := [.int .i64 to, .int .u8 1, .int .u64 V, .int .u64 0, .slice none 0 0, .bool false, sg]

set_option maxRecDepth 100000 in
set_option maxHeartbeats 1000000 in
theorem send_any (B hb n : Nat) (to V : Int) (w : World) (sends prop x y : Value) (xs : List Value) (sa : Option Addr) (sl sc : Nat) (hB : B ≤ w.heap.size)
    (hown : w.ownsRow B 71 7 sends n xs) (hn : n ≤ 100000)
    (hh : w.heap[hb]? = some (.cells #[sends, prop, x, y] 29 (0,0))) :
    Calls Ybaf.prog 48 #[.pointer (some ⟨hb, 0, none⟩), .int .i64 to, .agg #[.int .u8 1, .int .u64 V, .int .u64 0, .slice none 0 0, .bool false, .slice sa sl sc]] w
      fun e w' => e = .returned (.tuple #[]) ∧ ∃ sends', w'.heap[hb]? = some (.cells #[sends', prop, x, y] 29 (0,0)) ∧ 
        w'.ownsRow B 71 7 sends' (n + 1) (xs ++ sendCells to V (.slice sa sl sc)) ∧ Upd (hb :: sends.ownBlock.toList) w w' ∧ (∀ g, sends'.ownBlock = some g → sends.ownBlock = some g ∨ w.heap.size ≤ g) := by
  obtain ⟨i0, hi, hz0, hz1, hz2⟩ := info_parts Ybaf.info71
  have h0 : w.cell? ⟨hb, 0, none⟩ = some sends := by rw [cell_at hh]; rfl
  have hlt := lt_of_heap hh
  have hne := owns_ne hown hh (by decide)
  obtain ⟨sa', sl', sc', hse⟩ : ∃ a b c, sends = .slice a b c := by
    rcases hown.2 with ⟨h, _⟩ | ⟨_, _, _, h, _⟩ <;> exact ⟨_, _, _, h⟩
  subst hse
  have Hh : Hid (w.heap[hb]? = some (.cells #[.slice sa' sl' sc', prop, x, y] 29 (0,0))) := hh
  clear hh
  go_enter Ybaf.func48, Ybaf.ntmps48
  go_wp2_with fail
  go_region_law
    ((refine step_append_lies _ (by rfl) _ _ _ (by rfl) B 71 i0 _ 7 88 Ybaf.underlying26 hi hz0 hz1 hz2 rfl (by omega) (.slice sa' sl' sc') n xs (by rfl) (((hown.alloc _).alloc _).drew)
        ⟨w.heap.size + 1, 0, none⟩ 1 1 (sendCells to V (.slice sa sl sc)) (by rfl) (by rfl) (World.news_of_block (cs := (sendCells to V (.slice sa sl sc)).toArray) (t := 71) (fr := (0, 0)) (heap_last (w.alloc _) _ _ (by simp))) (by simp [sendCells, Value.oneCell'])
        (by omega) (by unfold maxLen; omega) (by omega) (by simp; omega) (w.heap.size + 2) (by simp) ?_; intro gg cap w1 hown1 hgrow hat hlt1; have hh1 : Hid (w1.heap[hb]? = some (.cells #[.slice sa' sl' sc', prop, x, y] 29 (0,0))) := (hgrow.block hb (by simp; omega) (Ne.symm hne)).trans (heap_past (heap_past Hh.out _) _); have hf1 := free_at hh1.out 0; have hc1 : w1.cell? ⟨hb, 0, none⟩ = some (.slice sa' sl' sc') := cell_at hh1.out 0))
  all_goals
    go_wp2
    go_end0
    refine ⟨rfl, .slice (some ⟨gg, 0, none⟩) (n + 1) cap, ?_, ?_, ?_, ?_⟩
    · exact (set_at hh1.out 0 _)
    · exact owns_set hown1 (owns_ne hown1 hh1.out (by decide)) _
    · refine Upd.setCell (Upd.grown (Upd.drew (Upd.alloc (Upd.alloc (Upd.refl _ _) _) _)) hgrow ?_) ?_ _
      · intro k hk; left; rw [hk]; simp
      · left; simp
    · intro g hg
      simp [Value.ownBlock] at hg
      subst hg
      rcases hat with h | h
      · exact .inl h
      · exact .inr (by omega)

set_option maxRecDepth 100000 in
set_option maxHeartbeats 1000000 in
theorem propose_any (B hb n : Nat) (V : Int) (w : World) (sends prop x y : Value) (xs : List Value) (hB : B ≤ w.heap.size)
    (hown : w.ownsRow B 37 1 prop n xs) (hn : n ≤ 100000)
    (hh : w.heap[hb]? = some (.cells #[sends, prop, x, y] 29 (0,0))) :
    Calls Ybaf.prog 47 #[.pointer (some ⟨hb, 0, none⟩), .int .u64 V] w
      fun e w' => e = .returned (.tuple #[]) ∧ ∃ prop', w'.heap[hb]? = some (.cells #[sends, prop', x, y] 29 (0,0)) ∧ 
        w'.ownsRow B 37 1 prop' (n + 1) (xs ++ [.int .u64 V]) ∧ Upd (hb :: prop.ownBlock.toList) w w' ∧ (∀ g, prop'.ownBlock = some g → prop.ownBlock = some g ∨ w.heap.size ≤ g) := by
  obtain ⟨i0, hi, hz0, hz1, hz2⟩ := info_parts Ybaf.info37
  have h0 : w.cell? ⟨hb, 1, none⟩ = some prop := by rw [cell_at hh]; rfl
  have hlt := lt_of_heap hh
  have hne := owns_ne hown hh (by decide)
  obtain ⟨sa', sl', sc', hse⟩ : ∃ a b c, prop = .slice a b c := by
    rcases hown.2 with ⟨h, _⟩ | ⟨_, _, _, h, _⟩ <;> exact ⟨_, _, _, h⟩
  subst hse
  have Hh : Hid (w.heap[hb]? = some (.cells #[sends, .slice sa' sl' sc', x, y] 29 (0,0))) := hh
  clear hh
  go_enter Ybaf.func47, Ybaf.ntmps47
  go_wp2_with (at_builtin; go_must (refine wpList_append_lies _ rfl _ _ _ rfl B 37 i0 _ 1 8 Ybaf.underlying27 hi hz0 hz1 hz2 rfl (by omega) (.slice sa' sl' sc') n xs rfl (hown.alloc _) ⟨w.heap.size, 0, none⟩ 1 1 [.int .u64 V] rfl (by rfl) (World.news_of_block (cs := #[.int .u64 V]) (heap_last w _ _ (by simp))) (by simp [Value.oneCell']) (by omega) (by unfold maxLen; omega) (by omega) (by simp; omega) (w.heap.size + 1) (by simp) ?_); intro gg cap w1 hown1 hgrow hat hlt1; have hh1 : Hid (w1.heap[hb]? = some (.cells #[sends, .slice sa' sl' sc', x, y] 29 (0,0))) := (hgrow.block hb (by simp; omega) (Ne.symm hne)).trans (heap_past Hh.out _); have hf1 := free_at hh1.out 1; have hc1 : w1.cell? ⟨hb, 1, none⟩ = some (.slice sa' sl' sc') := cell_at hh1.out 1)
  go_end0
  refine ⟨rfl, .slice (some ⟨gg, 0, none⟩) (n + 1) cap, ?_, ?_, ?_, ?_⟩
  · exact (set_at hh1.out 1 _)
  · exact owns_set hown1 (owns_ne hown1 hh1.out (by decide)) _
  · refine Upd.setCell (Upd.grown (Upd.alloc (Upd.refl _ _) _) hgrow ?_) ?_ _
    · intro k hk; left; rw [hk]; simp
    · left; simp
  · intro g hg
    simp [Value.ownBlock] at hg
    subst hg
    rcases hat with h | h
    · exact .inl h
    · exact .inr (by omega)

end Go.Proofs.YbulkcskmFmt
