/-
  VALUE, SECOND PART: math/big's make 42, BEUint64 63, bigEndianWord 56, norm 45.
-/
import Derived.Test.YbulkcspiProg
import Derived.Test.YbulkcspiVa
import Derived.Test.YbulkcspiSteps
import Derived.Test.YbulkcspiLex
import Derived.Deep.QuietTactic
import Derived.BigQuiet
import Derived.Deep.RegionLaw
import Derived.BigRegion
import Derived.Deep.DrawnRows
import Derived.Handy
import Derived.Deep.DeepMust
import Derived.Deep.OwnRows
import Derived.Deep.Slices
import Derived.Laws.LoneSync
namespace Go.Proofs.Ybulkcspi
open Go.RowKit Go.Lib
attribute [local go_sem ↓] Go.wp_at_zero Go.wp_at_succ
theorem Yba.info104 : (Yba.prog.info? 104).map (fun i => (i.zero, i.size, i.bytes)) = some (some (.int .u64 0), 1, 8) := by kernel_rfl

/-- Bytes that lie somewhere. -/
def Byts (w : World) (a : Option Addr) (n : Nat) (bs : List Int) : Prop := bs.length = n ∧ (a = none → n = 0) ∧ (∀ x, a = some x → ∀ i, i < n → w.cell? (x.add i) = some (.int .u8 (bs.getD i 0))) ∧ Octets bs
theorem Byts.keep {w w' : World} {a : Option Addr} {n : Nat} {bs : List Int} (h : Byts w a n bs) {S : List Nat} (hu : Upd S w w') (hS : ∀ x, a = some x → x.block ∉ S) : Byts w' a n bs :=
  ⟨h.1, h.2.1, fun x hx i hi => hu.cell (h.2.2.1 x hx i hi) (by
    have := hS x hx
    unfold Addr.add
    split <;> exact this), h.2.2.2⟩

theorem Byts.flat {w : World} {a : Option Addr} {n : Nat} {bs : List Int} (h : Byts w a n bs) (hn : 1 ≤ n) : ∃ g o, a = some ⟨g, o, none⟩ ∧ ∀ i, i < n → w.cell? ⟨g, o + i, none⟩ = some (.int .u8 (bs.getD i 0)) := by
  cases a with
  | none => have := h.2.1 rfl; omega
  | some x =>
    have h0 := h.2.2.1 x rfl 0 (by omega)
    obtain ⟨_, _, _, _, hs⟩ := World.shape?_of_cell? h0
    have hs' : x.spot = none := by simpa [Addr.add] using hs
    obtain ⟨g, o, sp⟩ := x
    simp only at hs'
    subst hs'
    refine ⟨g, o, rfl, fun i hi => ?_⟩
    have := h.2.2.1 _ rfl i hi
    rw [← this]
    congr 1
    unfold Addr.add
    split
    · simp_all
    · rfl

set_option maxRecDepth 100000 in
/-- make of a nil nat: new words. -/
theorem make_nil (n : Nat) (w : World) (h1 : 1 ≤ n) (h2 : n ≤ 1000) :
    Calls Yba.prog 42 #[.slice none 0 0, .int .i64 n] w fun e w' => ∃ c, e = .returned (.slice (some ⟨w.heap.size, 0, none⟩) n c) ∧ n ≤ c ∧ c ≤ 1010 ∧ (n = 1 ∨ n + 1 ≤ c) ∧ w' = w.alloc (.cells (madeCells #[.int .u64 0] c) 104) := by
  obtain ⟨i0, hi, hz0, hz1, hz2⟩ := info_parts Yba.info104
  have hmk : ∀ w : World, (Instr.makeSlice 37 (.int .i64 (n : Int)) (.int .i64 ((n : Int) + 4))).run Yba.prog w = .ok (.slice (some ⟨w.heap.size, 0, none⟩) n (n + 4)) (w.alloc (.cells (madeCells #[.int .u64 0] (n + 4)) 104)) := by
    intro w
    have h := run_make (P := Yba.prog) w 37 104 i0 (.int .u64 0) Yba.underlying37 hi hz0 .i64 .i64 n ((n : Int) + 4) (by omega) (by omega) (by rw [hz2]; omega) (by omega)
    rw [h, hz1, Nat.mul_one, Int.toNat_natCast, show ((n : Int) + 4).toNat = n + 4 by omega]
    rfl
  by_cases hn : n = 1
  · subst hn
    go_enter Yba.func42, Yba.ntmps42
    go_wp2_with (at_make; go_must (refine wpList_make_row _ rfl _ _ _ rfl 104 i0 _ Yba.underlying37 hi hz0 hz1 (by rfl) _ _ 1 rfl rfl (by rw [hz2]; omega) (by omega) ?_))
    go_ret
    exact ⟨1, rfl, by omega, by omega, (by first | omega | trivial), rfl⟩
  · have hb : ((n : Int) == 1) = false := by simp; omega
    go_enter Yba.func42, Yba.ntmps42
    go_wp2
    go_ret
    exact ⟨n + 4, rfl, by omega, by omega, by omega, rfl⟩

/-- make of nothing. -/
theorem make_none (w : World) : Calls Yba.prog 42 #[.slice none 0 0, .int .i64 0] w fun e w' => e = .returned (.slice none 0 0) ∧ w' = w := by
  go_enter Yba.func42, Yba.ntmps42
  go_wp2
  go_ret
  exact ⟨rfl, rfl⟩

set_option maxRecDepth 100000 in
set_option maxHeartbeats 2000000 in
theorem be64_any (g o c : Nat) (b0 b1 b2 b3 b4 b5 b6 b7 : Int) (w : World) (h0 : w.cell? ⟨g, o, none⟩ = some (.int .u8 b0)) (h1 : w.cell? ⟨g, o + 1, none⟩ = some (.int .u8 b1)) (h2 : w.cell? ⟨g, o + 2, none⟩ = some (.int .u8 b2)) (h3 : w.cell? ⟨g, o + 3, none⟩ = some (.int .u8 b3))
    (h4 : w.cell? ⟨g, o + 4, none⟩ = some (.int .u8 b4)) (h5 : w.cell? ⟨g, o + 5, none⟩ = some (.int .u8 b5)) (h6 : w.cell? ⟨g, o + 6, none⟩ = some (.int .u8 b6)) (h7 : w.cell? ⟨g, o + 7, none⟩ = some (.int .u8 b7))
    (r0 : 0 ≤ b0 ∧ b0 ≤ 255) (r1 : 0 ≤ b1 ∧ b1 ≤ 255) (r2 : 0 ≤ b2 ∧ b2 ≤ 255) (r3 : 0 ≤ b3 ∧ b3 ≤ 255) (r4 : 0 ≤ b4 ∧ b4 ≤ 255) (r5 : 0 ≤ b5 ∧ b5 ≤ 255) (r6 : 0 ≤ b6 ∧ b6 ≤ 255) (r7 : 0 ≤ b7 ∧ b7 ≤ 255) :
    Calls Yba.prog 63 #[.slice (some ⟨g, o, none⟩) 8 c] w fun e w' => e = .returned (.int .u64 (b7 + b6 * 256 + b5 * 65536 + b4 * 16777216 + b3 * 4294967296 + b2 * 1099511627776 + b1 * 281474976710656 + b0 * 72057594037927936)) ∧ Upd [] w w' := by
  go_enter Yba.func63, Yba.ntmps63
  go_wp2_with (go_quiet (fail))
  go_ret
  refine ⟨?_, (Upd.refl _ _).drewN _⟩
  simp (disch := omega) only [u64_or8, u64_or16, u64_or24, u64_or32, u64_or40, u64_or48, u64_or56]
  rfl

/-- Eight bytes as a word. -/
theorem bew_any (g o c : Nat) (b : Nat → Int) (w : World) (hc : ∀ i, i < 8 → w.cell? ⟨g, o + i, none⟩ = some (.int .u8 (b i))) (hb : ∀ i, 0 ≤ b i ∧ b i ≤ 255) :
    Calls Yba.prog 56 #[.slice (some ⟨g, o, none⟩) 8 c] w fun e w' => e = .returned (.int .u64 (wsum (fun i => b (7 - i)) 8)) ∧ Upd [] w w' := by
  have H := be64_any g o c (b 0) (b 1) (b 2) (b 3) (b 4) (b 5) (b 6) (b 7) w (hc 0 (by omega)) (hc 1 (by omega)) (hc 2 (by omega)) (hc 3 (by omega)) (hc 4 (by omega)) (hc 5 (by omega)) (hc 6 (by omega)) (hc 7 (by omega)) (hb 0) (hb 1) (hb 2) (hb 3) (hb 4) (hb 5) (hb 6) (hb 7)
  have e : b 7 + b 6 * 256 + b 5 * 65536 + b 4 * 16777216 + b 3 * 4294967296 + b 2 * 1099511627776 + b 1 * 281474976710656 + b 0 * 72057594037927936 = wsum (fun i => b (7 - i)) 8 := by
    simp only [wsum, Nat.zero_add, Nat.reduceAdd, Nat.reduceSub]
    omega
  rw [e] at H
  generalize wsum (fun i => b (7 - i)) 8 = v at H
  clear hc hb e
  go_enter Yba.func56, Yba.ntmps56
  go_wp2_with fail
  refine H.mono ?_
  rintro e w' ⟨rfl, hu⟩
  go_wp2
  go_ret
  exact ⟨rfl, hu⟩

set_option maxRecDepth 100000 in
theorem norm_any (g n c : Nat) (W : Nat → Int) (arr : Array Value) (w : World) (hg : w.heap[g]? = some (.cells arr 104 (0,0))) (hW : ∀ k, k < n → arr[k]? = some (.int .u64 (W k))) (hnc : n ≤ c) (hn : n ≤ 1000) :
    Calls Yba.prog 45 #[.slice (some ⟨g, 0, none⟩) n c] w fun e w' => ∃ m, e = .returned (.slice (some ⟨g, 0, none⟩) m c) ∧ w' = w ∧ m ≤ n ∧ (∀ k, m ≤ k → k < n → W k = 0) ∧ (m = 0 ∨ W (m - 1) ≠ 0) := by
  have Hg : Hid (w.heap[g]? = some (.cells arr 104 (0,0)) ∧ ∀ k, k < n → arr[k]? = some (.int .u64 (W k))) := ⟨hg, hW⟩
  clear hg hW
  go_enter Yba.func45, Yba.ntmps45
  go_wp2_with fail
  go_loop [3] (fun i => ∃ (m : Nat), m ≤ n ∧ i = .int .i64 m ∧ Hid (∀ k, m ≤ k → k < n → W k = 0)) (fun i => (intOf i).toNat)
  case atStart => exact ⟨n, by omega, rfl, fun k h1 h2 => by omega⟩
  case round =>
    obtain ⟨m, hm, rfl, hI⟩ := hrel
    cases m with
    | zero =>
      go_wp2
      go_ret
      exact ⟨0, rfl, rfl, by omega, hI.out, .inl rfl⟩
    | succ q =>
      have e0 : ((q + 1 : Nat) : Int) - 1 = (q : Int) := by omega
      have c1 : w.cell? ⟨g, q, none⟩ = some (.int .u64 (W q)) := (cell_at Hg.out.1 q).trans (Hg.out.2 q (by omega))
      have b1 : (0 : Int) ≤ (q : Int) := by omega
      have b2 : (q : Int) < (n : Int) := by omega
      by_cases hz : W q = 0
      · have hzb : (W q == 0) = true := by simpa using hz
        go_wp2
        go_round
        case rel =>
          refine ⟨q, by omega, by go_num, fun k h1 h2 => ?_⟩
          by_cases hkq : k = q
          · subst hkq; exact hz
          · exact hI.out k (by omega) h2
        case measure => simp [intOf]
      · have hzb : (W q == 0) = false := by simpa using hz
        go_wp2
        go_ret
        exact ⟨q + 1, rfl, rfl, by omega, hI.out, .inr (by simpa using hz)⟩

theorem norm_none (w : World) : Calls Yba.prog 45 #[.slice none 0 0] w fun e w' => e = .returned (.slice none 0 0) ∧ w' = w := by
  go_enter Yba.func45, Yba.ntmps45
  go_wp2_with fail
  go_loop [3] (fun i => i = .int .i64 0) (fun _ => 0)
  case atStart => rfl
  case round =>
    obtain rfl := hrel
    go_wp2
    go_ret
    exact ⟨rfl, rfl⟩

end Go.Proofs.Ybulkcspi
