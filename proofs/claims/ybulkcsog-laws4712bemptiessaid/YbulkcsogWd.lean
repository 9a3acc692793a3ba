/-
  WALKS, FOURTH PART: removeLinks.
-/
import Derived.Test.YbulkcsogWc
namespace Go.Proofs.Ybulkcsog
open Go.RowKit Go.Lib
attribute [local go_sem ↓] Go.wp_at_zero Go.wp_at_succ

def strVals (ss : List ByteArray) : List Value := ss.map Value.string

/-- The peer: its sub-regions, the chosen one with k links left, what was unlinked. -/
def Links (B pb csb ns cc i n k c nu : Nat) (ra : Option Addr) (ss : List ByteArray) (xs : List Value) (w : World) (ul : Value) (parr carr : Array Value) : Prop :=
  w.heap[pb]? = some (.cells parr 88 (0,0)) ∧ parr.size = 113 ∧ parr[64]? = some (.slice (some ⟨csb, 0, none⟩) ns cc) ∧ parr[68]? = some ul ∧ w.heap[csb]? = some (.cells carr 67 (0,0)) ∧ ns ≤ carr.size ∧ carr[i]? = some (.slice ra k c) ∧
  (∀ x, ra = some x → ∃ rb arr, x = ⟨rb, 0, none⟩ ∧ w.heap[rb]? = some (.cells arr 49 (0,0)) ∧ n * 4 ≤ arr.size ∧ ∀ (m : Nat) (s : ByteArray), m < k → ss[m]? = some s → arr[m * 4]? = some (.string s)) ∧
  w.ownsRow B 9 1 ul (nu + (n - k)) (xs ++ strVals (ss.drop k).reverse)

/-- The blocks that removeLinks may turn. -/
def turned (pb csb : Nat) (ra : Option Addr) (ul : Value) : List Nat := pb :: csb :: ((ra.map Addr.block).toList ++ ul.ownBlock.toList)

set_option maxRecDepth 100000 in
set_option maxHeartbeats 1000000 in
theorem removeLinks_any (B pb csb ns cc i n c nu : Nat) (ra : Option Addr) (ss : List ByteArray) (xs : List Value) (w : World) (ul : Value) (parr carr : Array Value) (hB : B ≤ w.heap.size)
    (hL : Links B pb csb ns cc i n n c nu ra ss xs w ul parr carr) (hss : ss.length = n) (hra : ra = none → n = 0) (hin : i < ns) (hn : n ≤ 4096) (hnc : n ≤ c) (hnu : nu ≤ 1024) :
    Calls Yba.prog 18 #[.pointer (some ⟨pb, 0, none⟩), .int .i64 i] w
      fun e w' => e = .returned (.tuple #[]) ∧ ∃ ul' parr' carr', Links B pb csb ns cc i n 0 c nu ra ss xs w' ul' parr' carr' ∧ Upd (turned pb csb ra ul) w w' := by
  have HL : Hid (Links B pb csb ns cc i n n c nu ra ss xs w ul parr carr) := hL
  have d1 : w.cell? ⟨pb, 64, none⟩ = some (.slice (some ⟨csb, 0, none⟩) ns cc) := (cell_at hL.1 64).trans hL.2.2.1
  have d3 : w.cell? ⟨csb, i, none⟩ = some (.slice ra n c) := (cell_at hL.2.2.2.2.1 i).trans hL.2.2.2.2.2.2.1
  have Hra : Hid (ra = none → n = 0) := hra
  have Hss : Hid (ss.length = n) := hss
  clear hL hra hss
  have b1 : (0 : Int) ≤ (i : Int) := by omega
  have b2 : (i : Int) < (ns : Int) := by omega
  go_enter Yba.func18, Yba.ntmps18
  go_wp2_with fail
  clear d1 d3
  go_loopw [4] (fun j wr => ∃ (k : Nat), k ≤ n ∧ j = .int .i64 ((k : Int) - 1) ∧ Hid (∃ ul' parr' carr', Links B pb csb ns cc i n k c nu ra ss xs wr ul' parr' carr' ∧ Upd (turned pb csb ra ul) w wr ∧ (∀ g, ul'.ownBlock = some g → ul.ownBlock = some g ∨ w.heap.size ≤ g))) (fun j _ => (intOf j + 1).toNat)
  case atStart => exact ⟨n, by omega, by go_num, ul, parr, carr, HL.out, Upd.refl _ _, fun g hg => .inl hg⟩
  case round =>
    obtain ⟨k, hk, rfl, hI⟩ := hrel
    obtain ⟨ul1, parr1, carr1, hL1, hU1, hat1⟩ := hI.out
    cases k with
    | zero =>
      go_wp2
      go_end0
      exact ⟨rfl, ul1, parr1, carr1, hL1, hU1⟩
    | succ q =>
      have e0 : ((q + 1 : Nat) : Int) - 1 = (q : Int) := by omega
      rw [e0]
      obtain ⟨x, hx⟩ : ∃ x, ra = some x := by
        cases h : ra with
        | none => have := Hra.out h; omega
        | some y => exact ⟨y, rfl⟩
      obtain ⟨p1, p2, p3, p4, p5, p6, p7, p8, p9⟩ := hL1
      obtain ⟨rb, arr, rfl, r2, r3, r4⟩ := p8 x hx
      subst hx
      have hql : q < ss.length := by rw [Hss.out]; omega
      have hs : ss[q]? = some (ss[q]'hql) := List.getElem?_eq_getElem hql
      have hdrop : ss.drop q = ss[q]'hql :: ss.drop (q + 1) := List.drop_eq_getElem_cons hql
      generalize ss[q]'hql = s at hs hdrop
      have hrl := removeLink_last B pb csb ns cc i rb q c (nu + (n - (q + 1))) ul1 s (xs ++ strVals (ss.drop (q + 1)).reverse) parr1 carr1 arr wr (by have := hU1.size; omega) p1 p3 p4 p5 p7 hin r2 (r4 q s (by omega) hs) (by omega) (by omega) (by omega) p9 (by omega)
      have Hrl : Hid (Calls Yba.prog 30 #[.pointer (some ⟨pb, 0, none⟩), .int .i64 i, .int .i64 q] wr
        fun e w' => e = .returned (.tuple #[]) ∧ Hid (∃ ul' parr' carr', Links B pb csb ns cc i n q c nu (some ⟨rb, 0, none⟩) ss xs w' ul' parr' carr' ∧ Upd (turned pb csb (some ⟨rb, 0, none⟩) ul) w w' ∧ (∀ g, ul'.ownBlock = some g → ul.ownBlock = some g ∨ w.heap.size ≤ g))) := by
        refine hrl.mono ?_
        rintro e w' ⟨rfl, ul', arr', c1, c2, c3, c4, c5, c6, c7, c8⟩
        refine ⟨rfl, ul', _, _, ⟨c1, by simpa using p2, ?_, ?_, c2, by simpa using p6, ?_, ?_, ?_⟩, ?_, ?_⟩
        · rw [Array.getElem?_setIfInBounds, if_neg (by omega)]; exact p3
        · rw [Array.getElem?_setIfInBounds_self_of_lt (by omega)]
        · rw [Array.getElem?_setIfInBounds_self_of_lt (by omega)]
        · intro x hx
          cases hx
          refine ⟨rb, arr', rfl, c3, by omega, ?_⟩
          intro m s' hm hs'
          rw [c5 _ (by omega)]
          exact r4 m s' (by omega) hs'
        · have e1 : nu + (n - (q + 1)) + 1 = nu + (n - q) := by omega
          rw [e1] at c6
          have e2 : xs ++ strVals (ss.drop q).reverse = xs ++ strVals (ss.drop (q + 1)).reverse ++ [.string s] := by rw [hdrop]; simp [strVals]
          rw [e2]
          exact c6
        · refine hU1.transTo c7 ?_
          intro j hj
          simp only [List.mem_cons, Option.mem_toList] at hj
          simp only [turned, List.mem_cons, List.mem_append, Option.mem_toList, Option.map_some, Option.toList_some, List.not_mem_nil, or_false]
          rcases hj with rfl | rfl | rfl | hj
          · exact .inl (.inl rfl)
          · exact .inl (.inr (.inl rfl))
          · exact .inl (.inr (.inr (.inl rfl)))
          · rcases hat1 j hj with h | h
            · exact .inl (.inr (.inr (.inr h)))
            · exact .inr h
        · intro g hg
          rcases c8 g hg with h | h
          · exact hat1 g h
          · exact .inr (by have := hU1.size; omega)
      clear hrl p1 p2 p3 p4 p5 p6 p7 p8 p9 r2 r3 r4 hs hdrop hU1 hat1 hI HL hql
      have b7 : (0 : Int) ≤ (q : Int) := by omega
      go_wp2_with fail
      refine Hrl.out.mono ?_
      rintro e w' ⟨rfl, hI'⟩
      go_wp2
      go_roundw
      case rel => exact ⟨q, by omega, by go_num, hI'⟩
      case measure => simp [intOf]

end Go.Proofs.Ybulkcsog
