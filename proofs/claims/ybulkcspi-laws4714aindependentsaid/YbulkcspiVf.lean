/-
  VALUE, SIXTH PART: zzs4714awant 8, zzs4714aeq 10, the law LawS4714AValue 3.
-/
import Derived.Test.YbulkcspiVe
namespace Go.Proofs.Ybulkcspi
open Go.RowKit Go.Lib
attribute [local go_sem ↓] Go.wp_at_zero Go.wp_at_succ

/-- What zzs4714awant answers. -/
def WantAns (neg : Bool) (bs : List Int) (w : World) (e : Ending) (w' : World) : Prop := ∃ (x : Option Addr) (T d : Nat), e = .returned (.tuple #[.int .i64 (sgn neg T), .slice x T d]) ∧ T ≤ 1024 ∧ Stripped bs T ∧ Byts w x T (spell bs T) ∧ w' = w

theorem want_nil (neg : Bool) (a : Option Addr) (L c : Nat) (w : World) : Calls Yba.prog 8 #[.bool true, .bool neg, .slice a L c] w fun e w' => e = .returned (.tuple #[.int .i64 0, .slice none 0 0]) ∧ w' = w := by
  go_enter Yba.func8, Yba.ntmps8
  go_wp2
  go_ret2
  exact ⟨rfl, rfl⟩

theorem want_any (neg : Bool) (L c : Nat) (a : Option Addr) (bs : List Int) (w : World) (hL : L ≤ 1024) (hLc : L ≤ c) (hc : c ≤ maxLen) (hB : Byts w a L bs) :
    Calls Yba.prog 8 #[.bool false, .bool neg, .slice a L c] w fun e w' => WantAns neg bs w e w' := by
  have H := strip_any L c a bs w hL hLc hc hB
  clear hB
  unfold maxLen at hc
  go_enter Yba.func8, Yba.ntmps8
  go_wp2_with fail
  refine H.mono ?_
  rintro e w1 ⟨x, T, d, rfl, h1, h2, h3, rfl⟩
  have H3 : Hid (Stripped bs T ∧ Byts w1 x T (spell bs T)) := ⟨h2, h3⟩
  clear h2 h3 H
  by_cases hT : T = 0
  · subst hT
    go_wp2
    go_ret2
    exact ⟨x, 0, d, rfl, h1, H3.out.1, H3.out.2, rfl⟩
  · have hb : ((T : Int) == 0) = false := by simp; exact hT
    cases neg
    · go_wp2
      go_ret2
      exact ⟨x, T, d, by simp [sgn, hT], h1, H3.out.1, H3.out.2, rfl⟩
    · go_wp2
      go_ret2
      exact ⟨x, T, d, by simp [sgn, hT], h1, H3.out.1, H3.out.2, rfl⟩

set_option maxRecDepth 100000 in
theorem eq_any (n c d : Nat) (a b : Option Addr) (bs : List Int) (w : World) (hn : n ≤ 10000) (hA : Byts w a n bs) (hB : Byts w b n bs) :
    Calls Yba.prog 10 #[.slice a n c, .slice b n d] w fun e w' => e = .returned (.bool true) ∧ Upd [] w w' := by
  have HAB : Hid (Byts w a n bs ∧ Byts w b n bs) := ⟨hA, hB⟩
  clear hA hB
  go_enter Yba.func10, Yba.ntmps10
  go_wp2_with fail
  go_loopw [5] (fun i wr => ∃ (s : Nat), s ≤ n ∧ i = .int .i64 s ∧ Hid (Upd [] w wr)) (fun i _ => n - (intOf i).toNat)
  case atStart => exact ⟨0, by omega, rfl, Upd.refl _ _⟩
  case round =>
    obtain ⟨s, hs, rfl, hU⟩ := hrel
    by_cases hlt : s < n
    · obtain ⟨g, o, ha, hc1⟩ := HAB.out.1.flat (by omega)
      obtain ⟨g', o', hb, hc2⟩ := HAB.out.2.flat (by omega)
      subst ha hb
      have c1 := hU.out.cell (hc1 s hlt) (by simp)
      have c2 := hU.out.cell (hc2 s hlt) (by simp)
      have b1 : (0 : Int) ≤ (s : Int) := by omega
      have b2 : (s : Int) < (n : Int) := by omega
      generalize bs.getD s 0 = z at c1 c2
      clear hc1 hc2
      go_wp2_with (go_quiet (fail))
      go_roundw
      case rel => exact ⟨s + 1, by omega, by go_num, hU.out.drewN _⟩
      case measure => simp [intOf]; omega
    · go_wp2
      go_ret
      exact ⟨rfl, hU.out⟩

theorem sgn_eq {neg : Bool} {m T : Nat} (h : m = 0 ↔ T = 0) : sgn (neg && decide (0 < m)) m = sgn neg T := by
  unfold sgn
  by_cases hm : m = 0
  · rw [if_pos hm, if_pos (h.1 hm)]
  · have hT : ¬ T = 0 := fun e => hm (h.2 e)
    have : decide (0 < m) = true := by simp; omega
    rw [if_neg hm, if_neg hT, this, Bool.and_true]

theorem value_nil (neg : Bool) (L c : Nat) (a : Option Addr) (w : World) (hL : L ≤ 1024) :
    Calls Yba.prog 3 #[.bool true, .bool neg, .slice a L c] w fun e w' => e = .returned (.bool true) ∧ Upd [] w w' := by
  go_enter Yba.func3, Yba.ntmps3
  go_wp2_with fail
  refine (build_nil neg a L c w).mono ?_
  rintro e w1 ⟨rfl, rfl⟩
  go_wp2_with fail
  refine (clone_nil w1).mono ?_
  rintro e w2 ⟨rfl, hI, hu2⟩
  have HI : Hid (IntIs w1.heap.size w2 w1.heap.size false [] 0 ∧ Upd [] w1 w2) := ⟨hI, hu2⟩
  clear hI hu2
  go_wp2_with fail
  refine (want_nil neg a L c w2).mono ?_
  rintro e w3 ⟨rfl, rfl⟩
  go_wp2_with fail
  refine (Sign_any _ _ _ _ _ w3 HI.out.1).mono ?_
  rintro e w4 ⟨rfl, rfl⟩
  have hs : sgn false 0 = 0 := rfl
  rw [hs]
  go_wp2_with fail
  refine (Bytes_any _ _ _ _ _ w4 HI.out.1 (fun b hb => by cases hb)).mono ?_
  rintro e w5 ⟨x, T, d, rfl, _, h2, h3, h4⟩
  obtain rfl : T = 0 := h2.only ⟨fun t _ => le_far (by simp), .inl rfl⟩
  have H5 : Hid (Byts w5 x 0 (spell [] 0) ∧ Upd [] w4 w5) := ⟨h3, h4⟩
  clear h2 h3 h4
  go_wp2_with fail
  refine (eq_any 0 d 0 x none _ w5 (by omega) H5.out.1 ⟨rfl, fun _ => rfl, (fun x hx => by cases hx), H5.out.1.2.2.2⟩).mono ?_
  rintro e w6 ⟨rfl, hu6⟩
  go_wp2
  go_ret
  exact ⟨rfl, (HI.out.2.transTo H5.out.2 (by simp)).transTo hu6 (by simp)⟩

set_option maxRecDepth 100000 in
theorem value_any (neg : Bool) (L c : Nat) (a : Option Addr) (bs : List Int) (w : World) (hL : L ≤ 1024) (hLc : L ≤ c) (hc : c ≤ maxLen) (hB : Byts w a L bs) :
    Calls Yba.prog 3 #[.bool false, .bool neg, .slice a L c] w fun e w' => e = .returned (.bool true) ∧ Upd [] w w' := by
  have HB : Hid (Byts w a L bs) := hB
  have Hc : Hid (c ≤ maxLen) := hc
  clear hB hc
  go_enter Yba.func3, Yba.ntmps3
  go_wp2_with fail
  refine (build_any neg L c a bs w hL hLc HB.out).mono ?_
  rintro e w1 ⟨rfl, ⟨m, hX⟩, hu1⟩
  have H1 : Hid (IntIs w.heap.size w1 w.heap.size (neg && decide (0 < m)) bs m ∧ Upd [] w w1) := ⟨hX, hu1⟩
  clear hX hu1
  go_wp2_with fail
  refine (clone_any _ _ _ _ _ w1 H1.out.1).mono ?_
  rintro e w2 ⟨rfl, hR, hu2⟩
  have hX2 : IntIs w.heap.size w2 w.heap.size (neg && decide (0 < m)) bs m := H1.out.1.keep hu2 (by simp) (by simp)
  have hne : w1.heap.size ≠ w.heap.size := by obtain ⟨v, e1, _⟩ := H1.out.1; have := lt_of_heap e1; omega
  have hq : (binOp .eql 23 (.pointer (some ⟨w1.heap.size, 0, none⟩)) (.pointer (some ⟨w.heap.size, 0, none⟩))).run Yba.prog w2 = .ok (.bool false) w2 := by
    obtain ⟨v, e1, _⟩ := hR
    obtain ⟨v', e2, _⟩ := hX2
    exact (neq_int_other w2 hne e1 e2).2
  have H2 : Hid (IntIs w1.heap.size w2 w1.heap.size (neg && decide (0 < m)) bs m ∧ IntIs w.heap.size w2 w.heap.size (neg && decide (0 < m)) bs m ∧ Upd [] w w2) := ⟨hR, hX2, H1.out.2.transTo hu2 (by simp)⟩
  clear hR hX2 hu2
  go_wp2_with fail
  refine (want_any neg L c a bs w2 hL hLc Hc.out (HB.out.keep H2.out.2.2 (by simp))).mono ?_
  rintro e w3 ⟨x, T, d, rfl, hT1, hT2, hT3, rfl⟩
  have hoct : Octets bs := HB.out.2.2.2
  have htop : Top bs m := by obtain ⟨_, _, _, h⟩ := H2.out.1; exact h.1
  have hsg : sgn (neg && decide (0 < m)) m = sgn neg T := sgn_eq (htop.zero hoct hT2)
  have HT : Hid (Octets bs ∧ Stripped bs T ∧ Byts w3 x T (spell bs T)) := ⟨hoct, hT2, hT3⟩
  clear hT2 hT3 hoct htop
  have S1 := Sign_any _ _ _ _ _ w3 H2.out.1
  rw [hsg] at S1
  generalize sgn neg T = sg at *
  go_wp2_with fail
  refine S1.mono ?_
  rintro e w4 ⟨rfl, rfl⟩
  clear S1
  go_wp2_with fail
  refine (Bytes_any _ _ _ _ _ w4 H2.out.1 HT.out.1).mono ?_
  rintro e w5 ⟨y, T', d', rfl, _, h2, h3, h4⟩
  obtain rfl : T' = T := h2.only HT.out.2.1
  have H5 : Hid (Byts w5 y T' (spell bs T') ∧ Upd [] w4 w5) := ⟨h3, h4⟩
  clear h2 h3 h4
  go_wp2_with fail
  refine (eq_any T' d' d y x _ w5 (by omega) H5.out.1 (HT.out.2.2.keep H5.out.2 (by simp))).mono ?_
  rintro e w6 ⟨rfl, hu6⟩
  have H6 : Hid (Upd [] w4 w6) := H5.out.2.transTo hu6 (by simp)
  clear hu6
  have hX6 : Hid (IntIs w.heap.size w6 w.heap.size (neg && decide (0 < m)) bs m) := H2.out.2.1.keep H6.out (by simp) (by simp)
  have S2 := Sign_any _ _ _ _ _ w6 hX6.out
  rw [hsg] at S2
  go_wp2_with fail
  refine S2.mono ?_
  rintro e w7 ⟨rfl, rfl⟩
  clear S2
  go_wp2_with fail
  refine (Bytes_any _ _ _ _ _ w7 hX6.out HT.out.1).mono ?_
  rintro e w8 ⟨y', T2, d2, rfl, _, h2, h3, h4⟩
  obtain rfl : T2 = T' := h2.only HT.out.2.1
  have H8 : Hid (Byts w8 y' T2 (spell bs T2) ∧ Upd [] w7 w8) := ⟨h3, h4⟩
  clear h2 h3 h4
  go_wp2_with fail
  refine (eq_any T2 d2 d y' x _ w8 (by omega) H8.out.1 ((HT.out.2.2.keep H6.out (by simp)).keep H8.out.2 (by simp))).mono ?_
  rintro e w9 ⟨rfl, hu9⟩
  go_wp2
  go_ret
  exact ⟨rfl, ((H2.out.2.2.transTo H6.out (by simp)).transTo H8.out.2 (by simp)).transTo hu9 (by simp)⟩

theorem value_long (nil neg : Bool) (L c : Nat) (a : Option Addr) (w : World) (hL : 1024 < L) (hm : L ≤ maxLen) :
    Calls Yba.prog 3 #[.bool nil, .bool neg, .slice a L c] w fun e w' => e = .returned (.bool true) ∧ Upd [] w w' := by
  unfold maxLen at hm
  go_enter Yba.func3, Yba.ntmps3
  go_wp2
  go_ret
  exact ⟨rfl, Upd.refl _ _⟩

end Go.Proofs.Ybulkcspi
