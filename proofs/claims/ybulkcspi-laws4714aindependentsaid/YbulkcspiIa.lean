/-
  INDEPENDENT, FIRST PART: math/bits.Add 46, Sub 49; the twins of addVV, subVV, lshVU; NewInt(1) 12; nat.make 42 whatever it is given.
-/
import Derived.Test.YbulkcspiVf
import Derived.Laws.Twins
import Derived.Laws.Externs
import Derived.Shelf.Spec.BitsCarry
namespace Go.Proofs.Ybulkcspi
open Go.RowKit Go.Lib
attribute [local go_sem ↓] Go.wp_at_zero Go.wp_at_succ

theorem run_a64 (x y c : Int) (hx : 0 ≤ x) (hy : 0 ≤ y) (hc0 : 0 ≤ c) (hc : c ≤ 1) (w : World) :
    (callFunc 58 #[.int .u64 x, .int .u64 y, .int .u64 c]).run Yba.prog w = .ok (.value (.tuple #[.int .u64 ((x + y + c) % 18446744073709551616), .int .u64 ((x + y + c) / 18446744073709551616)])) w := by
  rw [run_callFunc_extern Yba.func58 (by kernel_rfl) (by kernel_rfl) (by kernel_rfl) (e := add64Entry) (by kernel_rfl), run_add64 x y c hx hy hc0 hc]
  rfl
theorem run_s64 (x y c : Int) (hx : 0 ≤ x) (hx1 : x < 18446744073709551616) (hy : 0 ≤ y) (hy1 : y < 18446744073709551616) (hc0 : 0 ≤ c) (hc : c ≤ 1) (w : World) :
    (callFunc 60 #[.int .u64 x, .int .u64 y, .int .u64 c]).run Yba.prog w = .ok (.value (.tuple #[.int .u64 ((x - y - c) % 18446744073709551616), .int .u64 (if x < y + c then 1 else 0)])) w := by
  obtain ⟨X, rfl⟩ := Int.eq_ofNat_of_zero_le hx
  obtain ⟨Y, rfl⟩ := Int.eq_ofNat_of_zero_le hy
  obtain ⟨C, rfl⟩ := Int.eq_ofNat_of_zero_le hc0
  rw [run_callFunc_extern Yba.func60 (by kernel_rfl) (by kernel_rfl) (by kernel_rfl) (e := sub64Entry) (by kernel_rfl), run_sub64 X Y C (by omega)]
  have e1 : (((X + 18446744073709551616 - Y - C) % 18446744073709551616 : Nat) : Int) = ((X : Int) - (Y : Int) - (C : Int)) % 18446744073709551616 := by omega
  have e2 : ((if X < Y + C then 1 else 0 : Nat) : Int) = (if (X : Int) < (Y : Int) + (C : Int) then 1 else 0) := by
    by_cases h : X < Y + C
    · rw [if_pos h, if_pos (by omega)]; rfl
    · rw [if_neg h, if_neg (by omega)]; rfl
  rw [e1, e2]
  rfl

set_option maxRecDepth 100000 in
theorem Add_any (x y c : Int) (w : World) (hx : 0 ≤ x) (hy : 0 ≤ y) (hc0 : 0 ≤ c) (hc : c ≤ 1) :
    Calls Yba.prog 46 #[.int .u64 x, .int .u64 y, .int .u64 c] w fun e w' => e = .returned (.tuple #[.int .u64 ((x + y + c) % 18446744073709551616), .int .u64 ((x + y + c) / 18446744073709551616)]) ∧ w' = w := by
  have h := run_a64 x y c hx hy hc0 hc w
  go_enter Yba.func46, Yba.ntmps46
  go_wp2
  go_ret2
  exact ⟨rfl, rfl⟩
set_option maxRecDepth 100000 in
theorem Sub_any (x y c : Int) (w : World) (hx : 0 ≤ x) (hx1 : x < 18446744073709551616) (hy : 0 ≤ y) (hy1 : y < 18446744073709551616) (hc0 : 0 ≤ c) (hc : c ≤ 1) :
    Calls Yba.prog 49 #[.int .u64 x, .int .u64 y, .int .u64 c] w fun e w' => e = .returned (.tuple #[.int .u64 ((x - y - c) % 18446744073709551616), .int .u64 (if x < y + c then 1 else 0)]) ∧ w' = w := by
  have h := run_s64 x y c hx hx1 hy hy1 hc0 hc w
  generalize (if x < y + c then (1 : Int) else 0) = q at h ⊢
  go_enter Yba.func49, Yba.ntmps49
  go_wp2
  go_ret2
  exact ⟨rfl, rfl⟩

theorem twin_addVV (args : Array Value) (w : World) : (callFunc 43 args).run Yba.prog w = .ok (.enter 24 args) w :=
  run_callFunc_twin Yba.func43 (by kernel_rfl) (by kernel_rfl) (twin := "math/big.addVV_g") (by kernel_rfl) (by kernel_rfl) Yba.func24 (by kernel_rfl) (by kernel_rfl) (by kernel_rfl) args w
theorem twin_subVV (args : Array Value) (w : World) : (callFunc 47 args).run Yba.prog w = .ok (.enter 25 args) w :=
  run_callFunc_twin Yba.func47 (by kernel_rfl) (by kernel_rfl) (twin := "math/big.subVV_g") (by kernel_rfl) (by kernel_rfl) Yba.func25 (by kernel_rfl) (by kernel_rfl) (by kernel_rfl) args w
theorem twin_lshVU (args : Array Value) (w : World) : (callFunc 52 args).run Yba.prog w = .ok (.enter 26 args) w :=
  run_callFunc_twin Yba.func52 (by kernel_rfl) (by kernel_rfl) (twin := "math/big.lshVU_g") (by kernel_rfl) (by kernel_rfl) Yba.func26 (by kernel_rfl) (by kernel_rfl) (by kernel_rfl) args w

/-- big.NewInt(1). -/
theorem NewInt_one (w : World) : Calls Yba.prog 12 #[.int .i64 1] w fun e w' => e = .returned (.pointer (some ⟨w.heap.size + 1, 0, none⟩)) ∧ w'.heap[w.heap.size + 1]? = some (.cells #[.bool false, .slice (some ⟨w.heap.size, 0, none⟩) 1 1] 39 (0,0)) ∧ w'.heap[w.heap.size]? = some (.cells #[.int .u64 1] 104 (0,0)) ∧ Upd [] w w' := by
  go_enter Yba.func12, Yba.ntmps12
  go_wp2
  go_ret
  exact ⟨rfl, heap_last _ _ _ (by simp), heap_past (heap_last _ _ _ rfl) _, Upd.alloc (Upd.alloc (Upd.refl _ _) _) _⟩

/-- What make answers: the same block, cut longer or shorter; or a new one. -/
def MakeAns (a : Option Addr) (c n : Nat) (w : World) (e : Ending) (w' : World) : Prop :=
  (n ≤ c ∧ e = .returned (.slice a n c) ∧ w' = w) ∨ (c < n ∧ ∃ c', e = .returned (.slice (some ⟨w.heap.size, 0, none⟩) n c') ∧ n ≤ c' ∧ c' ≤ 1010 ∧ w' = w.alloc (.cells (madeCells #[.int .u64 0] c') 104))
set_option maxRecDepth 100000 in
theorem remake_any (n : Nat) (zg l c : Nat) (w : World) (h1 : 1 ≤ n) (h2 : n ≤ 1000) (hc : c ≤ 9223372036854775807) :
    Calls Yba.prog 42 #[.slice (some ⟨zg, 0, none⟩) l c, .int .i64 n] w fun e w' => MakeAns (some ⟨zg, 0, none⟩) c n w e w' := by
  obtain ⟨i0, hi, hz0, hz1, hz2⟩ := info_parts Yba.info104
  have hmk : ∀ w : World, (Instr.makeSlice 37 (.int .i64 (n : Int)) (.int .i64 ((n : Int) + 4))).run Yba.prog w = .ok (.slice (some ⟨w.heap.size, 0, none⟩) n (n + 4)) (w.alloc (.cells (madeCells #[.int .u64 0] (n + 4)) 104)) := by
    intro w
    have h := run_make (P := Yba.prog) w 37 104 i0 (.int .u64 0) Yba.underlying37 hi hz0 .i64 .i64 n ((n : Int) + 4) (by omega) (by omega) (by rw [hz2]; omega) (by omega)
    rw [h, hz1, Nat.mul_one, Int.toNat_natCast, show ((n : Int) + 4).toNat = n + 4 by omega]
    rfl
  by_cases hnc : n ≤ c
  · go_enter Yba.func42, Yba.ntmps42
    go_wp2
    go_ret
    exact .inl ⟨hnc, rfl, rfl⟩
  by_cases hn : n = 1
  · subst hn
    go_enter Yba.func42, Yba.ntmps42
    go_wp2_with (at_make; go_must (refine wpList_make_row _ rfl _ _ _ rfl 104 i0 _ Yba.underlying37 hi hz0 hz1 (by rfl) _ _ 1 rfl rfl (by rw [hz2]; omega) (by omega) ?_))
    go_ret
    exact .inr ⟨by omega, 1, rfl, by omega, by omega, rfl⟩
  · have hb : ((n : Int) == 1) = false := by simp; omega
    go_enter Yba.func42, Yba.ntmps42
    go_wp2
    go_ret
    exact .inr ⟨by omega, n + 4, rfl, by omega, by omega, rfl⟩

/-! Plain: adding 1, taking 1 away, the number of words. -/
/-- The carry into word j, c going into word 0. -/
def car (c : Int) (X : Nat → Int) : Nat → Int
  | 0 => c
  | j + 1 => (X j + car c X j) / 18446744073709551616
/-- The borrow out of word j, c asked of word 0. -/
def bor (c : Int) (X : Nat → Int) : Nat → Int
  | 0 => c
  | j + 1 => if X j < bor c X j then 1 else 0
/-- Words. -/
def Wrds (X : Nat → Int) (m : Nat) : Prop := ∀ k, k < m → 0 ≤ X k ∧ X k < 18446744073709551616
theorem car_ok {c : Int} {X : Nat → Int} (hc : 0 ≤ c ∧ c ≤ 1) : ∀ {m : Nat}, Wrds X m → 0 ≤ car c X m ∧ car c X m ≤ 1
  | 0, _ => hc
  | m + 1, h => by
    have h1 := car_ok (m := m) hc (fun k hk => h k (by omega))
    have h2 := h m (by omega)
    simp only [car]
    omega
theorem bor_ok {c : Int} {X : Nat → Int} (hc : 0 ≤ c ∧ c ≤ 1) : ∀ m : Nat, 0 ≤ bor c X m ∧ bor c X m ≤ 1
  | 0 => hc
  | m + 1 => by
    simp only [bor]
    split <;> omega
theorem car_shift (c : Int) (X : Nat → Int) : ∀ j, car (car c X 1) (fun k => X (k + 1)) j = car c X (j + 1)
  | 0 => rfl
  | j + 1 => by
    simp only [car]
    have := car_shift c X j
    simp only [car] at this
    rw [this]
theorem bor_shift (c : Int) (X : Nat → Int) : ∀ j, bor (bor c X 1) (fun k => X (k + 1)) j = bor c X (j + 1)
  | 0 => rfl
  | j + 1 => by
    have := bor_shift c X j
    rw [show bor (bor c X 1) (fun k => X (k + 1)) (j + 1) = if X (j + 1) < bor (bor c X 1) (fun k => X (k + 1)) j then 1 else 0 from rfl, this]
    rfl
theorem car_zero {X : Nat → Int} : ∀ {m : Nat}, Wrds X m → car 0 X m = 0
  | 0, _ => rfl
  | m + 1, h => by
    have h1 := car_zero (m := m) (fun k hk => h k (by omega))
    have h2 := h m (by omega)
    simp only [car, h1]
    omega
/-- A borrow that goes through has met zeros only. -/
theorem bor_one {X : Nat → Int} : ∀ {m : Nat}, Wrds X m → bor 1 X m = 1 → ∀ k, k < m → X k = 0
  | 0, _, _, k, hk => by omega
  | m + 1, h, hb, k, hk => by
    have h0 := bor_ok (c := 1) (X := X) (by omega) m
    have h2 := h m (by omega)
    simp only [bor] at hb
    split at hb
    · rename_i hlt
      have e1 : bor 1 X m = 1 := by omega
      by_cases hkm : k = m
      · subst hkm; omega
      · exact bor_one (m := m) (fun k hk => h k (by omega)) e1 k (by omega)
    · omega
/-- How many words are left without zeros at the top. -/
def topOf (X : Nat → Int) : Nat → Nat
  | 0 => 0
  | n + 1 => if X n = 0 then topOf X n else n + 1
theorem topOf_le (X : Nat → Int) : ∀ n, topOf X n ≤ n
  | 0 => Nat.le_refl _
  | n + 1 => by
    have := topOf_le X n
    simp only [topOf]
    split <;> omega
theorem topOf_top (X : Nat → Int) : ∀ n, topOf X n = 0 ∨ X (topOf X n - 1) ≠ 0
  | 0 => .inl rfl
  | n + 1 => by
    simp only [topOf]
    split
    · exact topOf_top X n
    · rename_i h; right; simpa using h
theorem topOf_only {X : Nat → Int} : ∀ {n m : Nat}, m ≤ n → (∀ k, m ≤ k → k < n → X k = 0) → (m = 0 ∨ X (m - 1) ≠ 0) → topOf X n = m
  | 0, m, h, _, _ => by simp only [topOf]; omega
  | n + 1, m, h, h1, h2 => by
    simp only [topOf]
    by_cases hm : m = n + 1
    · subst hm
      have : X n ≠ 0 := by rcases h2 with h2 | h2; omega; simpa using h2
      rw [if_neg this]
    · rw [if_pos (h1 n (by omega) (by omega))]
      exact topOf_only (by omega) (fun k hk hk' => h1 k hk (by omega)) h2
theorem topOf_congr {X Y : Nat → Int} : ∀ {n : Nat}, (∀ k, k < n → X k = Y k) → topOf X n = topOf Y n
  | 0, _ => rfl
  | n + 1, h => by
    simp only [topOf]
    rw [h n (by omega), topOf_congr (fun k hk => h k (by omega))]

/-- norm by topOf. -/
def NormAns (g c n : Nat) (X : Nat → Int) (w : World) (e : Ending) (w' : World) : Prop := e = .returned (.slice (some ⟨g, 0, none⟩) (topOf X n) c) ∧ w' = w
theorem norm_top (g n c : Nat) (X : Nat → Int) (arr : Array Value) (w : World) (hg : w.heap[g]? = some (.cells arr 104 (0,0))) (hX : ∀ k, k < n → arr[k]? = some (.int .u64 (X k))) (hnc : n ≤ c) (hn : n ≤ 1000) :
    Calls Yba.prog 45 #[.slice (some ⟨g, 0, none⟩) n c] w fun e w' => NormAns g c n X w e w' := by
  refine (norm_any g n c X arr w hg hX hnc hn).mono ?_
  rintro e w' ⟨m, rfl, rfl, h1, h2, h3⟩
  exact ⟨by rw [topOf_only h1 h2 h3], rfl⟩

end Go.Proofs.Ybulkcspi
