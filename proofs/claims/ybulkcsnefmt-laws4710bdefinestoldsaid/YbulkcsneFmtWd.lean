/-
  WALKS, FOURTH PART: the two tables of letters.
-/
import Derived.Test.YbulkcsneFmtWc
namespace Go.Proofs.YbulkcsneFmt
open Go.RowKit Go.Lib
attribute [local go_sem ↓] Go.wp_at_zero Go.wp_at_succ

def oldAt (k : Nat) : Int := ([97, 98, 99, 100, 101, 102, 103, 105, 106, 107, 108, 109] : List Int).getD k 0
def newAt (k : Nat) : Int := ([120, 121, 122, 113, 114, 233, 90, 48] : List Int).getD k 0
theorem oldAt_ne : ∀ k, k < 12 → oldAt k ≠ 104 := by decide +kernel
theorem newAt_ne : ∀ k, k < 8 → newAt k ≠ 104 := by decide +kernel
theorem oldAt_inj : ∀ k, k < 12 → ∀ j, j < 12 → k ≠ j → oldAt k ≠ oldAt j := by decide +kernel
theorem newAt_old : ∀ k, k < 8 → ∀ j, j < 12 → oldAt j ≠ newAt k := by decide +kernel

set_option maxRecDepth 100000 in
set_option maxHeartbeats 1000000 in
theorem old_any (k : Nat) (w : World) (hk : k < 12) :
    Calls Ybaf.prog 8 #[.int .i64 k] w fun e w' => e = .returned (.int .i32 (oldAt k)) ∧ Upd [] w w' := by
  have h : k = 0 ∨ k = 1 ∨ k = 2 ∨ k = 3 ∨ k = 4 ∨ k = 5 ∨ k = 6 ∨ k = 7 ∨ k = 8 ∨ k = 9 ∨ k = 10 ∨ k = 11 := by omega
  clear hk
  rcases h with rfl | rfl | rfl | rfl | rfl | rfl | rfl | rfl | rfl | rfl | rfl | rfl
  all_goals
    go_enter Ybaf.func8, Ybaf.ntmps8
    go_wp2
    go_ret
    exact ⟨rfl, Upd.alloc (Upd.refl _ _) _⟩

set_option maxRecDepth 100000 in
set_option maxHeartbeats 1000000 in
theorem new_any (k : Nat) (w : World) (hk : k < 8) :
    Calls Ybaf.prog 9 #[.int .i64 k] w fun e w' => e = .returned (.int .i32 (newAt k)) ∧ Upd [] w w' := by
  have h : k = 0 ∨ k = 1 ∨ k = 2 ∨ k = 3 ∨ k = 4 ∨ k = 5 ∨ k = 6 ∨ k = 7 := by omega
  clear hk
  rcases h with rfl | rfl | rfl | rfl | rfl | rfl | rfl | rfl
  all_goals
    go_enter Ybaf.func9, Ybaf.ntmps9
    go_wp2
    go_ret
    exact ⟨rfl, Upd.alloc (Upd.refl _ _) _⟩

end Go.Proofs.YbulkcsneFmt
