/-
  WALKS, FIRST PART: what came in (slices of strings), zzs4712bsmall, slices.Delete of the last Contact.
-/
import Derived.Test.YbulkcsogProg
import Derived.Test.YbulkcsogMem
import Derived.Test.YbulkcsogSteps
import Derived.Test.YbulkcsogLex
import Derived.Deep.QuietTactic
import Derived.BigQuiet
import Derived.Deep.RegionLaw
import Derived.BigRegion
import Derived.Deep.DrawnRows
import Derived.Handy
import Derived.Deep.DeepMust
namespace Go.Proofs.Ybulkcsog
open Go.RowKit Go.Lib
attribute [local go_sem ↓] Go.wp_at_zero Go.wp_at_succ
theorem Yba.info49 : (Yba.prog.info? 49).map (fun i => (i.zero, i.size, i.bytes)) = some (some (.agg #[.string ⟨#[]⟩, .int .u64 0, .int .u8 0, .int .u64 0]), 4, 40) := by kernel_rfl
theorem Yba.info67 : (Yba.prog.info? 67).map (fun i => (i.zero, i.size, i.bytes)) = some (some (.slice none 0 0), 1, 24) := by kernel_rfl
theorem Yba.info9 : (Yba.prog.info? 9).map (fun i => (i.zero, i.size, i.bytes)) = some (some (.string ⟨#[]⟩), 1, 16) := by kernel_rfl

/-- A slice of strings that came in. -/
def Strs (w : World) (a : Option Addr) (n : Nat) (ss : List ByteArray) : Prop := ss.length = n ∧ (a = none → n = 0) ∧ ∀ x, a = some x → ∀ (i : Nat) (s : ByteArray), ss[i]? = some s → w.cell? (x.add i) = some (.string s)
abbrev Row := Option Addr × Nat × Nat × List ByteArray
/-- A slice of slices of strings that came in. -/
def Subs (w : World) (a : Option Addr) (n : Nat) (rs : List Row) : Prop := rs.length = n ∧ (a = none → n = 0) ∧ ∀ x, a = some x → ∀ (i : Nat) (r : Row), rs[i]? = some r → w.cell? (x.add i) = some (.slice r.1 r.2.1 r.2.2.1) ∧ Strs w r.1 r.2.1 r.2.2.2 ∧ r.2.1 ≤ 8796093022208

theorem Strs.keep {w w' : World} {a : Option Addr} {n : Nat} {ss : List ByteArray} (h : Strs w a n ss) (hu : Upd [] w w') : Strs w' a n ss :=
  ⟨h.1, h.2.1, fun x hx i s hs => hu.cell (h.2.2 x hx i s hs) (by simp)⟩
theorem Subs.keep {w w' : World} {a : Option Addr} {n : Nat} {rs : List Row} (h : Subs w a n rs) (hu : Upd [] w w') : Subs w' a n rs :=
  ⟨h.1, h.2.1, fun x hx i r hr => ⟨hu.cell (h.2.2 x hx i r hr).1 (by simp), (h.2.2 x hx i r hr).2.1.keep hu, (h.2.2 x hx i r hr).2.2⟩⟩

/-- What zzs4712bsmall answers. -/
def Small (ns nu : Nat) (rs : List Row) (e : Ending) : Prop := ∃ ok, e = .returned (.bool ok) ∧ (ok = true → ns ≤ 256 ∧ nu ≤ 1024 ∧ ∀ (i : Nat) (r : Row), rs[i]? = some r → r.2.1 ≤ 4096)

set_option maxRecDepth 100000 in
set_option maxHeartbeats 1000000 in
theorem small_any (ns c nu d : Nat) (a b : Option Addr) (rs : List Row) (w : World) (hns : ns ≤ maxLen) (hnu : nu ≤ maxLen) (hs : Subs w a ns rs) :
    Calls Yba.prog 16 #[.slice a ns c, .slice b nu d] w
      fun e w' => w' = w ∧ Small ns nu rs e := by
  unfold maxLen at hns hnu
  have Hs : Hid (Subs w a ns rs) := hs
  clear hs
  by_cases h1 : 256 < ns
  · go_enter Yba.func16, Yba.ntmps16
    go_wp2
    go_ret
    exact ⟨rfl, false, rfl, fun h => by cases h⟩
  by_cases h2 : 1024 < nu
  · go_enter Yba.func16, Yba.ntmps16
    go_wp2
    go_ret
    exact ⟨rfl, false, rfl, fun h => by cases h⟩
  go_enter Yba.func16, Yba.ntmps16
  go_wp2_with fail
  go_loop [5, 18] (fun t i => ∃ (k : Nat) (T : Int), k ≤ ns ∧ i = .int .i64 k ∧ t = .int .i64 T ∧ 0 ≤ T ∧ T ≤ 4096 ∧ Hid (∀ (j : Nat) (r : Row), j < k → rs[j]? = some r → r.2.1 ≤ 4096)) (fun _ i => ns - (intOf i).toNat)
  case atStart => exact ⟨0, 0, by omega, rfl, rfl, by omega, by omega, fun j r h => by omega⟩
  case round =>
    obtain ⟨k, T, hk, rfl, rfl, hT0, hT1, hall⟩ := hrel
    by_cases hlt : k < ns
    · have hrl : k < rs.length := by rw [Hs.out.1]; exact hlt
      have hr : rs[k]? = some (rs[k]'hrl) := List.getElem?_eq_getElem _
      generalize rs[k]'hrl = r at hr
      obtain ⟨x, hx⟩ : ∃ x, a = some x := by
        cases h : a with
        | none => have := Hs.out.2.1 h; omega
        | some y => exact ⟨y, rfl⟩
      subst hx
      obtain ⟨hc, _, hb⟩ := Hs.out.2.2 x rfl k r hr
      have Hr : Hid (rs[k]? = some r) := hr
      clear hr
      obtain ⟨ra, rl, rc, rss⟩ := r
      simp only at hc hb
      by_cases hgt : 4096 < T + (rl : Int)
      · go_wp2
        go_ret
        exact ⟨rfl, false, rfl, fun h => by cases h⟩
      · go_wp2
        go_round
        case rel =>
          refine ⟨k + 1, T + rl, by omega, by go_num, by go_num, by omega, by omega, ?_⟩
          intro j r hj hr'
          by_cases hjk : j = k
          · subst hjk
            obtain rfl : r = (ra, rl, rc, rss) := Option.some.inj (hr'.symm.trans Hr.out)
            show rl ≤ 4096
            omega
          · exact hall.out j r (by omega) hr'
        case measure => simp [intOf]; omega
    · go_wp2
      go_ret
      exact ⟨rfl, true, rfl, fun _ => ⟨by omega, by omega, fun i r hr => hall.out i r (by have := (List.getElem?_eq_some_iff.1 hr).1; rw [Hs.out.1] at this; omega) hr⟩⟩

end Go.Proofs.Ybulkcsog
