/-
  WALKS, FIRST PART: lookup, define, Bool, and what an option is in memory.
-/
import Derived.Test.YbulkcsneFmtProg
import Derived.Test.YbulkcsneFmtMem
import Derived.Deep.QuietTactic
import Derived.BigQuiet
import Derived.Deep.RegionLaw
import Derived.BigRegion
import Derived.Deep.DrawnRows
import Derived.Handy
import Derived.Deep.DeepMust
namespace Go.Proofs.YbulkcsneFmt
open Go.RowKit Go.Lib
attribute [local go_sem ↓] Go.wp_at_zero Go.wp_at_succ
theorem Ybaf.info38 : (Ybaf.prog.info? 38).map (fun i => (i.zero, i.size, i.bytes)) = some (some (.agg #[.int .i32 0, .string ⟨#[]⟩, .string ⟨#[]⟩, .nilFunc]), 4, 48) := by kernel_rfl

/-- One option: the letter, the value's name, the usage, the setter. -/
abbrev Opt := Int × ByteArray × ByteArray × Value
def oc (o : Opt) : List Value := [.int .i32 o.1, .string o.2.1, .string o.2.2.1, o.2.2.2]
def ocs (os : List Opt) : List Value := os.flatMap oc
theorem oc_len (o : Opt) : (oc o).length = 4 := rfl
theorem ocs_len : ∀ os : List Opt, (ocs os).length = os.length * 4
  | [] => rfl
  | o :: os => by have := ocs_len os; unfold ocs at this ⊢; rw [List.flatMap_cons, List.length_append, this, oc_len, List.length_cons]; omega
theorem ocs_snoc (os : List Opt) (o : Opt) : ocs (os ++ [o]) = ocs os ++ oc o := by simp [ocs]
theorem ocs_at : ∀ {os : List Opt} {i : Nat} {o : Opt}, os[i]? = some o → ∀ j, j < 4 → (ocs os)[i * 4 + j]? = (oc o)[j]?
  | [], i, o, h, _, _ => by simp at h
  | p :: os, 0, o, h, j, hj => by
    obtain rfl : p = o := by simpa using h
    unfold ocs
    rw [List.flatMap_cons, List.getElem?_append_left (by rw [oc_len]; omega)]
    congr 1; omega
  | p :: os, i + 1, o, h, j, hj => by
    have := ocs_at (os := os) (i := i) (by simpa using h) j hj
    unfold ocs at this ⊢
    rw [List.flatMap_cons, List.getElem?_append_right (by rw [oc_len]; omega), ← this, oc_len]
    congr 1; omega
/-- Where an option's cells lie. -/
theorem opt_cell {w : World} {B sg cap n : Nat} {os : List Opt} (hown : w.ownsRow B 38 4 (.slice (some ⟨sg, 0, none⟩) n cap) n (ocs os)) {i : Nat} {o : Opt} (ho : os[i]? = some o) (j : Nat) (u : Value) (hj : j < 4) (hu : (oc o)[j]? = some u) :
    w.cell? ⟨sg, i * 4 + j, none⟩ = some u := by
  have hi : i < os.length := (List.getElem?_eq_some_iff.1 ho).1
  have h1 := hown.1
  rw [ocs_len] at h1
  rw [hown.cellAt (i * 4 + j) (by omega), ocs_at ho j hj, hu]

set_option maxRecDepth 100000 in
set_option maxHeartbeats 1000000 in
theorem lookup_none (B sb : Nat) (l : Int) (w : World) (p0 p1 ov p3 : Value) (os : List Opt)
    (hs : w.heap[sb]? = some (.cells #[p0, p1, ov, p3] 28 (0,0))) (hown : w.ownsRow B 38 4 ov os.length (ocs os)) (hn : os.length ≤ 100000)
    (hno : ∀ (i : Nat) (o : Opt), os[i]? = some o → o.1 ≠ l) :
    Calls Ybaf.prog 19 #[.pointer (some ⟨sb, 0, none⟩), .int .i32 l] w
      fun e w' => e = .returned (.pointer none) ∧ w' = w := by
  obtain ⟨n, hnn⟩ : ∃ n, n = os.length := ⟨_, rfl⟩
  have Hn : Hid (n = os.length) := hnn
  rw [← hnn] at hown hn
  obtain ⟨sa, sc, rfl, hsa⟩ := owns_slice hown
  have h0 : w.cell? ⟨sb, 2, none⟩ = some (.slice sa n sc) := cell_at hs 2
  have Hown : Hid (w.ownsRow B 38 4 (.slice sa n sc) n (ocs os)) := hown
  have Hno : Hid (∀ (i : Nat) (o : Opt), os[i]? = some o → o.1 ≠ l) := hno
  have Hsa : Hid (sa = none → n = 0 ∧ sc = 0) := hsa
  clear hs hown hno hnn hsa
  go_enter Ybaf.func19, Ybaf.ntmps19
  go_wp2_with fail
  go_loop [11] (fun i => ∃ k : Nat, k ≤ n ∧ i = .int .i64 k) (fun i => n - (intOf i).toNat)
  case atStart => exact ⟨0, by omega, rfl⟩
  case round =>
    obtain ⟨k, hk, rfl⟩ := hrel
    by_cases hlt : k < n
    · have hos : os[k]? = some (os[k]'(by rw [← Hn.out]; exact hlt)) := List.getElem?_eq_getElem _
      generalize os[k]'(by rw [← Hn.out]; exact hlt) = o at hos
      obtain ⟨sg, cap, hsv, _, _⟩ := Hown.out.form (by omega)
      simp only [Value.slice.injEq] at hsv
      obtain ⟨rfl, _, rfl⟩ := hsv
      have c0 : w.cell? ⟨sg, k * 4, none⟩ = some (.int .i32 o.1) := opt_cell Hown.out hos 0 _ (by omega) rfl
      have hne : (o.1 == l) = false := by simpa using Hno.out k o hos
      clear hos
      go_wp2
      go_round
      case rel => exact ⟨k + 1, by omega, by go_num⟩
      case measure => simp [intOf]; omega
    · go_wp2
      go_ret
      exact ⟨rfl, rfl⟩

set_option maxRecDepth 100000 in
set_option maxHeartbeats 1000000 in
theorem define_any (B sb : Nat) (l : Int) (val us : ByteArray) (fv : Value) (w : World) (p0 p1 ov p3 : Value) (os : List Opt) (hB : B ≤ w.heap.size)
    (hs : w.heap[sb]? = some (.cells #[p0, p1, ov, p3] 28 (0,0))) (hown : w.ownsRow B 38 4 ov os.length (ocs os)) (hn : os.length ≤ 100000)
    (hno : ∀ (i : Nat) (o : Opt), os[i]? = some o → o.1 ≠ l) (hl : l ≠ 104) (hf : fv.oneCell' = true) :
    Calls Ybaf.prog 14 #[.pointer (some ⟨sb, 0, none⟩), .agg #[.int .i32 l, .string val, .string us, fv]] w
      fun e w' => e = .returned (.tuple #[]) ∧ ∃ ov', w'.heap[sb]? = some (.cells #[p0, p1, ov', p3] 28 (0,0)) ∧
        w'.ownsRow B 38 4 ov' (os.length + 1) (ocs os ++ oc (l, val, us, fv)) ∧ Upd (sb :: ov.ownBlock.toList) w w' ∧ (∀ g, ov'.ownBlock = some g → ov.ownBlock = some g ∨ w.heap.size ≤ g) := by
  obtain ⟨i0, hi, hz0, hz1, hz2⟩ := info_parts Ybaf.info38
  have hone : ∀ u ∈ oc (l, val, us, fv), u.oneCell' = true := by
    intro u hu
    simp only [oc, List.mem_cons, List.not_mem_nil, or_false] at hu
    rcases hu with rfl | rfl | rfl | rfl
    · rfl
    · rfl
    · rfl
    · exact hf
  have h0 : w.cell? ⟨sb, 2, none⟩ = some ov := by rw [cell_at hs]; rfl
  have hlt := lt_of_heap hs
  have hne := owns_ne hown hs (by decide)
  have hl' : (l == 104) = false := by simpa using hl
  obtain ⟨sa', sl', sc', hse⟩ : ∃ a b c, ov = .slice a b c := by
    rcases hown.2 with ⟨h, _⟩ | ⟨_, _, _, h, _⟩ <;> exact ⟨_, _, _, h⟩
  subst hse
  have Hs : Hid (w.heap[sb]? = some (.cells #[p0, p1, .slice sa' sl' sc', p3] 28 (0,0))) := hs
  have Hno : Hid (∀ (i : Nat) (o : Opt), os[i]? = some o → o.1 ≠ l) := hno
  have Hown : Hid (w.ownsRow B 38 4 (.slice sa' sl' sc') os.length (ocs os)) := hown
  clear hs hno hown hl
  go_enter Ybaf.func14, Ybaf.ntmps14
  go_wp2_with fail
  refine (lookup_none B sb l _ p0 p1 (.slice sa' sl' sc') p3 os (heap_past Hs.out _) (Hown.out.alloc _) hn Hno.out).mono ?_
  rintro e w1 ⟨rfl, rfl⟩
  go_wp2_with fail
  go_region_law
    ((refine step_append_lies _ (by rfl) _ _ _ (by rfl) B 38 i0 _ 4 48 Ybaf.underlying24 hi hz0 hz1 hz2 rfl (by omega) (.slice sa' sl' sc') os.length (ocs os) (by rfl) (((Hown.out.alloc _).alloc _).drew)
        ⟨w.heap.size + 1, 0, none⟩ 1 1 (oc (l, val, us, fv)) (by rfl) (by rfl) (World.news_of_block (cs := (oc (l, val, us, fv)).toArray) (t := 38) (fr := (0, 0)) (heap_last (w.alloc _) _ _ (by simp))) hone
        (by omega) (by unfold maxLen; omega) (by omega) (by simp; omega) (w.heap.size + 2) (by simp) ?_; intro gg cap w1 hown1 hgrow hat hlt1; have hh1 : Hid (w1.heap[sb]? = some (.cells #[p0, p1, .slice sa' sl' sc', p3] 28 (0,0))) := (hgrow.block sb (by simp; omega) (Ne.symm hne)).trans (heap_past (heap_past Hs.out _) _); have hf1 := free_at hh1.out 2; have hc1 : w1.cell? ⟨sb, 2, none⟩ = some (.slice sa' sl' sc') := cell_at hh1.out 2))
  all_goals
    go_wp2
    go_end0
    refine ⟨rfl, .slice (some ⟨gg, 0, none⟩) (os.length + 1) cap, ?_, ?_, ?_, ?_⟩
    · exact (set_at hh1.out 2 _)
    · exact owns_set hown1 (owns_ne hown1 hh1.out (by decide)) _
    · refine Upd.setCell (Upd.grown (Upd.drew (Upd.alloc (Upd.alloc (Upd.refl _ _) _) _)) hgrow ?_) ?_ _
      · intro k hk; left; rw [hk]; simp
      · left; simp
    · intro g hg
      simp [Value.ownBlock] at hg
      subst hg
      rcases hat with h | h
      · exact .inl h
      · exact .inr (by omega)

end Go.Proofs.YbulkcsneFmt
