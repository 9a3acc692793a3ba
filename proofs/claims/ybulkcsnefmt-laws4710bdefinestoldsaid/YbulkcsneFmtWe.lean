/-
  WALKS, FIFTH PART: String, and the setter that String makes.
-/
import Derived.Test.YbulkcsneFmtWc
namespace Go.Proofs.YbulkcsneFmt
open Go.RowKit Go.Lib
attribute [local go_sem ↓] Go.wp_at_zero Go.wp_at_succ

set_option maxRecDepth 100000 in
set_option maxHeartbeats 1000000 in
theorem set_string (k pb : Nat) (old s : ByteArray) (w : World) (hk : w.heap[k]? = some (.cells #[.pointer (some ⟨pb, 0, none⟩)] 35 (0,0))) (hp : w.heap[pb]? = some (.cells #[.string old] 9 (0,0))) :
    Calls Ybaf.prog 16 #[.string s, .pointer (some ⟨k, 0, none⟩)] w
      fun e w' => e = .returned .nilIface ∧ w' = w.setCell ⟨pb, 0, none⟩ (.string s) := by
  have c0 : w.cell? ⟨k, 0, none⟩ = some (.pointer (some ⟨pb, 0, none⟩)) := cell_at hk 0
  have c1 : w.cell? ⟨pb, 0, none⟩ = some (.string old) := cell_at hp 0
  have f1 := free_at hp 0
  clear hk hp
  go_enter Ybaf.func16, Ybaf.ntmps16
  go_wp2
  go_ret
  exact ⟨rfl, rfl⟩

/-- The usage that String lays down. -/
def usageOf (p us : ByteArray) : ByteArray := if p.toList.isEmpty = true then us else us ++ ((⟨#[32, 40, 100, 101, 102, 97, 117, 108, 116, 58, 32]⟩ ++ p) ++ ⟨#[41]⟩)

set_option maxRecDepth 100000 in
set_option maxHeartbeats 1000000 in
theorem string_any (B sb pb : Nat) (l : Int) (p val us : ByteArray) (w : World) (p0 p1 ov p3 : Value) (os : List Opt) (hB : B ≤ w.heap.size)
    (hs : w.heap[sb]? = some (.cells #[p0, p1, ov, p3] 28 (0,0))) (hown : w.ownsRow B 38 4 ov os.length (ocs os)) (hn : os.length ≤ 100000)
    (hpb : w.heap[pb]? = some (.cells #[.string p] 9 (0,0))) (hp : p.size ≤ 140737488351232) (hu : us.size ≤ 140737488351232)
    (hno : ∀ (i : Nat) (o : Opt), os[i]? = some o → o.1 ≠ l) (hl : l ≠ 104) :
    Calls Ybaf.prog 10 #[.pointer (some ⟨sb, 0, none⟩), .pointer (some ⟨pb, 0, none⟩), .int .i32 l, .string val, .string us] w
      fun e w' => e = .returned (.tuple #[]) ∧ ∃ ov', w'.heap[sb]? = some (.cells #[p0, p1, ov', p3] 28 (0,0)) ∧ w'.heap[w.heap.size]? = some (.cells #[.pointer (some ⟨pb, 0, none⟩)] 35 (0,0)) ∧
        w'.ownsRow B 38 4 ov' (os.length + 1) (ocs os ++ oc (l, val, usageOf p us, .func (.func 16) #[] #[.pointer (some ⟨w.heap.size, 0, none⟩)])) ∧ Upd (sb :: ov.ownBlock.toList) w w' ∧ (∀ g, ov'.ownBlock = some g → ov.ownBlock = some g ∨ w.heap.size ≤ g) := by
  have Hs : Hid (w.heap[sb]? = some (.cells #[p0, p1, ov, p3] 28 (0,0))) := hs
  have Hno : Hid (∀ (i : Nat) (o : Opt), os[i]? = some o → o.1 ≠ l) := hno
  have Hown : Hid (w.ownsRow B 38 4 ov os.length (ocs os)) := hown
  have Hl : Hid (l ≠ 104) := hl
  have c1 : w.cell? ⟨pb, 0, none⟩ = some (.string p) := cell_at hpb 0
  have hpl := lt_of_heap hpb
  have fin : Calls Ybaf.prog 14 #[.pointer (some ⟨sb, 0, none⟩), .agg #[.int .i32 l, .string val, .string (usageOf p us), .func (.func 16) #[] #[.pointer (some ⟨w.heap.size, 0, none⟩)]]] (w.alloc (.cells #[.pointer (some ⟨pb, 0, none⟩)] 35))
      fun e w' => e = .returned (.tuple #[]) ∧ ∃ ov', w'.heap[sb]? = some (.cells #[p0, p1, ov', p3] 28 (0,0)) ∧ w'.heap[w.heap.size]? = some (.cells #[.pointer (some ⟨pb, 0, none⟩)] 35 (0,0)) ∧
        w'.ownsRow B 38 4 ov' (os.length + 1) (ocs os ++ oc (l, val, usageOf p us, .func (.func 16) #[] #[.pointer (some ⟨w.heap.size, 0, none⟩)])) ∧ Upd (sb :: ov.ownBlock.toList) w w' ∧ (∀ g, ov'.ownBlock = some g → ov.ownBlock = some g ∨ w.heap.size ≤ g) := by
    refine (define_any B sb l val (usageOf p us) (.func (.func 16) #[] #[.pointer (some ⟨w.heap.size, 0, none⟩)]) (w.alloc (.cells #[.pointer (some ⟨pb, 0, none⟩)] 35)) p0 p1 ov p3 os (by simp; omega) (heap_past Hs.out _) (Hown.out.alloc _) hn Hno.out Hl.out rfl).mono ?_
    rintro e w' ⟨rfl, ov', h1, h2, h3, h4⟩
    have hn1 : w.heap.size ≠ sb := by have := lt_of_heap Hs.out; omega
    have hn2 : ∀ g, ov.ownBlock = some g → g ≠ w.heap.size := by
      intro g hg
      obtain ⟨cur, hh, _⟩ := owns_block Hown.out hg
      have := lt_of_heap hh; omega
    refine ⟨rfl, ov', h1, h3.keep (heap_last w _ _ rfl) (by simp; exact ⟨hn1, fun hg => hn2 _ hg rfl⟩), h2, (Upd.alloc (Upd.refl _ _) _).transTo h3 (fun i hi => .inl hi), ?_⟩
    intro g hg
    rcases h4 g hg with h | h
    · exact .inl h
    · simp at h; exact .inr (by omega)
  clear hs hno hown hl hpb
  cases hpe : p.toList.isEmpty
  · have e1 : usageOf p us = us ++ ((⟨#[32, 40, 100, 101, 102, 97, 117, 108, 116, 58, 32]⟩ ++ p) ++ ⟨#[41]⟩) := by unfold usageOf; rw [if_neg (by simp [hpe])]
    rw [e1] at fin ⊢
    clear e1
    go_enter Ybaf.func10, Ybaf.ntmps10
    go_wp2_with fail
    refine fin.mono ?_
    rintro e w' ⟨rfl, hrest⟩
    go_wp2
    go_end0
    exact ⟨rfl, hrest⟩
  · have e1 : usageOf p us = us := by unfold usageOf; rw [if_pos hpe]
    rw [e1] at fin ⊢
    go_enter Ybaf.func10, Ybaf.ntmps10
    go_wp2_with fail
    refine fin.mono ?_
    rintro e w' ⟨rfl, hrest⟩
    go_wp2
    go_end0
    exact ⟨rfl, hrest⟩

end Go.Proofs.YbulkcsneFmt
