/-
  THE MEMORY's BOOK-KEEPING: 'Upd S w w'': of what lay in w, only the blocks of the list S may have turned. No Go text in sight.
-/
import Derived.WalkKit
import Derived.WalkSpells
import Derived.WalkLawsBesides
import Derived.Deep.AppendLies
import Derived.Deep.Draws
namespace Go.Proofs.Ybulkcspi
open Go.RowKit

structure Upd (S : List Nat) (w w' : World) : Prop where
  os : w'.os = w.os
  tape : w'.tape = w.tape
  output : w'.output = w.output
  size : w.heap.size ≤ w'.heap.size
  block : ∀ k, k < w.heap.size → k ∉ S → w'.heap[k]? = w.heap[k]?

theorem Upd.refl (S : List Nat) (w : World) : Upd S w w := ⟨rfl, rfl, rfl, Nat.le_refl _, fun _ _ _ => rfl⟩
theorem Upd.transTo {S T : List Nat} {a b c : World} (h : Upd S a b) (k : Upd T b c) (hs : ∀ i, i ∈ T → i ∈ S ∨ a.heap.size ≤ i) : Upd S a c :=
  ⟨k.os.trans h.os, k.tape.trans h.tape, k.output.trans h.output, Nat.le_trans h.size k.size, fun i hi hn =>
    (k.block i (Nat.lt_of_lt_of_le hi h.size) (fun hm => by rcases hs i hm with h1 | h1; exact hn h1; omega)).trans (h.block i hi hn)⟩
theorem Upd.mono {S T : List Nat} {a b : World} (h : Upd S a b) (hs : ∀ i, i ∈ S → i ∈ T) : Upd T a b := ⟨h.os, h.tape, h.output, h.size, fun i hi hn => h.block i hi fun hm => hn (hs i hm)⟩
theorem Upd.drewN {S : List Nat} {a b : World} (h : Upd S a b) (n : Nat) : Upd S a (b.drewN n) := ⟨h.os, h.tape, h.output, h.size, h.block⟩
theorem Upd.drew {S : List Nat} {a b : World} (h : Upd S a b) : Upd S a b.drew := ⟨h.os, h.tape, h.output, h.size, h.block⟩
theorem Upd.alloc {S : List Nat} {a b : World} (h : Upd S a b) (o : Obj) : Upd S a (b.alloc o) :=
  h.transTo (T := []) ⟨rfl, rfl, rfl, by simp, fun k hk _ => Below.heap_alloc _ _ _ hk⟩ (by simp)
theorem Upd.setCell {S : List Nat} {a b : World} (h : Upd S a b) {p : Addr} (hp : p.block ∈ S ∨ a.heap.size ≤ p.block) (u : Value) : Upd S a (b.setCell p u) :=
  h.transTo (T := [p.block]) ⟨rfl, rfl, rfl, by simp [World.setCell], fun k _ hn => Below.heap_setCell _ _ _ _ (by simpa using hn)⟩ (by simpa using hp)
theorem Upd.grown {S : List Nat} {a b c : World} {row : Option Nat} (h : Upd S a b) (g : b.grownBy c row) (hp : ∀ k, row = some k → k ∈ S ∨ a.heap.size ≤ k) : Upd S a c :=
  ⟨g.os.trans h.os, g.tape.trans h.tape, g.output.trans h.output, Nat.le_trans h.size g.size, fun i hi hn =>
    (g.block i (Nat.lt_of_lt_of_le hi h.size) (fun e => by rcases hp i e.symm with h1 | h1; exact hn h1; omega)).trans (h.block i hi hn)⟩

theorem lt_of_heap {w : World} {b : Nat} {o : Obj} (h : w.heap[b]? = some o) : b < w.heap.size := (Array.getElem?_eq_some_iff.1 h).1
theorem Upd.keep {S : List Nat} {w w' : World} (h : Upd S w w') {b : Nat} {o : Obj} (hb : w.heap[b]? = some o) (hn : b ∉ S) : w'.heap[b]? = some o := by
  rw [h.block b (lt_of_heap hb) hn]; exact hb
theorem Upd.cell {S : List Nat} {w w' : World} (h : Upd S w w') {p : Addr} {v : Value} (hc : w.cell? p = some v) (hn : p.block ∉ S) : w'.cell? p = some v :=
  (World.cell?_of_block (h.block _ (World.block_lt_of_cell? w p hc) hn)).trans hc
theorem Upd.owns {S : List Nat} {w w' : World} (h : Upd S w w') {B : Nat} {e : TypeId} {sz n : Nat} {v : Value} {xs : List Value} (ho : w.ownsRow B e sz v n xs) (hn : ∀ g, v.ownBlock = some g → g ∉ S) : w'.ownsRow B e sz v n xs := by
  refine ⟨ho.1, ?_⟩
  rcases ho.2 with h0 | ⟨g, cap, cur, rfl, hb, hg, rest⟩
  · exact .inl h0
  · exact .inr ⟨g, cap, cur, rfl, hb, h.keep hg (hn g rfl), rest⟩
theorem Upd.below {S : List Nat} {w w' : World} (h : Upd S w w') {B : Nat} (hB : B ≤ w.heap.size) (hS : ∀ i, i ∈ S → B ≤ i) : Below B w w' :=
  ⟨h.os, h.tape, h.output, h.size, fun k hk => h.block k (by omega) fun hm => by have := hS k hm; omega⟩

/-- Two blocks of different element types are two blocks. -/
theorem ne_elem {w : World} {a b : Nat} {c1 c2 : Array Value} {t1 t2 : TypeId} {f1 f2 : Nat × Nat} (h1 : w.heap[a]? = some (.cells c1 t1 f1)) (h2 : w.heap[b]? = some (.cells c2 t2 f2)) (h : t1 ≠ t2) : a ≠ b := by
  intro e; subst e; rw [h1] at h2; simp at h2; exact h h2.2.1
/-- What an owned row's block is. -/
theorem owns_block {w : World} {B : Nat} {e : TypeId} {sz n : Nat} {v : Value} {xs : List Value} (ho : w.ownsRow B e sz v n xs) {g : Nat} (hg : v.ownBlock = some g) : ∃ cur, w.heap[g]? = some (.cells cur e (0, 0)) ∧ B ≤ g := by
  rcases ho.2 with ⟨rfl, _⟩ | ⟨g', cap, cur, rfl, hb, hh, _⟩
  · simp [Value.ownBlock] at hg
  · simp [Value.ownBlock] at hg; subst hg; exact ⟨cur, hh, hb⟩
theorem owns_ne {w : World} {B : Nat} {e : TypeId} {sz n : Nat} {v : Value} {xs : List Value} (ho : w.ownsRow B e sz v n xs) {b : Nat} {c : Array Value} {t : TypeId} {f : Nat × Nat} (hb : w.heap[b]? = some (.cells c t f)) (h : e ≠ t) : v.ownBlock ≠ some b := by
  intro hg
  obtain ⟨cur, hh, _⟩ := owns_block ho hg
  exact ne_elem hh hb h rfl
theorem cell_at {w : World} {b : Nat} {c : Array Value} {t : TypeId} {f : Nat × Nat} (h : w.heap[b]? = some (.cells c t f)) (i : Nat) : w.cell? ⟨b, i, none⟩ = c[i]? := by
  simp [World.cell?, h]
theorem free_at {w : World} {b : Nat} {c : Array Value} {t : TypeId} (h : w.heap[b]? = some (.cells c t (0, 0))) (i : Nat) : w.frozen? ⟨b, i, none⟩ = false := by
  simp [World.frozen?, h]
theorem set_at {w : World} {b : Nat} {c : Array Value} {t : TypeId} {f : Nat × Nat} (h : w.heap[b]? = some (.cells c t f)) (i : Nat) (v : Value) : (w.setCell ⟨b, i, none⟩ v).heap[b]? = some (.cells (c.setIfInBounds i v) t f) := by
  simp [World.setCell, Array.getElem?_modify, h]
theorem set_ne {w : World} {b : Nat} {a : Addr} {v : Value} (h : b ≠ a.block) : (w.setCell a v).heap[b]? = w.heap[b]? := Below.heap_setCell _ _ _ _ h
/-- The block that was laid last, under whatever spelling of its number. -/
theorem heap_last (w : World) (o : Obj) (k : Nat) (h : k = w.heap.size) : (w.alloc o).heap[k]? = some o := by subst h; exact heap_alloc_new w o
/-- An elder block behind a new one. -/
theorem heap_past {w : World} {b : Nat} {x : Obj} (h : w.heap[b]? = some x) (o : Obj) : (w.alloc o).heap[b]? = some x := by rw [Below.heap_alloc _ _ _ (lt_of_heap h)]; exact h
/-- An owned row, laid open. -/
theorem owns_open {w : World} {B : Nat} {e : TypeId} {sz n g cap : Nat} {xs : List Value} (ho : w.ownsRow B e sz (.slice (some ⟨g, 0, none⟩) n cap) n xs) :
    ∃ cur, w.heap[g]? = some (.cells cur e (0, 0)) ∧ cur.size = cap * sz ∧ n ≤ cap ∧ cap ≤ maxLen ∧ cur.toList.take (n * sz) = xs ∧ B ≤ g := by
  rcases ho.2 with ⟨h, _⟩ | ⟨g', c', cur, hv, hb, hh, h1, h2, h3, h4⟩
  · simp at h
  · simp only [Value.slice.injEq, Option.some.injEq, Addr.mk.injEq] at hv
    obtain ⟨⟨rfl, _⟩, _, rfl⟩ := hv
    exact ⟨cur, hh, h3, h1, h2, h4, hb⟩
/-- An owned value is a slice of its length. -/
theorem owns_slice {w : World} {B : Nat} {e : TypeId} {sz n : Nat} {v : Value} {xs : List Value} (ho : w.ownsRow B e sz v n xs) : ∃ a c, v = .slice a n c ∧ (a = none → n = 0 ∧ c = 0) := by
  rcases ho.2 with ⟨h, h0⟩ | ⟨g, c, cur, hv, _⟩
  · exact ⟨none, 0, by rw [h, h0], fun _ => ⟨h0, rfl⟩⟩
  · exact ⟨_, c, hv, fun h => by cases h⟩
/-- The slice cut to nothing owns nothing. -/
theorem owns_cut0 {w : World} {B : Nat} {e : TypeId} {sz n g cap : Nat} {xs : List Value} (ho : w.ownsRow B e sz (.slice (some ⟨g, 0, none⟩) n cap) n xs) : w.ownsRow B e sz (.slice (some ⟨g, 0, none⟩) 0 cap) 0 [] := by
  obtain ⟨cur, hh, hs, hn, hm, ht, hb⟩ := owns_open ho
  exact ⟨by simp, .inr ⟨g, cap, cur, rfl, hb, hh, Nat.zero_le _, hm, hs, by simp⟩⟩
/-- An owned row behind a store elsewhere. -/
theorem owns_set {w : World} {B : Nat} {e : TypeId} {sz n : Nat} {v : Value} {xs : List Value} (ho : w.ownsRow B e sz v n xs) {a : Addr} (hn : v.ownBlock ≠ some a.block) (u : Value) : (w.setCell a u).ownsRow B e sz v n xs := by
  refine ⟨ho.1, ?_⟩
  rcases ho.2 with h0 | ⟨g, cap, cur, rfl, hb, hg, rest⟩
  · exact .inl h0
  · exact .inr ⟨g, cap, cur, rfl, hb, by rw [set_ne (by intro e; subst e; exact hn rfl)]; exact hg, rest⟩

end Go.Proofs.Ybulkcspi
