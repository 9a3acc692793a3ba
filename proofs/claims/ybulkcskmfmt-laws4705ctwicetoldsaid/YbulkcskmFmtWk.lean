/-
  WALKS, ELEVENTH PART: one wish, from any state of a lone node (f ≥ 1): the highest wish is the greater of the two.
-/
import Derived.Test.YbulkcskmFmtWj
namespace Go.Proofs.YbulkcskmFmt
open Go.RowKit Go.Lib
attribute [local go_sem ↓] Go.wp_at_zero Go.wp_at_succ

/-- The levels: none, where no view was wished above 0; else one, with one wish, the node's own. -/
def Lv (B me gs : Nat) (top : Int) (lv : Value) (w : World) : Prop :=
  (top = 0 ∧ lv = .slice none 0 0) ∨
  (0 < top ∧ ∃ lb lc wb wc, lv = .slice (some ⟨lb, 0, none⟩) 1 lc ∧ w.ownsRow B 55 2 (.slice (some ⟨lb, 0, none⟩) 1 lc) 1 [.int .u64 top, .slice (some ⟨wb, 0, none⟩) 1 wc] ∧
    w.ownsRow B 57 2 (.slice (some ⟨wb, 0, none⟩) 1 wc) 1 [.int .i64 me, .slice (some ⟨gs, 0, none⟩) 3 3])

/-- The node. K: blocks of bytes that the payload's buffer is none of. -/
structure Nd (B hb gb sb gh me nn : Nat) (tag f top : Int) (k m gs : Nat) (xs ps : List Value) (K : List Nat) (w : World) (pv sends pays lv : Value) (L : Nat) (bs : List Value) (harr : Array Value) : Prop where
  s : w.heap[sb]? = some (.cells (sCells hb gb pv me nn f 0 (.slice (some ⟨gh, 0, none⟩) nn nn) lv) 51 (0,0))
  g : w.heap[gb]? = some (.cells #[.int .u8 tag, pays, .int .i64 0] 33 (0,0))
  h : w.heap[hb]? = some (.cells #[sends, .slice none 0 0, .int .i64 0, .int .i64 0] 29 (0,0))
  pay : w.ownsRow B 5 1 pv L bs
  pays : w.ownsRow B 39 1 pays m ps
  sent : w.ownsRow B 71 7 sends k xs
  hi : w.heap[gh]? = some (.cells harr 37 (0,0))
  his : harr.size = nn
  hit : harr[me]? = some (.int .u64 top)
  lvl : Lv B me gs top lv w
  keeps : ∀ b, b ∈ K → b < w.heap.size ∧ pv.ownBlock ≠ some b

/-- What 'hold' does. -/
def Held (B hb gb sb gh me nn : Nat) (f top : Int) (gs : Nat) (w3 w4 : World) (pg pc : Nat) : Prop :=
  ∃ (lv : Value) (harr : Array Value) (T : List Nat), w4.heap[sb]? = some (.cells (sCells hb gb (.slice (some ⟨pg, 0, none⟩) 35 pc) me nn f 0 (.slice (some ⟨gh, 0, none⟩) nn nn) lv) 51 (0,0)) ∧
    w4.heap[gh]? = some (.cells harr 37 (0,0)) ∧ harr.size = nn ∧ harr[me]? = some (.int .u64 top) ∧ Lv B me gs top lv w4 ∧ Upd T w3 w4 ∧
    (∀ (b : Nat) (c : Array Value) (ty : TypeId) (fr : Nat × Nat), w3.heap[b]? = some (.cells c ty fr) → ty ≠ 51 → ty ≠ 37 → ty ≠ 55 → ty ≠ 57 → b ∉ T) ∧ (∀ b, b ∈ T → B ≤ b)

theorem Lv.keep {B me gs : Nat} {top : Int} {lv : Value} {w w' : World} (h : Lv B me gs top lv w) {S : List Nat} (hu : Upd S w w') (hS : ∀ (b : Nat) (c : Array Value) (ty : TypeId) (fr : Nat × Nat), w.heap[b]? = some (.cells c ty fr) → ty = 55 ∨ ty = 57 → b ∉ S) : Lv B me gs top lv w' := by
  rcases h with h | ⟨h0, lb, lc, wb, wc, rfl, h1, h2⟩
  · exact .inl h
  · refine .inr ⟨h0, lb, lc, wb, wc, rfl, hu.owns h1 ?_, hu.owns h2 ?_⟩
    · intro g hg
      obtain ⟨c, hc, _⟩ := owns_block h1 hg
      exact hS g c 55 _ hc (.inl rfl)
    · intro g hg
      obtain ⟨c, hc, _⟩ := owns_block h2 hg
      exact hS g c 57 _ hc (.inr rfl)

theorem held_any (B hb gb sb gh me nn : Nat) (f top V : Int) (gs gg : Nat) (w3 : World) (pg pc : Nat) (lv : Value) (harr : Array Value) (hB : B ≤ w3.heap.size) (hf1 : 1 ≤ f) (hf2 : f ≤ 1000) (hV : 0 ≤ V) (hmn : me < nn) (hsb : B ≤ sb) (hgh : B ≤ gh) (ht : 0 ≤ top)
    (hs : w3.heap[sb]? = some (.cells (sCells hb gb (.slice (some ⟨pg, 0, none⟩) 35 pc) me nn f 0 (.slice (some ⟨gh, 0, none⟩) nn nn) lv) 51 (0,0)))
    (hh : w3.heap[gh]? = some (.cells harr 37 (0,0))) (hhs : harr.size = nn) (hht : harr[me]? = some (.int .u64 top)) (hl : Lv B me gs top lv w3) :
    Calls Ybaf.prog 14 #[.pointer (some ⟨sb, 0, none⟩), .int .u64 V, .agg #[.int .i64 me, .slice (some ⟨gg, 0, none⟩) 3 3]] w3
      fun e w4 => e = .returned (.tuple #[]) ∧ Held B hb gb sb gh me nn f (if top < V then V else top) (if top < V then gg else gs) w3 w4 pg pc := by
  by_cases hc : top < V
  · simp only [if_pos hc]
    have hset : (harr.setIfInBounds me (.int .u64 V))[me]? = some (.int .u64 V) := Array.getElem?_setIfInBounds_self_of_lt (by rw [hhs]; exact hmn)
    rcases hl with ⟨h0, rfl⟩ | ⟨h0, lb0, lc0, wb0, wc0, rfl, hl1, hl2⟩
    · subst h0
      refine (hold_first B hb gb sb gh nn nn me 3 3 nn f 0 V (some ⟨gg, 0, none⟩) w3 _ (.slice none 0 0) harr hB hs hh hmn hht hc (World.ownsRow_nil _ _ _ _) hf1 hf2).mono ?_
      rintro e w4 ⟨rfl, lb, lc, wb, wc, a1, a2, a3, a4, a5, a6, a7⟩
      refine ⟨rfl, _, _, [sb, gh], a1, a2, by simp [hhs], hset, .inr ⟨hc, lb, lc, wb, wc, rfl, a3, a4⟩, a5, ?_, ?_⟩
      · intro b c ty fr hb1 t1 t2 _ _
        simp
        exact ⟨ne_elem hb1 hs t1, ne_elem hb1 hh t2⟩
      · intro b hb1
        simp at hb1
        rcases hb1 with rfl | rfl
        · exact hsb
        · exact hgh
    · refine (hold_again B hb gb sb gh nn nn me 3 3 lb0 lc0 wb0 wc0 3 3 nn f 0 V top (some ⟨gg, 0, none⟩) _ w3 _ harr hB hs hh hmn hht hc hl1 hl2 hf1 hf2).mono ?_
      rintro e w4 ⟨rfl, lb, lc, wb, wc, a1, a2, a3, a4, a5, a6, a7⟩
      obtain ⟨lc1, lh, lB⟩ := owns_block hl1 (g := lb0) rfl
      obtain ⟨wc1, wh, wB⟩ := owns_block hl2 (g := wb0) rfl
      refine ⟨rfl, _, _, [sb, gh, lb0, wb0], a1, a2, by simp [hhs], hset, .inr ⟨by omega, lb, lc, wb, wc, rfl, a3, a4⟩, a5, ?_, ?_⟩
      · intro b c ty fr hb1 t1 t2 t3 t4
        simp
        exact ⟨ne_elem hb1 hs t1, ne_elem hb1 hh t2, ne_elem hb1 lh t3, ne_elem hb1 wh t4⟩
      · intro b hb1
        simp at hb1
        rcases hb1 with rfl | rfl | rfl | rfl
        · exact hsb
        · exact hgh
        · exact lB
        · exact wB
  · simp only [if_neg hc]
    refine (hold_stale hb gb sb gh nn nn me 3 3 nn f 0 V top (some ⟨gg, 0, none⟩) w3 _ lv harr hs hh hmn hht (by omega)).mono ?_
    rintro e w4 ⟨rfl, hu⟩
    exact ⟨rfl, lv, harr, [], hu.keep hs (by simp), hu.keep hh (by simp), hhs, hht, hl.keep hu (by simp), hu, by simp, by simp⟩

set_option maxRecDepth 100000 in
set_option maxHeartbeats 1000000 in
theorem wish_top (B hb gb sb gh me nn : Nat) (tag f top V : Int) (k m gs : Nat) (xs ps : List Value) (K : List Nat) (w : World) (pv sends pays lv : Value) (L : Nat) (bs : List Value) (harr : Array Value)
    (H : Nd B hb gb sb gh me nn tag f top k m gs xs ps K w pv sends pays lv L bs harr) (hB : B ≤ w.heap.size) (hBs : B ≤ sb) (hBg : B ≤ gb) (hBh : B ≤ hb) (hBi : B ≤ gh) (hf1 : 1 ≤ f) (hf2 : f ≤ 1000) (hV : 0 ≤ V) (hV2 : V ≤ 18446744073709551615) (ht : 0 ≤ top) (hmn : me < nn) (hnn : nn ≤ 512) (hm : m ≤ 100) (hk : k ≤ 1000) :
    Calls Ybaf.prog 6 #[.pointer (some ⟨sb, 0, none⟩), .int .u64 V] w
      fun e w' => e = .returned (.tuple #[]) ∧ ∃ (gg cb : Nat) (pv' sends' pays' lv' : Value) (bs' : List Value) (harr' : Array Value),
        Nd B hb gb sb gh me nn tag f (if top < V then V else top) (k + (others me nn).length) (m + 1) (if top < V then gg else gs) (xs ++ sentTo me V (.slice (some ⟨gg, 0, none⟩) 3 3) nn) (ps ++ [.slice (some ⟨cb, 0, none⟩) 35 35]) (cb :: gg :: K) w' pv' sends' pays' lv' 35 bs' harr' ∧
        w'.heap[cb]? = some (.cells (payCells V).toArray 5 (0,0)) ∧ w'.heap[gg]? = some (.cells #[.int .u8 tag, .int .u8 35, .int .u8 m] 5 (0,0)) ∧
        (∀ b, b ∈ K → ∀ c, w.heap[b]? = some (.cells c 5 (0,0)) → w'.heap[b]? = some (.cells c 5 (0,0))) ∧ Below B w w' := by
  have frame : ∀ (w3 : World), Upd (sb :: gb :: hb :: (pv.ownBlock.toList ++ pays.ownBlock.toList ++ sends.ownBlock.toList)) w w3 → ∀ (b : Nat) (c : Array Value) (ty : TypeId) (fr : Nat × Nat), w.heap[b]? = some (.cells c ty fr) → ty ≠ 51 → ty ≠ 33 → ty ≠ 29 → ty ≠ 39 → ty ≠ 71 → (ty = 5 → pv.ownBlock ≠ some b) → b ∉ (sb :: gb :: hb :: (pv.ownBlock.toList ++ pays.ownBlock.toList ++ sends.ownBlock.toList)) := by
    intro w3 _ b c ty fr hb1 t1 t2 t3 t4 t5 t6
    simp only [List.mem_cons, List.mem_append, Option.mem_toList, not_or]
    refine ⟨ne_elem hb1 H.s t1, ne_elem hb1 H.g t2, ne_elem hb1 H.h t3, ⟨?_, ?_⟩, ?_⟩
    · intro h
      by_cases h5 : ty = 5
      · exact t6 h5 h
      · exact owns_ne H.pay hb1 (fun e => h5 e.symm) h
    · intro h
      exact owns_ne H.pays hb1 (fun e => t4 e.symm) h
    · intro h
      exact owns_ne H.sent hb1 (fun e => t5 e.symm) h
  refine (wish_any B hb gb sb gh me nn k m L tag V f 0 w pv sends (.slice none 0 0) (.int .i64 0) (.int .i64 0) (.slice (some ⟨gh, 0, none⟩) nn nn) lv pays (.int .i64 0) xs ps bs hB hV hV2 H.s H.g H.h H.pay H.pays hm H.sent hk (by omega)
    (fun w3 w4 gg pg pc _ => Held B hb gb sb gh me nn f (if top < V then V else top) (if top < V then gg else gs) w3 w4 pg pc) (fun w3 gg cb pg pc sends' pays' hW => ?_)).mono ?_
  · exact held_any B hb gb sb gh me nn f top V gs gg w3 pg pc lv harr (by have := hW.f_upd.size; omega) hf1 hf2 hV hmn hBs hBi ht hW.f_s (hW.f_upd.keep H.hi (frame w3 hW.f_upd _ _ _ _ H.hi (by decide) (by decide) (by decide) (by decide) (by decide) (fun h => absurd h (by decide)))) H.his H.hit
      (H.lvl.keep hW.f_upd (fun b c ty fr hb1 hty => frame w3 hW.f_upd b c ty fr hb1 (by rcases hty with rfl | rfl <;> decide) (by rcases hty with rfl | rfl <;> decide) (by rcases hty with rfl | rfl <;> decide) (by rcases hty with rfl | rfl <;> decide) (by rcases hty with rfl | rfl <;> decide) (fun h => by rcases hty with rfl | rfl <;> exact absurd h (by decide))))
  · rintro e w4 ⟨rfl, w3, gg, cb, pg, pc, sends', pays', hW, lv', harr', T, b1, b2, b3, b4, b5, b6, b7, b8⟩
    have hcopy : w4.heap[cb]? = some (.cells (payCells V).toArray 5 (0,0)) := b6.keep hW.f_copy (b7 _ _ _ _ hW.f_copy (by decide) (by decide) (by decide) (by decide))
    have hsig : w4.heap[gg]? = some (.cells #[.int .u8 tag, .int .u8 35, .int .u8 m] 5 (0,0)) := b6.keep hW.f_sig (b7 _ _ _ _ hW.f_sig (by decide) (by decide) (by decide) (by decide))
    have own4 : ∀ {e : TypeId} {sz n : Nat} {v : Value} {ys : List Value}, w3.ownsRow B e sz v n ys → e ≠ 51 → e ≠ 37 → e ≠ 55 → e ≠ 57 → w4.ownsRow B e sz v n ys := by
      intro e sz n v ys ho t1 t2 t3 t4
      refine b6.owns ho ?_
      intro g hg
      obtain ⟨c, hc, _⟩ := owns_block ho hg
      exact b7 _ _ _ _ hc t1 t2 t3 t4
    refine ⟨rfl, gg, cb, .slice (some ⟨pg, 0, none⟩) 35 pc, sends', pays', lv', payCells V, harr', ⟨b1, b6.keep hW.f_g (b7 _ _ _ _ hW.f_g (by decide) (by decide) (by decide) (by decide)), b6.keep hW.f_h (b7 _ _ _ _ hW.f_h (by decide) (by decide) (by decide) (by decide)), own4 hW.f_pay (by decide) (by decide) (by decide) (by decide), own4 hW.f_pays (by decide) (by decide) (by decide) (by decide), own4 hW.f_sent (by decide) (by decide) (by decide) (by decide), b2, b3, b4, b5, ?_⟩, hcopy, hsig, ?_, ?_⟩
    · intro b hb1
      have q1 := lt_of_heap hcopy
      have q2 := lt_of_heap hsig
      have q3 := hW.f_pgcb
      have q4 := hW.f_cbgg
      have q5 := hW.f_upd.size
      have q6 := b6.size
      simp only [List.mem_cons] at hb1
      simp only [Value.ownBlock, ne_eq, Option.some.injEq]
      rcases hb1 with rfl | rfl | hb1
      · exact ⟨q1, by omega⟩
      · exact ⟨q2, by omega⟩
      · obtain ⟨r1, r2⟩ := H.keeps b hb1
        refine ⟨by omega, ?_⟩
        rintro rfl
        rcases hW.f_pgA with h | h
        · exact r2 h
        · omega
    · intro b hb1 c hc
      have h3 := hW.f_upd.keep hc (frame w3 hW.f_upd _ _ _ _ hc (by decide) (by decide) (by decide) (by decide) (by decide) (fun _ => (H.keeps b hb1).2))
      exact b6.keep h3 (b7 _ _ _ _ h3 (by decide) (by decide) (by decide) (by decide))
    · refine Upd.below (S := (sb :: gb :: hb :: (pv.ownBlock.toList ++ pays.ownBlock.toList ++ sends.ownBlock.toList)) ++ T) ((hW.f_upd.mono (fun i hi => List.mem_append_left _ hi)).transTo b6 (fun i hi => .inl (List.mem_append_right _ hi))) hB ?_
      intro i hi
      simp only [List.mem_append, List.mem_cons, Option.mem_toList] at hi
      rcases hi with (rfl | rfl | rfl | (hi | hi) | hi) | hi
      · exact hBs
      · exact hBg
      · exact hBh
      · exact (owns_block H.pay hi).choose_spec.2
      · exact (owns_block H.pays hi).choose_spec.2
      · exact (owns_block H.sent hi).choose_spec.2
      · exact b8 i hi

end Go.Proofs.YbulkcskmFmt
