/-
  A REGION THAT DRAWS ITS ORDER, WALKED IN THE TEXT's ORDER. Each operation gets a kind:
   0: it looks at no memory · 1: it reads memory, and what it reads is said by 'S' · 2: it changes the world, comes alone, and 'S' holds behind it ·
   3: it changes the world, comes alone, and every operation of kind 1 comes before it by an edge of its own; behind it S is not asked any more · 4: it looks at no memory, behind the first of kind 3.
  The kit's wpAnyH (Derived/OrdersHeld.lean) asks S behind EVERY operation; here the last writers ('x.f = append(x.f, ..)': the store) need not keep it.
-/
import Derived.OrdersHeld
import Derived.StillTail
namespace Go.Proofs.Ybulkcspi

section
variable {P : Program} {ops : Array Oper} {Q : Exit → Act → World → Prop} {md : Region.Mode} {S : World → Prop} {X : Nat → Bool}

def wpAnyX (P : Program) (md : Region.Mode) (ops : Array Oper) (Q : Exit → Act → World → Prop) (S : World → Prop) (X : Nat → Bool) : Nat → Array Bool → Act → World → Prop
  | 0, listed, a, w => Region.ready md ops listed = [] ∧ Q .normal a w
  | fuel + 1, listed, a, w =>
    (Region.ready md ops listed = [] → Q .normal a w) ∧
    ∀ i ∈ Region.ready md ops listed, wpOp P ops Q i (fun a' w' => (X i = false → S w') ∧ wpAnyX P md ops Q S X fuel (listed.setIfInBounds i true) a' w') a w

theorem wpAny_of_X : ∀ (fuel : Nat) (listed : Array Bool) (a : Act) (w : World), wpAnyX P md ops Q S X fuel listed a w → wpAny P md ops Q fuel listed a w
  | 0, _, _, _, h => h
  | fuel + 1, _, _, _, h => ⟨h.1, fun i hi => wpOp_mono (fun a' w' h' => wpAny_of_X fuel _ a' w' h'.2) (h.2 i hi)⟩

theorem unlisted_of {i : Nat} {listed : Array Bool} (hr : i ∈ Region.ready md ops listed) {oj : Oper} (hall : ∀ e ∈ oj.after, Region.binds md e = true → listed.getD e.on false = true) :
    ∀ e ∈ oj.after, Region.binds md e = true → e.on ≠ i := fun e he hb heq => by
  have h1 := hall e he hb
  have h0 := (mem_ready.1 hr).1
  rw [heq] at h1
  rcases Nat.lt_or_ge i listed.size with h' | h'
  · simp [h'] at h0 h1; rw [h0] at h1; cases h1
  · simp [Array.getElem?_eq_none h'] at h1

theorem free_step {i j : Nat} {oi : Oper} {listed : Array Bool} (hjun : listed.getD j true = false)
    (hfree : ∀ j oj, ops[j]? = some oj → j ≠ i → listed.getD j true = false → (∀ e ∈ oj.after, Region.binds md e = true → e.on ≠ i) → oi.apart ops oj = true) :
    ∀ k ok, ops[k]? = some ok → k ≠ i → (listed.setIfInBounds j true).getD k true = false → (∀ e ∈ ok.after, Region.binds md e = true → e.on ≠ i) → oi.apart ops ok = true := fun k ok hk hki hun hno => by
  refine hfree k ok hk hki ?_ hno
  by_cases hjk : j = k
  · subst hjk; exact hjun
  · rw [getD_set_ne true hjk] at hun; exact hun

/-- AN OPERATION THAT LOOKS AT NO MEMORY MAY BE TAKEN FIRST. -/
theorem wpAnyX_first {i : Nat} {oi : Oper} {v : Value} (hi : ops[i]? = some oi) (hsel : ∀ (j : Nat) (o : Oper) cs b, ops[j]? = some o → o.op ≠ .select cs b)
    (hQ : ∀ c a w, Q (.panic c) (a.put oi.dst v) w → Q (.panic c) a w) :
    ∀ (fuel : Nat) (listed : Array Bool) (a : Act) (w : World),
      (∀ j oj, ops[j]? = some oj → j ≠ i → listed.getD j true = false → (∀ e ∈ oj.after, Region.binds md e = true → e.on ≠ i) → oi.apart ops oj = true) →
      i ∈ Region.ready md ops listed → Yields P ops oi v a → (X i = false → S w) → (X i = false → ∀ j oj, ops[j]? = some oj → X j = true → ∀ l : Array Bool, i ∈ Region.ready md ops l → j ∉ Region.ready md ops l) →
      wpAnyX P md ops Q S X fuel (listed.setIfInBounds i true) (a.put oi.dst v) w → wpAnyX P md ops Q S X (fuel + 1) listed a w := by
  intro fuel
  induction fuel with
  | zero =>
    intro listed a w _ hr hy hS _ H
    refine ⟨fun h => (by rw [h] at hr; cases hr), fun j hj => ?_⟩
    by_cases hji : j = i
    · subst hji; exact hy.wpOp hi ⟨hS, H⟩
    · have := ready_mono hj hji
      rw [H.1] at this
      cases this
  | succ fuel ih =>
    intro listed a w hfree hr hy hS hX H
    refine ⟨fun h => (by rw [h] at hr; cases hr), fun j hj => ?_⟩
    by_cases hji : j = i
    · subst hji; exact hy.wpOp hi ⟨hS, H⟩
    · have h1 := H.2 j (ready_mono hj hji)
      obtain ⟨hjun, oj, hoj, hall⟩ := mem_ready.1 hj
      have h2 := wpOp_put hoj (hfree j oj hoj hji hjun (unlisted_of hr hall)) (fun cs b => hsel i oi cs b hi) (fun cs b => hsel j oj cs b hoj) hQ hy h1
      refine wpOp_mono (fun a' w' h3 => ⟨h3.2.1, ih (listed.setIfInBounds j true) a' w' (free_step hjun hfree) (ready_mono hr (Ne.symm hji)) h3.1 (fun hxi => ?_) hX ?_⟩) h2
      · refine h3.2.1 ?_
        cases hxj : X j with
        | false => rfl
        | true => exact absurd hj (hX hxi j oj hoj hxj listed hr)
      · rw [Array.setIfInBounds_comm _ _ hji]
        exact h3.2.2

/-- ONE THAT READS WHAT 'S' SAYS MAY BE TAKEN FIRST, where every operation that need not keep S waits for it. -/
theorem wpAnyX_firstS {i : Nat} {oi : Oper} {v : Value} (hi : ops[i]? = some oi) (hsel : ∀ (j : Nat) (o : Oper) cs b, ops[j]? = some o → o.op ≠ .select cs b)
    (hQ : ∀ c a w, Q (.panic c) (a.put oi.dst v) w → Q (.panic c) a w) (hX : ∀ j oj, ops[j]? = some oj → X j = true → ∀ l : Array Bool, i ∈ Region.ready md ops l → j ∉ Region.ready md ops l) :
    ∀ (fuel : Nat) (listed : Array Bool) (a : Act) (w : World),
      (∀ j oj, ops[j]? = some oj → j ≠ i → listed.getD j true = false → (∀ e ∈ oj.after, Region.binds md e = true → e.on ≠ i) → oi.apart ops oj = true) →
      i ∈ Region.ready md ops listed → YieldsIf P ops S oi v a → S w →
      wpAnyX P md ops Q S X fuel (listed.setIfInBounds i true) (a.put oi.dst v) w → wpAnyX P md ops Q S X (fuel + 1) listed a w := by
  intro fuel
  induction fuel with
  | zero =>
    intro listed a w _ hr hy hS H
    refine ⟨fun h => (by rw [h] at hr; cases hr), fun j hj => ?_⟩
    by_cases hji : j = i
    · subst hji; exact hy.wpOp hi hS ⟨fun _ => hS, H⟩
    · have := ready_mono hj hji
      rw [H.1] at this
      cases this
  | succ fuel ih =>
    intro listed a w hfree hr hy hS H
    refine ⟨fun h => (by rw [h] at hr; cases hr), fun j hj => ?_⟩
    by_cases hji : j = i
    · subst hji; exact hy.wpOp hi hS ⟨fun _ => hS, H⟩
    · have h1 := H.2 j (ready_mono hj hji)
      obtain ⟨hjun, oj, hoj, hall⟩ := mem_ready.1 hj
      have hxj : X j = false := by
        cases hxj : X j with
        | false => rfl
        | true => exact absurd hj (hX j oj hoj hxj listed hr)
      have h2 := wpOp_putIf hoj (hfree j oj hoj hji hjun (unlisted_of hr hall)) (fun cs b => hsel i oi cs b hi) (fun cs b => hsel j oj cs b hoj) hQ hy h1
      refine wpOp_mono (fun a' w' h3 => ⟨h3.2.1, ih (listed.setIfInBounds j true) a' w' (free_step hjun hfree) (ready_mono hr (Ne.symm hji)) h3.1 (h3.2.1 hxj) ?_⟩) h2
      rw [Array.setIfInBounds_comm _ _ hji]
      exact h3.2.2

/-- Every operation that need not keep S waits for number i. -/
def waitX (md : Region.Mode) (ops : Array Oper) (X : Nat → Bool) (i : Nat) : Bool := (List.range ops.size).all fun j => !X j || Region.waitsFor md ops j i

theorem waitX_spec {i : Nat} (h : waitX md ops X i = true) : ∀ j oj, ops[j]? = some oj → X j = true → ∀ l : Array Bool, i ∈ Region.ready md ops l → j ∉ Region.ready md ops l := by
  intro j oj hj hx l hi hjr
  have h1 := List.all_eq_true.1 h j (List.mem_range.2 (Array.getElem?_eq_some_iff.1 hj).1)
  simp only [hx, Bool.not_true, Bool.false_or] at h1
  obtain ⟨oj', hj', e, he, hb, hon⟩ := Region.waitsFor_spec h1
  obtain rfl : oj' = oj := Option.some.inj (hj'.symm.trans hj)
  obtain ⟨_, ok, hok, hall⟩ := mem_ready.1 hjr
  obtain rfl : ok = oj' := Option.some.inj (hok.symm.trans hj)
  exact unlisted_of hi hall e he hb hon

/-- The text's order, kind by kind. -/
def wpLex (P : Program) (ops : Array Oper) (Q : Exit → Act → World → Prop) (S : World → Prop) : List (Oper × Nat) → Act → World → Prop
  | [], a, w => Q .normal a w
  | (o, 0) :: rest, a, w => ∃ v, Yields P ops o v a ∧ wpLex P ops Q S rest (a.put o.dst v) w
  | (o, 1) :: rest, a, w => ∃ v, YieldsIf P ops S o v a ∧ wpLex P ops Q S rest (a.put o.dst v) w
  | (o, 2) :: rest, a, w => if Region.wanted o (yielded ops a.tmps) then o.wp P a w (fun a' w' => S w' ∧ wpLex P ops Q S rest a' w') Q else S w ∧ wpLex P ops Q S rest (a.put o.dst undef) w
  | (o, 3) :: rest, a, w => if Region.wanted o (yielded ops a.tmps) then o.wp P a w (wpLex P ops Q S rest) Q else wpLex P ops Q S rest (a.put o.dst undef) w
  | (o, _) :: rest, a, w => ∃ v, Yields P ops o v a ∧ wpLex P ops Q S rest (a.put o.dst v) w

/-- The kinds fit the region's edges: from number k on. 'late': S is gone. -/
def lexX (md : Region.Mode) (ops : Array Oper) (X : Nat → Bool) : List Nat → Nat → Bool → Array Bool → Bool
  | [], _, _, listed => (Region.ready md ops listed).isEmpty
  | 0 :: rest, k, late, listed => !late && !X k && (Region.ready md ops listed).contains k && Region.free md ops listed k && waitX md ops X k && lexX md ops X rest (k + 1) late (listed.setIfInBounds k true)
  | 1 :: rest, k, late, listed => !late && !X k && (Region.ready md ops listed).contains k && Region.free md ops listed k && waitX md ops X k && lexX md ops X rest (k + 1) late (listed.setIfInBounds k true)
  | 2 :: rest, k, late, listed => !late && !X k && Region.ready md ops listed == [k] && lexX md ops X rest (k + 1) late (listed.setIfInBounds k true)
  | 3 :: rest, k, _, listed => X k && Region.ready md ops listed == [k] && lexX md ops X rest (k + 1) true (listed.setIfInBounds k true)
  | _ :: rest, k, late, listed => X k && (Region.ready md ops listed).contains k && Region.free md ops listed k && lexX md ops X rest (k + 1) late (listed.setIfInBounds k true)

theorem wpOp_one {i : Nat} {o : Oper} {a : Act} {w : World} {K : Act → World → Prop} (ho : ops[i]? = some o) (h : if Region.wanted o (yielded ops a.tmps) then o.wp P a w K Q else K (a.put o.dst undef) w) : wpOp P ops Q i K a w := by
  unfold wpOp
  simp only [ho]
  split
  · rename_i hw; rw [if_pos hw] at h; exact .inl h
  · rename_i hw; rw [if_neg hw] at h; exact h

theorem wpAnyX_lex (hs : Region.noSelect ops = true) (hQ : ∀ c a d v w, Q (.panic c) (Act.put a d v) w → Q (.panic c) a w) : ∀ (l : List (Oper × Nat)) (k : Nat) (late : Bool) (listed : Array Bool) (a : Act) (w : World), (∀ j, (l.map (·.1))[j]? = ops[k + j]?) →
    lexX md ops X (l.map (·.2)) k late listed = true → (late = false → S w) → wpLex P ops Q S l a w → wpAnyX P md ops Q S X l.length listed a w
  | [], _, _, _, _, _, _, hB, _, h => ⟨by simpa [lexX] using hB, h⟩
  | (o, κ) :: l, k, late, listed, a, w, hl, hB, hS, h => by
    have h0 : ops[k]? = some o := by simpa using (hl 0).symm
    have hl' : ∀ j, (l.map (·.1))[j]? = ops[k + 1 + j]? := fun j => by have := hl (j + 1); simpa [Nat.add_assoc, Nat.add_comm 1 j] using this
    simp only [List.map_cons] at hB
    match κ, hB, h with
    | 0, hB, h =>
      simp only [lexX, Bool.and_eq_true, Bool.not_eq_true'] at hB
      obtain ⟨⟨⟨⟨⟨hla, hx⟩, hr⟩, hf⟩, hw⟩, hB'⟩ := hB
      obtain ⟨v, hy, hn⟩ := h
      exact wpAnyX_first h0 (Region.noSelect_spec hs) (fun c a w => hQ c a _ _ w) l.length listed a w (Region.free_spec h0 hf) (by simpa using hr) hy (fun _ => hS hla) (fun _ => waitX_spec hw)
        (wpAnyX_lex hs hQ l (k + 1) late _ _ w hl' hB' hS hn)
    | 1, hB, h =>
      simp only [lexX, Bool.and_eq_true, Bool.not_eq_true'] at hB
      obtain ⟨⟨⟨⟨⟨hla, hx⟩, hr⟩, hf⟩, hw⟩, hB'⟩ := hB
      obtain ⟨v, hy, hn⟩ := h
      exact wpAnyX_firstS h0 (Region.noSelect_spec hs) (fun c a w => hQ c a _ _ w) (waitX_spec hw) l.length listed a w (Region.free_spec h0 hf) (by simpa using hr) hy (hS hla)
        (wpAnyX_lex hs hQ l (k + 1) late _ _ w hl' hB' hS hn)
    | 2, hB, h =>
      simp only [lexX, Bool.and_eq_true, Bool.not_eq_true', beq_iff_eq] at hB
      obtain ⟨⟨⟨hla, hx⟩, hr⟩, hB'⟩ := hB
      refine ⟨fun hn => absurd (hr.symm.trans hn) (by simp), fun j hj => ?_⟩
      rw [hr] at hj
      obtain rfl : j = k := by simpa using hj
      refine wpOp_mono (fun a' w' h3 => ⟨fun _ => h3.1, wpAnyX_lex hs hQ l (j + 1) late _ a' w' hl' hB' (fun _ => h3.1) h3.2⟩) (wpOp_one (K := fun a' w' => S w' ∧ wpLex P ops Q S l a' w') h0 h)
    | 3, hB, h =>
      simp only [lexX, Bool.and_eq_true, beq_iff_eq] at hB
      obtain ⟨⟨hx, hr⟩, hB'⟩ := hB
      refine ⟨fun hn => absurd (hr.symm.trans hn) (by simp), fun j hj => ?_⟩
      rw [hr] at hj
      obtain rfl : j = k := by simpa using hj
      refine wpOp_mono (fun a' w' h3 => ⟨(fun hx' => by rw [hx] at hx'; cases hx'), wpAnyX_lex hs hQ l (j + 1) true _ a' w' hl' hB' (fun hc => by cases hc) h3⟩) (wpOp_one (K := wpLex P ops Q S l) h0 h)
    | κ + 4, hB, h =>
      simp only [lexX, Bool.and_eq_true] at hB
      obtain ⟨⟨⟨hx, hr⟩, hf⟩, hB'⟩ := hB
      obtain ⟨v, hy, hn⟩ := h
      exact wpAnyX_first h0 (Region.noSelect_spec hs) (fun c a w => hQ c a _ _ w) l.length listed a w (Region.free_spec h0 hf) (by simpa using hr) hy (fun hx' => by rw [hx] at hx'; cases hx') (fun hx' => by rw [hx] at hx'; cases hx')
        (wpAnyX_lex hs hQ l (k + 1) late _ _ w hl' hB' hS hn)

def exempt (kinds : List Nat) (k : Nat) : Bool := decide (3 ≤ kinds.getD k 0)
def lexOk (ops : List Oper) (kinds : List Nat) : Bool := Region.noSelect ops.toArray && decide (ops.length = kinds.length) && lexX .any ops.toArray (exempt kinds) kinds 0 false (Array.replicate ops.length false)

/-- THE REGION. -/
theorem wp_region_lex {id : Nat} {a : Act} {w : World} {l : List Oper} (kinds : List Nat) (S : World → Prop) (hm : P.follows .mixedOrders = true) (hB : lexOk l kinds = true) (hQ0 : ∀ c a (d : Tmp) v w, Q (.panic c) (Act.put a (some d) v) w → Q (.panic c) a w)
    (hS : S w.drew) (h : wpLex P l.toArray Q S (l.zip kinds) a w.drew) : (Code.region id l.toArray true).wp P Q a w := by
  simp only [lexOk, Bool.and_eq_true, decide_eq_true_eq] at hB
  obtain ⟨⟨hs, hlen⟩, hB⟩ := hB
  have hQ : ∀ c a d v w, Q (.panic c) (Act.put a d v) w → Q (.panic c) a w := fun c a d v w h => by
    cases d with
    | none => exact h
    | some d => exact hQ0 c a d v w h
  have e1 : (l.zip kinds).map (·.1) = l := List.map_fst_zip (by omega)
  have e2 : (l.zip kinds).map (·.2) = kinds := List.map_snd_zip (by omega)
  have e3 : (l.zip kinds).length = l.length := by simp [hlen]
  have := wpAnyX_lex (md := .any) (X := exempt kinds) (S := S) (P := P) hs hQ (l.zip kinds) 0 false (Array.replicate l.length false) a w.drew (fun j => by rw [e1]; simp) (by rw [e2]; exact hB) (fun _ => hS) h
  rw [e3] at this
  exact wp_region_any hm (wpAny_of_X _ _ _ _ (by simpa using this))

/-! The steps. -/
theorem lex0 {o : Oper} {rest : List (Oper × Nat)} {a : Act} {w : World} (v : Value) (hw : Region.wanted o (yielded ops a.tmps) = true) (hy : ∀ w', (execOp a.eval o).run P w' = .ok (.value v) w')
    (h : wpLex P ops Q S rest (a.put o.dst v) w) : wpLex P ops Q S ((o, 0) :: rest) a w := ⟨v, .inl ⟨hw, hy⟩, h⟩
theorem lex0s {o : Oper} {rest : List (Oper × Nat)} {a : Act} {w : World} (hw : Region.wanted o (yielded ops a.tmps) = false)
    (h : wpLex P ops Q S rest (a.put o.dst undef) w) : wpLex P ops Q S ((o, 0) :: rest) a w := ⟨undef, .inr ⟨hw, rfl⟩, h⟩
theorem lex4 {o : Oper} {rest : List (Oper × Nat)} {a : Act} {w : World} (v : Value) (hw : Region.wanted o (yielded ops a.tmps) = true) (hy : ∀ w', (execOp a.eval o).run P w' = .ok (.value v) w')
    (h : wpLex P ops Q S rest (a.put o.dst v) w) : wpLex P ops Q S ((o, 4) :: rest) a w := ⟨v, .inl ⟨hw, hy⟩, h⟩
theorem lex1 {o : Oper} {rest : List (Oper × Nat)} {a : Act} {w : World} (v : Value) (hw : Region.wanted o (yielded ops a.tmps) = true) (hy : ∀ w', S w' → (execOp a.eval o).run P w' = .ok (.value v) w')
    (h : wpLex P ops Q S rest (a.put o.dst v) w) : wpLex P ops Q S ((o, 1) :: rest) a w := ⟨v, .inl ⟨hw, hy⟩, h⟩
theorem lex1s {o : Oper} {rest : List (Oper × Nat)} {a : Act} {w : World} (hw : Region.wanted o (yielded ops a.tmps) = false)
    (h : wpLex P ops Q S rest (a.put o.dst undef) w) : wpLex P ops Q S ((o, 1) :: rest) a w := ⟨undef, .inr ⟨hw, rfl⟩, h⟩
theorem lex2 {o : Oper} {rest : List (Oper × Nat)} {a : Act} {w : World} (h : ∀ K : Act → World → Prop, (∀ a' w', S w' → wpLex P ops Q S rest a' w' → K a' w') → if Region.wanted o (yielded ops a.tmps) = true then o.wp P a w K Q else K (a.put o.dst undef) w) :
    wpLex P ops Q S ((o, 2) :: rest) a w := h (fun a' w' => S w' ∧ wpLex P ops Q S rest a' w') (fun _ _ h1 h2 => ⟨h1, h2⟩)
theorem lex3 {o : Oper} {rest : List (Oper × Nat)} {a : Act} {w : World} (h : ∀ K : Act → World → Prop, (∀ a' w', wpLex P ops Q S rest a' w' → K a' w') → if Region.wanted o (yielded ops a.tmps) = true then o.wp P a w K Q else K (a.put o.dst undef) w) :
    wpLex P ops Q S ((o, 3) :: rest) a w := h (wpLex P ops Q S rest) (fun _ _ h2 => h2)
theorem lexE {a : Act} {w : World} (h : Q .normal a w) : wpLex P ops Q S [] a w := h
end
end Go.Proofs.Ybulkcspi
