/-
  THE ROW of LawS4712BEmpties: what came in is opened; the walk; what came in reads as it did.
-/
import Derived.Test.YbulkcsogRows
import Derived.Test.YbulkcsogWf
import Derived.WalkKit
import Derived.ProofKit
import Derived.OpenShut
import Derived.ShutString
import Derived.ChangeOld
import Derived.Below
import Derived.SizedLaws
import Derived.SliceStrings
import Derived.Deep.Slices
namespace Go.Proofs.Ybulkcsog.lawS4712BEmpties
open Go.ChangeShapes Go.WideShapes Go.ChangeAt Go.RowKit Go.Deep
open Go.ChangeMaps (open_string shut_string)

theorem own : ownKnob Yba.prog.godebug = none := by kernel_rfl
theorem laidOut : laidOutB Yba.prog = true := by kernel_rfl

theorem weights_all {H : Type} {P : Program} {e : TypeId} : ∀ {ds : List (DataW H)} {d : DataW H}, d ∈ ds → ∀ n ∈ d.weights P e, n ∈ DataW.weightsAll P e ds
  | d0 :: ds, d, hd, n, hn => by
    simp only [DataW.weightsAll, List.mem_append]
    rcases List.mem_cons.1 hd with rfl | h
    · exact .inl hn
    · exact .inr (weights_all h n hn)

section
variable {H : Type} {enc : TypeId × Value → H} {w : World}

/-- A slice of strings, opened. -/
theorem open_strs {fuel : Nat} {v : Value} {x : DataW H × List MemPlace} (h : DataW.trod enc Yba.prog w 0 (fun _ => true) true fuel 54 [v] = some x) :
    ∃ (a : Option Addr) (len cap : Nat) (ss : List ByteArray), v = .slice a len cap ∧ Strs w a len ss ∧ len ≤ maxLen ∧ ∀ N, (∀ n ∈ x.1.weights Yba.prog 54, n ≤ N) → len * 16 ≤ N := by
  rcases open_strings Yba.underlying54 Yba.underlying9 (by kernel_rfl) h with ⟨hcs, hx⟩ | ⟨a, len, cap, ss, hcs, _, hl, hm, hz, hx, hcell, _⟩
  · obtain rfl : v = .slice none 0 0 := by simpa using hcs
    exact ⟨none, 0, 0, [], rfl, ⟨rfl, fun _ => rfl, fun x hx => by cases hx⟩, by unfold maxLen; omega, fun N _ => by omega⟩
  · obtain rfl : v = .slice (some a) len cap := by simpa using hcs
    simp only [if_true] at hz
    refine ⟨some a, len, cap, ss.take len, rfl, ⟨by simp; omega, (fun h => by cases h), ?_⟩, by omega, ?_⟩
    · intro x hx i s hs
      cases hx
      have hi : i < len := by
        have := (List.getElem?_eq_some_iff.1 hs).1
        simp at this
        omega
      rw [List.getElem?_take, if_pos hi] at hs
      have := hcell i (by omega)
      rw [this]
      simp [List.getD, hs]
    · intro N hN
      subst hx
      have h16 : Yba.prog.bytesOf 9 = 16 := by kernel_rfl
      have := hN (((strs (H := H) (ss.take len)).length + (strs (H := H) (ss.drop len)).length) * Yba.prog.bytesOf 9) (by simp only [DataW.weights, Yba.underlying54]; exact List.mem_cons_self)
      rw [h16] at this
      simp [strs] at this
      have e : min len ss.length = len := by omega
      rw [e] at this
      exact Nat.le_trans (Nat.mul_le_mul_right 16 (Nat.le_add_right _ _)) this

/-- A slice of slices of strings, opened. -/
theorem open_rows {fuel : Nat} {v : Value} {x : DataW H × List MemPlace} (h : DataW.trod enc Yba.prog w 0 (fun _ => true) true fuel 71 [v] = some x) (hN : ∀ n ∈ x.1.weights Yba.prog 71, n ≤ reachBytes) :
    ∃ (a : Option Addr) (len cap : Nat) (rs : List Row), v = .slice a len cap ∧ Subs w a len rs ∧ len ≤ maxLen := by
  rcases open_slice1 Yba.underlying71 (by kernel_rfl) h with ⟨hcs, hx⟩ | ⟨a, len, cap, m, n, V, D, Pl, hcs, _, hl, hm, hmm, hx, hall⟩
  · obtain rfl : v = .slice none 0 0 := by simpa using hcs
    exact ⟨none, 0, 0, [], rfl, ⟨rfl, fun _ => rfl, fun x hx => by cases hx⟩, by unfold maxLen; omega⟩
  · obtain rfl : v = .slice (some a) len cap := by simpa using hcs
    simp only [if_true] at hmm
    subst hmm
    have each : ∀ i, i < len → ∃ r : Row, V i = .slice r.1 r.2.1 r.2.2.1 ∧ Strs w r.1 r.2.1 r.2.2.2 ∧ r.2.1 ≤ 8796093022208 := by
      intro i hi
      obtain ⟨ra, rl, rc, ss, e1, e2, _, e4⟩ := open_strs (hall i (by omega)).2
      refine ⟨(ra, rl, rc, ss), e1, e2, ?_⟩
      have := e4 reachBytes (by
        intro n hn
        refine hN n ?_
        subst hx
        simp only [DataW.weights, Yba.underlying71, List.mem_cons, List.mem_append]
        exact .inr (.inl (weights_all (List.mem_map.2 ⟨i, List.mem_range.2 hi, rfl⟩) n hn)))
      unfold reachBytes at this
      show rl ≤ _
      omega
    obtain ⟨R, hR⟩ := choose_lt (α := Row) each
    refine ⟨some a, len, m, (List.range len).map R, rfl, ⟨by simp, (fun h => by cases h), ?_⟩, by omega⟩
    intro x hx i r hr
    cases hx
    have hi : i < len := by
      have := (List.getElem?_eq_some_iff.1 hr).1
      simpa using this
    have hr' : R i = r := by simpa [hi] using hr
    subst hr'
    obtain ⟨q1, q2, q3⟩ := hR i hi
    exact ⟨by rw [(hall i (by omega)).1, q1], q2, q3⟩
end

set_option maxRecDepth 100000 in
theorem lifted (os : Os) (started : os.Started) (H : Type) (enc : TypeId × Value → H) :
    ReturnsInHanded {} Yba.checked os 4 .any (Rows.lawS4712BEmptiesSpec.pre6 enc Yba.prog Yba.f4 Rows.lawS4712BEmptiesRow.domain false) (Rows.lawS4712BEmptiesSpec.post enc Yba.prog Yba.f4 false true false false) := by
  refine returnsInHanded_of_change_sized (C := Yba.checked) own started (by kernel_rfl) Yba.func4
    (ChangeSpec.witness6 (enc := enc) (C := Yba.checked) false ⟨#[], #[.slice none 0 0, .slice none 0 0, .int .u8 0], []⟩ 8 (by kernel_rfl) (by kernel_rfl) (by kernel_rfl) (by kernel_rfl)) ?_
  intro W base args ds gs before hval0 hW _ hsz0 _
  have hval : ∀ (j : Nat) t v, Yba.f4.params[j]? = some t → args[j]? = some v → Value.okWide Yba.prog W .any base t v := hval0
  have hW' := hW
  obtain ⟨p, q, hA0, hV, rfl, _, _⟩ := hW
  have hA : DataW.TrodAll enc Yba.prog W 0 (fun _ => true) true Yba.f4.params.toList args.toList ds p := hA0
  have hsz : (DataW.weightsEach Yba.prog (Yba.f4.params.toList ++ []) (ds ++ gs)).all (· ≤ reachBytes) = true := hsz0
  rw [Yba.params4] at hA hval hsz
  obtain ⟨v0, vs0, d0, ds0, p0, q0, hargs, rfl, rfl, h0, r0⟩ := trodAll_cons hA
  obtain ⟨v1, vs1, d1, ds1, p1, q1, rfl, rfl, rfl, h1, r1⟩ := trodAll_cons r0
  obtain ⟨v2, vs2, d2, ds2, p2, q2, rfl, rfl, rfl, h2, r2⟩ := trodAll_cons r1
  obtain ⟨rfl, rfl, rfl⟩ := trodAll_nil r2
  obtain rfl : args = #[v0, v1, v2] := by cases args; simp_all
  obtain ⟨rfl, rfl⟩ := trodVars_none hV
  have k0 := h0
  have k1 := h1
  have lt0 : ∀ x ∈ p0, x.block < W.heap.size := by obtain ⟨m, hm⟩ := k0; exact DataW.trod_lt m _ _ _ hm
  have lt1 : ∀ x ∈ p1, x.block < W.heap.size := by obtain ⟨m, hm⟩ := k1; exact DataW.trod_lt m _ _ _ hm
  obtain ⟨ax, lx, cx, rfl⟩ := okWide_slice Yba.underlying71 (hval 0 71 v0 rfl rfl)
  obtain ⟨ay, ly, cy, rfl⟩ := okWide_slice Yba.underlying54 (hval 1 54 v1 rfl rfl)
  obtain ⟨a2, rfl, rfl, rfl, w2⟩ := open_int Yba.underlying5 (hval 2 5 v2 rfl rfl) h2
  obtain ⟨rs, hS, hl0⟩ : ∃ rs, Subs W ax lx rs ∧ lx ≤ maxLen := by
    obtain ⟨fuel, hf⟩ := h0
    obtain ⟨a', l', c', rs, hv, hs, hm⟩ := open_rows hf (fun n hn => by
      have := List.all_eq_true.1 hsz n (DataW.weights_mem_each (j := 0) (t := 71) rfl rfl n hn)
      simpa using this)
    cases hv
    exact ⟨rs, hs, hm⟩
  obtain ⟨us, hU, hl1⟩ : ∃ us, Strs W ay ly us ∧ ly ≤ maxLen := by
    obtain ⟨fuel, hf⟩ := h1
    obtain ⟨a', l', c', ss, hv, hs, hm, _⟩ := open_strs hf
    cases hv
    exact ⟨ss, hs, hm⟩
  clear hA0 hval0
  have hb : 0 ≤ a2 ∧ a2 ≤ 255 := by
    have w2' : IntKind.u8.min ≤ a2 ∧ a2 ≤ IntKind.u8.max := by simpa [Lit.wf] using w2
    exact w2'
  refine (empties_any lx cx ly cy ax ay rs us a2 W hl0 hl1 hb.1 hb.2 hS hU).mono fun e W' ⟨he, bel⟩ => ?_
  subst he
  exact ⟨_, rfl, _, _, _, [], _, [], hW', trodAll_mk1 (shut_bool Yba.underlying4 _), (trodAll_cons_mk (Below.trod laidOut (by kernel_rfl) (of_decide_eq_true (by kernel_rfl)) k0 bel lt0) (trodAll_cons_mk (Below.trod laidOut (by kernel_rfl) (of_decide_eq_true (by kernel_rfl)) k1 bel lt1) (trodAll_cons_mk (shut_int Yba.underlying5 w2) trodAll_mk0))), rfl, bel.frame _, fun h => by cases h⟩

theorem over : Rows.lawS4712BEmptiesRow.holds Yba.pinned (OpenSpec.ofChange Rows.lawS4712BEmptiesSpec) :=
  OpenClaim.holds_of_wide 4 Yba.f4 rfl rfl rfl rfl rfl rfl rfl ⟨rfl, rfl, rfl, rfl, rfl⟩ rfl rfl rfl rfl rfl (by kernel_rfl) Yba.func4 (by kernel_rfl)
    (of_decide_eq_true (by kernel_rfl)) (by unfold Func.isWrapper; first | (rw [if_pos (by decide +kernel)]; kernel_rfl) | (rw [if_neg (by decide +kernel)]; exact ⟨rfl, rfl⟩))
    (fun os started H enc _ => lifted os started H enc)

/-- THE STATEMENT -/
theorem proved : Rows.LawS4712BEmptiesSaid := over
#print axioms proved
end Go.Proofs.Ybulkcsog.lawS4712BEmpties
