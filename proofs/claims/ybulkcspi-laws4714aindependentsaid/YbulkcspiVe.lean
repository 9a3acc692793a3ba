/-
  VALUE, FIFTH PART: nat.bytes 30, Bytes 11, Sign 9, zzs4714astrip 23, zzs4714awant 8, zzs4714aeq 10.
-/
import Derived.Test.YbulkcspiVd
namespace Go.Proofs.Ybulkcspi
open Go.RowKit Go.Lib
attribute [local go_sem ↓] Go.wp_at_zero Go.wp_at_succ
theorem Yba.info5 : (Yba.prog.info? 5).map (fun i => (i.zero, i.size, i.bytes)) = some (some (.int .u8 0), 1, 1) := by kernel_rfl

/-- What nat.bytes answers. -/
def Spelt (g m : Nat) (bs : List Int) (w : World) (e : Ending) (w' : World) : Prop :=
  ∃ (i : Nat) (garr : Array Value), e = .returned (.int .i64 i) ∧ w'.heap[g]? = some (.cells garr 5 (0,0)) ∧ garr.size = 8 * m ∧ (∀ p, p < 8 * m → garr[p]? = some (.int .u8 (le bs (8 * m - 1 - p)))) ∧ i ≤ 8 * m ∧ (∀ p, p < i → le bs (8 * m - 1 - p) = 0) ∧ (i = 8 * m ∨ le bs (8 * m - 1 - i) ≠ 0) ∧ Upd [g] w w'

set_option maxRecDepth 100000 in
set_option maxHeartbeats 1000000 in
theorem natbytes_any (B g m : Nat) (v : Value) (bs : List Int) (garr : Array Value) (w : World) (ho : w.ownsRow B 104 1 v m (wordVals bs m)) (hm : m ≤ 200) (hb : Octets bs) (hg : w.heap[g]? = some (.cells garr 5 (0,0))) (hgs : garr.size = 8 * m) :
    Calls Yba.prog 30 #[v, .slice (some ⟨g, 0, none⟩) (8 * m) (8 * m)] w fun e w' => Spelt g m bs w e w' := by
  obtain ⟨a, c, rfl, ha⟩ := owns_slice ho
  have HO : Hid (w.ownsRow B 104 1 (.slice a m c) m (wordVals bs m)) := ho
  have HG : Hid (w.heap[g]? = some (.cells garr 5 (0,0)) ∧ garr.size = 8 * m) := ⟨hg, hgs⟩
  have Hb : Hid (Octets bs) := hb
  have Ha : Hid (a = none → m = 0 ∧ c = 0) := ha
  clear ho hg hgs hb ha
  go_enter Yba.func30, Yba.ntmps30
  go_wp2_with fail
  go_loopw [4, 12] (fun i k wr => ∃ (q r : Nat) (garr : Array Value), r + 8 * q = 8 * m ∧ i = .int .i64 r ∧ k = .int .i64 q ∧ Hid (wr.heap[g]? = some (.cells garr 5 (0,0)) ∧ garr.size = 8 * m ∧ (∀ p, r ≤ p → p < 8 * m → garr[p]? = some (.int .u8 (le bs (8 * m - 1 - p)))) ∧ Upd [g] w wr)) (fun i _ _ => (intOf i).toNat)
  case atStart => exact ⟨0, 8 * m, garr, by omega, by simp, rfl, HG.out.1, HG.out.2, fun p h1 h2 => by omega, Upd.refl _ _⟩
  case round =>
    obtain ⟨q, r, garr1, hqr, rfl, rfl, hI⟩ := hrel
    generalize wr = wo at *
    by_cases hqm : q < m
    · obtain ⟨x, hax⟩ : ∃ x, a = some x := by
        cases h : a with
        | none => have := (Ha.out h).1; omega
        | some y => exact ⟨y, rfl⟩
      subst hax
      obtain ⟨zg, cap, hv, _, _⟩ := HO.out.form (by omega)
      simp only [Value.slice.injEq, Option.some.injEq, true_and] at hv
      obtain ⟨rfl, rfl⟩ := hv
      have c1 : wo.cell? ⟨zg, q, none⟩ = some (.int .u64 (word bs q)) := by
        have h := (hI.out.2.2.2.owns HO.out (by
          intro k hk
          simp only [List.mem_singleton]
          obtain ⟨cur, hh, _⟩ := owns_block HO.out hk
          exact ne_elem hh HG.out.1 (by decide))).cellAt q (by omega)
        rw [h, wordVals_at hqm]
      have b1 : (0 : Int) ≤ (q : Int) := by omega
      have b2 : (q : Int) < (m : Int) := by omega
      go_wp2_with fail
      go_loopw [4, 6, 7] (fun i d j wr => ∃ (t s : Nat) (garr : Array Value), s + t = r ∧ t ≤ 8 ∧ i = .int .i64 s ∧ d = .int .u64 (rest bs q t) ∧ j = .int .i64 t ∧ Hid (wr.heap[g]? = some (.cells garr 5 (0,0)) ∧ garr.size = 8 * m ∧ (∀ p, s ≤ p → p < 8 * m → garr[p]? = some (.int .u8 (le bs (8 * m - 1 - p)))) ∧ Upd [g] w wr)) (fun _ _ j _ => 8 - (intOf j).toNat)
      case atStart => exact ⟨0, r, garr1, by omega, by omega, rfl, rfl, rfl, hI⟩
      case round =>
        obtain ⟨t, s, garr2, hst, ht8, rfl, rfl, rfl, hJ⟩ := hrel
        by_cases htl : t < 8
        · obtain ⟨s', rfl⟩ : ∃ s', s = s' + 1 := ⟨s - 1, by omega⟩
          have e0 : ((s' + 1 : Nat) : Int) - 1 = (s' : Int) := by omega
          obtain ⟨p1, p2, p3, p4⟩ := rest_step Hb.out (k := q) htl
          have hsg : s' < garr2.size := by rw [hJ.out.2.1]; omega
          have c2 : wr.cell? ⟨g, s', none⟩ = some (garr2[s']'hsg) := (cell_at hJ.out.1 s').trans (Array.getElem?_eq_getElem _)
          have f2 := free_at hJ.out.1 s'
          generalize garr2[s']'hsg = old at c2
          have b3 : (0 : Int) ≤ (s' : Int) := by omega
          have b4 : (s' : Int) < ((8 * m : Nat) : Int) := by omega
          go_wp2
          refine ⟨⟨t + 1, s', _, by omega, by omega, rfl, rfl, by go_num, set_at hJ.out.1 s' _, by simpa using hJ.out.2.1, ?_, Upd.setCell hJ.out.2.2.2 (.inl (by simp)) _⟩, by simp [intOf]; omega⟩
          intro p h1 h2
          by_cases hps : p = s'
          · subst hps
            rw [Array.getElem?_setIfInBounds_self_of_lt hsg, show 8 * m - 1 - p = 8 * q + t by omega]
          · rw [Array.getElem?_setIfInBounds, if_neg (fun e => hps e.symm)]
            exact hJ.out.2.2.1 p (by omega) h2
        · obtain rfl : t = 8 := by omega
          go_wp2
          refine ⟨⟨q + 1, s, garr2, by omega, by go_num, by go_num, hJ⟩, by simp [intOf]; omega⟩
    · obtain rfl : q = m := by omega
      obtain rfl : r = 0 := by omega
      go_wp2_with fail
      go_loop [4] (fun i => ∃ (s : Nat), s ≤ 8 * q ∧ i = .int .i64 s ∧ Hid (∀ p, p < s → le bs (8 * q - 1 - p) = 0)) (fun i => 8 * q - (intOf i).toNat)
      case atStart => exact ⟨0, by omega, rfl, fun p hp => by omega⟩
      case round =>
        obtain ⟨s, hs, rfl, hJ⟩ := hrel
        by_cases hsl : s < 8 * q
        · have c2 : wo.cell? ⟨g, s, none⟩ = some (.int .u8 (le bs (8 * q - 1 - s))) := (cell_at hI.out.1 s).trans (hI.out.2.2.1 s (by omega) hsl)
          have b3 : (0 : Int) ≤ (s : Int) := by omega
          have b4 : (s : Int) < ((8 * q : Nat) : Int) := by omega
          by_cases hz : le bs (8 * q - 1 - s) = 0
          · have hzb : (le bs (8 * q - 1 - s) == 0) = true := by simpa using hz
            go_wp2
            go_round
            case rel =>
              refine ⟨s + 1, by omega, by go_num, fun p hp => ?_⟩
              by_cases hps : p = s
              · subst hps; exact hz
              · exact hJ.out p (by omega)
            case measure => simp [intOf]; omega
          · have hzb : (le bs (8 * q - 1 - s) == 0) = false := by simpa using hz
            go_wp2
            go_ret
            exact ⟨s, garr1, rfl, hI.out.1, hI.out.2.1, fun p hp => hI.out.2.2.1 p (by omega) hp, hs, hJ.out, .inr hz, hI.out.2.2.2⟩
        · go_wp2
          go_ret
          exact ⟨s, garr1, rfl, hI.out.1, hI.out.2.1, fun p hp => hI.out.2.2.1 p (by omega) hp, hs, hJ.out, .inl (by omega), hI.out.2.2.2⟩

/-- T bytes are left when the zeros at the top are gone. -/
def Stripped (bs : List Int) (T : Nat) : Prop := (∀ t, T ≤ t → le bs t = 0) ∧ (T = 0 ∨ le bs (T - 1) ≠ 0)
theorem Stripped.only {bs : List Int} {T T' : Nat} (h : Stripped bs T) (h' : Stripped bs T') : T = T' := by
  rcases Nat.lt_trichotomy T T' with hl | hl | hl
  · rcases h'.2 with hz | hz
    · omega
    · exact absurd (h.1 (T' - 1) (by omega)) hz
  · exact hl
  · rcases h.2 with hz | hz
    · omega
    · exact absurd (h'.1 (T - 1) (by omega)) hz
theorem Top.zero {bs : List Int} (hb : Octets bs) {m T : Nat} (hm : Top bs m) (hT : Stripped bs T) : m = 0 ↔ T = 0 := by
  constructor
  · intro h
    subst h
    rcases hT.2 with h | h
    · exact h
    · exfalso
      apply h
      have := word_digit hb (hm.2.1 ((T - 1) / 8) (by omega)) (i := (T - 1) % 8) (by omega)
      rwa [show 8 * ((T - 1) / 8) + (T - 1) % 8 = T - 1 by omega] at this
  · intro h
    subst h
    rcases hm.2.2 with h | h
    · exact h
    · exact absurd (wsum_nil 8 _ (fun i _ => hT.1 _ (by omega))) h
/-- The bytes that are left. -/
def spell (bs : List Int) (T : Nat) : List Int := (List.range T).map fun j => le bs (T - 1 - j)
theorem spell_len (bs : List Int) (T : Nat) : (spell bs T).length = T := by simp [spell]
theorem spell_at {bs : List Int} {T j : Nat} (h : j < T) : (spell bs T).getD j 0 = le bs (T - 1 - j) := by simp [spell, List.getD, h]
theorem spell_ok {bs : List Int} (hb : Octets bs) (T : Nat) : Octets (spell bs T) := by
  intro b h
  simp only [spell, List.mem_map] at h
  obtain ⟨j, _, rfl⟩ := h
  exact le_ok hb _
theorem add_off (g o j : Nat) : (⟨g, o, none⟩ : Addr).add j = ⟨g, o + j, none⟩ := by
  unfold Addr.add
  split
  · rename_i h; subst h; rfl
  · rfl

/-- What Bytes answers. -/
def BytesAns (bs : List Int) (w : World) (e : Ending) (w' : World) : Prop := ∃ (x : Option Addr) (T c : Nat), e = .returned (.slice x T c) ∧ T ≤ 1600 ∧ Stripped bs T ∧ Byts w' x T (spell bs T) ∧ Upd [] w w'
/-- What zzs4714astrip answers. -/
def StripAns (bs : List Int) (w : World) (e : Ending) (w' : World) : Prop := ∃ (x : Option Addr) (T d : Nat), e = .returned (.slice x T d) ∧ T ≤ 1024 ∧ Stripped bs T ∧ Byts w x T (spell bs T) ∧ w' = w

set_option maxRecDepth 100000 in
theorem Bytes_any (B ib m : Nat) (neg : Bool) (bs : List Int) (w : World) (hI : IntIs B w ib neg bs m) (hb : Octets bs) :
    Calls Yba.prog 11 #[.pointer (some ⟨ib, 0, none⟩)] w fun e w' => BytesAns bs w e w' := by
  obtain ⟨i0, hi, hz0, hz1, hz2⟩ := info_parts Yba.info5
  obtain ⟨v, h1, h2, h3⟩ := hI
  obtain ⟨va, vc, rfl, _⟩ := owns_slice h2
  have c1 : w.cell? ⟨ib, 1, none⟩ = some (.slice va m vc) := cell_at h1 1
  have hm : m ≤ 200 := h3.1.1
  obtain ⟨M, hM⟩ : ∃ M : Nat, M = 8 * m := ⟨_, rfl⟩
  have hmm : (m : Int) * 8 = (M : Int) := by omega
  have H := natbytes_any B w.heap.size m (.slice va m vc) bs (madeCells #[.int .u8 0] M) (w.alloc (.cells (madeCells #[.int .u8 0] M) 5)) (h2.alloc _) hm hb (heap_last _ _ _ rfl) (by rw [size_madeCells, hM])
  have c2 : (w.alloc (.cells (madeCells #[.int .u8 0] M) 5)).cell? ⟨ib, 1, none⟩ = some (.slice va m vc) := (Upd.alloc (Upd.refl [] w) _).cell c1 (by simp)
  rw [← hM] at H
  have HM : Hid (M = 8 * m ∧ Top bs m ∧ Octets bs) := ⟨hM, h3.1, hb⟩
  have hM2 : M ≤ 1600 := by omega
  clear h1 h2 h3 hM hb
  go_enter Yba.func11, Yba.ntmps11
  go_wp2_with (at_make; go_must (refine wpList_make_row _ rfl _ _ _ rfl 5 i0 _ Yba.underlying22 hi hz0 hz1 (by rfl) _ _ M rfl rfl (by rw [hz2]; omega) (by omega) ?_))
  refine H.mono ?_
  rintro e w1 ⟨i, garr, rfl, q1, q2, q3, q4, q5, q6, q7⟩
  rw [← HM.out.1] at q2 q3 q4 q5 q6
  have Q : Hid (w1.heap[w.heap.size]? = some (.cells garr 5 (0,0)) ∧ (∀ p, p < M → garr[p]? = some (.int .u8 (le bs (M - 1 - p)))) ∧ (∀ p, p < i → le bs (M - 1 - p) = 0) ∧ (i = M ∨ le bs (M - 1 - i) ≠ 0) ∧ Upd [w.heap.size] (w.alloc (.cells (madeCells #[.int .u8 0] M) 5)) w1) := ⟨q1, q3, q5, q6, q7⟩
  clear q1 q3 q5 q6 q7 H c1 c2
  have b1 : (0 : Int) ≤ (i : Int) := by omega
  have b2 : (i : Int) ≤ (M : Int) := by omega
  have hS : Hid (Stripped bs (M - i) ∧ Upd [] w w1) := by
    refine ⟨⟨?_, ?_⟩, (Upd.alloc (Upd.refl _ _) _).transTo Q.out.2.2.2.2 (by intro k hk; right; simp at hk; omega)⟩
    · intro t ht
      by_cases ht' : t < M
      · have := Q.out.2.2.1 (M - 1 - t) (by omega)
        rwa [show M - 1 - (M - 1 - t) = t by omega] at this
      · have h8 := HM.out.1
        have := word_digit HM.out.2.2 (HM.out.2.1.2.1 (t / 8) (by omega)) (i := t % 8) (by omega)
        rwa [show 8 * (t / 8) + t % 8 = t by omega] at this
    · rcases Q.out.2.2.2.1 with h | h
      · left; omega
      · right; rwa [show M - i - 1 = M - 1 - i by omega]
  by_cases hiM : i = M
  · subst hiM
    go_wp2
    go_ret
    have h0 := hS.out.1
    rw [Nat.sub_self] at h0
    exact ⟨_, 0, _, rfl, by omega, h0, ⟨rfl, fun _ => rfl, fun x hx j hj => by omega, spell_ok HM.out.2.2 _⟩, hS.out.2⟩
  · have hlt : i < M := by omega
    go_wp2
    go_ret
    refine ⟨_, M - i, _, rfl, by omega, hS.out.1, ⟨spell_len _ _, (fun h => by cases h), ?_, spell_ok HM.out.2.2 _⟩, hS.out.2⟩
    intro x hx j hj
    cases hx
    rw [add_off, cell_at Q.out.1, Q.out.2.1 _ (by omega), spell_at hj]
    rw [show M - 1 - (i + j) = M - i - 1 - j by omega]

/-- Sign's answer. -/
def sgn (neg : Bool) (m : Nat) : Int := if m = 0 then 0 else if neg then -1 else 1
theorem Sign_any (B ib m : Nat) (neg : Bool) (bs : List Int) (w : World) (hI : IntIs B w ib neg bs m) :
    Calls Yba.prog 9 #[.pointer (some ⟨ib, 0, none⟩)] w fun e w' => e = .returned (.int .i64 (sgn neg m)) ∧ w' = w := by
  obtain ⟨v, h1, h2, h3⟩ := hI
  obtain ⟨va, vc, rfl, _⟩ := owns_slice h2
  have c0 : w.cell? ⟨ib, 0, none⟩ = some (.bool neg) := cell_at h1 0
  have c1 : w.cell? ⟨ib, 1, none⟩ = some (.slice va m vc) := cell_at h1 1
  have hm : m ≤ 200 := h3.1.1
  clear h1 h2 h3
  by_cases hm0 : m = 0
  · subst hm0
    go_enter Yba.func9, Yba.ntmps9
    go_wp2
    go_ret
    exact ⟨rfl, rfl⟩
  · have hb : ((m : Int) == 0) = false := by simp; exact hm0
    unfold sgn
    rw [if_neg hm0]
    cases neg
    · go_enter Yba.func9, Yba.ntmps9
      go_wp2
      go_ret
      exact ⟨rfl, rfl⟩
    · go_enter Yba.func9, Yba.ntmps9
      go_wp2
      go_ret
      exact ⟨rfl, rfl⟩

set_option maxRecDepth 100000 in
theorem strip_any (L c : Nat) (a : Option Addr) (bs : List Int) (w : World) (hL : L ≤ 1024) (hLc : L ≤ c) (hc : c ≤ maxLen) (hB : Byts w a L bs) :
    Calls Yba.prog 23 #[.slice a L c] w fun e w' => StripAns bs w e w' := by
  unfold maxLen at hc
  by_cases h0 : L = 0
  · subst h0
    have hS : Stripped bs 0 := ⟨fun t _ => le_far (by rw [hB.1]; omega), .inl rfl⟩
    have hb := hB.2.2.2
    cases a with
    | none =>
      clear hB
      go_enter Yba.func23, Yba.ntmps23
      go_wp2_with fail
      go_loop [3] (fun i => i = .int .i64 0) (fun _ => 0)
      case atStart => rfl
      case round =>
        obtain rfl := hrel
        go_wp2
        go_ret
        exact ⟨_, 0, _, rfl, by omega, hS, ⟨rfl, fun _ => rfl, fun x hx j hj => by omega, spell_ok hb _⟩, rfl⟩
    | some x =>
      clear hB
      go_enter Yba.func23, Yba.ntmps23
      go_wp2_with fail
      go_loop [3] (fun i => i = .int .i64 0) (fun _ => 0)
      case atStart => rfl
      case round =>
        obtain rfl := hrel
        go_wp2
        go_ret
        exact ⟨_, 0, _, rfl, by omega, hS, ⟨rfl, fun _ => rfl, fun x hx j hj => by omega, spell_ok hb _⟩, rfl⟩
  · obtain ⟨g, o, ha, hcells⟩ := hB.flat (by omega)
    subst ha
    have HB : Hid (bs.length = L ∧ Octets bs ∧ ∀ i, i < L → w.cell? ⟨g, o + i, none⟩ = some (.int .u8 (bs.getD i 0))) := ⟨hB.1, hB.2.2.2, hcells⟩
    clear hB hcells
    have FIN : Hid (∀ i, i ≤ L → (∀ p, p < i → bs.getD p 0 = 0) → (i = L ∨ bs.getD i 0 ≠ 0) → Stripped bs (L - i) ∧ Byts w (some ⟨g, o + i, none⟩) (L - i) (spell bs (L - i))) := by
      intro i hi h1 h2
      refine ⟨⟨?_, ?_⟩, ⟨spell_len _ _, (fun h => by cases h), ?_, spell_ok HB.out.2.1 _⟩⟩
      · intro t ht
        by_cases ht' : t < L
        · have h := h1 (L - 1 - t) (by omega)
          have e := le_at (bs := bs) (p := L - 1 - t) (by rw [HB.out.1]; omega)
          rw [HB.out.1, show L - 1 - (L - 1 - t) = t by omega] at e
          rw [e]; exact h
        · exact le_far (by rw [HB.out.1]; omega)
      · rcases h2 with h | h
        · left; omega
        · by_cases hlt : i < L
          · right
            have e := le_at (bs := bs) (p := i) (by rw [HB.out.1]; omega)
            rw [HB.out.1] at e
            rw [show L - i - 1 = L - 1 - i by omega, e]; exact h
          · left; omega
      · intro x hx j hj
        cases hx
        have e := le_at (bs := bs) (p := i + j) (by rw [HB.out.1]; omega)
        rw [HB.out.1] at e
        rw [add_off, Nat.add_assoc, HB.out.2.2 (i + j) (by omega), spell_at hj, show L - i - 1 - j = L - 1 - (i + j) by omega, e]
    go_enter Yba.func23, Yba.ntmps23
    go_wp2_with fail
    go_loop [3] (fun i => ∃ (s : Nat), s ≤ L ∧ i = .int .i64 s ∧ Hid (∀ p, p < s → bs.getD p 0 = 0)) (fun i => L - (intOf i).toNat)
    case atStart => exact ⟨0, by omega, rfl, fun p hp => by omega⟩
    case round =>
      obtain ⟨s, hs, rfl, hJ⟩ := hrel
      have b3 : (0 : Int) ≤ (s : Int) := by omega
      have b5 : (s : Int) ≤ (L : Int) := by omega
      by_cases hsl : s < L
      · have c2 := HB.out.2.2 s hsl
        have b4 : (s : Int) < (L : Int) := by omega
        obtain ⟨z, hzz⟩ : ∃ z, bs.getD s 0 = z := ⟨_, rfl⟩
        rw [hzz] at c2
        have HZ : Hid (bs.getD s 0 = z) := hzz
        clear hzz
        by_cases hz : z = 0
        · have hzb : (z == 0) = true := by rw [hz]; rfl
          have HZ2 : Hid (z = 0) := hz
          clear hz
          go_wp2
          go_round
          case rel =>
            refine ⟨s + 1, by omega, by go_num, fun p hp => ?_⟩
            by_cases hps : p = s
            · subst hps; rw [HZ.out]; exact HZ2.out
            · exact hJ.out p (by omega)
          case measure => simp [intOf]; omega
        · have hzb : (z == 0) = false := by simpa using hz
          have HZ2 : Hid (z ≠ 0) := hz
          clear hz
          go_wp2
          go_ret
          obtain ⟨f1, f2⟩ := FIN.out s hs hJ.out (.inr (by rw [HZ.out]; exact HZ2.out))
          exact ⟨_, L - s, _, rfl, by omega, f1, f2, rfl⟩
      · obtain rfl : s = L := by omega
        obtain ⟨f1, f2⟩ := FIN.out s hs hJ.out (.inl rfl)
        rw [Nat.sub_self] at f1
        have FH : Hid (Stripped bs 0) := f1
        have hO := HB.out.2.1
        clear f1 f2
        by_cases hcs : c = s
        · subst hcs
          go_wp2
          go_ret
          exact ⟨_, 0, _, rfl, by omega, FH.out, ⟨rfl, fun _ => rfl, fun x hx j hj => by omega, spell_ok hO _⟩, rfl⟩
        · have hlt : s < c := by omega
          go_wp2
          go_ret
          exact ⟨_, 0, _, rfl, by omega, FH.out, ⟨rfl, fun _ => rfl, fun x hx j hj => by omega, spell_ok hO _⟩, rfl⟩

end Go.Proofs.Ybulkcspi
