/-
  VALUE, FIRST PART: plain laws on bytes and words. No Go in sight.
-/
import Derived.Test.YbulkcspiMem
import Derived.Lib.EndianBits
namespace Go.Proofs.Ybulkcspi
open Go.RowKit

/-- Every number is a byte. -/
def Octets (bs : List Int) : Prop := ∀ b ∈ bs, 0 ≤ b ∧ b ≤ 255
/-- The t-th byte from the end; 0 beyond. -/
def le (bs : List Int) (t : Nat) : Int := if t < bs.length then bs.getD (bs.length - 1 - t) 0 else 0
theorem getD_ok {bs : List Int} (h : Octets bs) (i : Nat) : 0 ≤ bs.getD i 0 ∧ bs.getD i 0 ≤ 255 := by
  by_cases hi : i < bs.length
  · have : bs.getD i 0 = bs[i] := by simp [List.getD, hi]
    rw [this]
    exact h _ (List.getElem_mem hi)
  · have : bs.getD i 0 = 0 := by simp [List.getD, hi]
    rw [this]; omega
theorem le_ok {bs : List Int} (h : Octets bs) (t : Nat) : 0 ≤ le bs t ∧ le bs t ≤ 255 := by
  unfold le
  split
  · exact getD_ok h _
  · omega
theorem le_far {bs : List Int} {t : Nat} (h : bs.length ≤ t) : le bs t = 0 := by unfold le; rw [if_neg (by omega)]
theorem le_at {bs : List Int} {p : Nat} (h : p < bs.length) : le bs (bs.length - 1 - p) = bs.getD p 0 := by
  unfold le
  rw [if_pos (by omega), show bs.length - 1 - (bs.length - 1 - p) = p by omega]

/-- c digits to the base 256, the least first. -/
def wsum : (Nat → Int) → Nat → Int
  | _, 0 => 0
  | f, c + 1 => f 0 + 256 * wsum (fun i => f (i + 1)) c
theorem wsum_ok : ∀ (c : Nat) (f : Nat → Int), (∀ i, 0 ≤ f i ∧ f i ≤ 255) → 0 ≤ wsum f c ∧ wsum f c < 256 ^ c
  | 0, _, _ => by simp [wsum]
  | c + 1, f, h => by
    have h1 := wsum_ok c (fun i => f (i + 1)) (fun i => h (i + 1))
    have h0 := h 0
    simp only [wsum]
    have e : (256 : Int) ^ (c + 1) = 256 * 256 ^ c := by rw [Int.pow_succ]; omega
    rw [e]
    omega
theorem wsum_snoc : ∀ (c : Nat) (f : Nat → Int), wsum f (c + 1) = wsum f c + f c * 256 ^ c
  | 0, f => by simp [wsum]
  | c + 1, f => by
    have h1 := wsum_snoc c (fun i => f (i + 1))
    have e : (256 : Int) ^ (c + 1) = 256 * 256 ^ c := by rw [Int.pow_succ]; omega
    rw [show wsum f (c + 1 + 1) = f 0 + 256 * wsum (fun i => f (i + 1)) (c + 1) from rfl, h1, show wsum f (c + 1) = f 0 + 256 * wsum (fun i => f (i + 1)) c from rfl, e,
      show f (c + 1) * (256 * 256 ^ c) = 256 * (f (c + 1) * 256 ^ c) by rw [← Int.mul_assoc, Int.mul_comm (f (c + 1)) 256, Int.mul_assoc]]
    generalize f (c + 1) * 256 ^ c = q
    omega
theorem wsum_zero : ∀ (c : Nat) (f : Nat → Int), (∀ i, 0 ≤ f i ∧ f i ≤ 255) → wsum f c = 0 → ∀ i, i < c → f i = 0
  | 0, _, _, _, i, hi => by omega
  | c + 1, f, h, hz, i, hi => by
    have h1 := wsum_ok c (fun i => f (i + 1)) (fun i => h (i + 1))
    have h0 := h 0
    simp only [wsum] at hz
    cases i with
    | zero => omega
    | succ i => exact wsum_zero c (fun i => f (i + 1)) (fun i => h (i + 1)) (by omega) i (by omega)
theorem wsum_nil : ∀ (c : Nat) (f : Nat → Int), (∀ i, i < c → f i = 0) → wsum f c = 0
  | 0, _, _ => rfl
  | c + 1, f, h => by
    simp only [wsum]
    rw [h 0 (by omega), wsum_nil c (fun i => f (i + 1)) (fun i hi => h (i + 1) (by omega))]
    rfl
theorem wsum_cut (c : Nat) (f : Nat → Int) : ∀ d, (∀ i, c ≤ i → f i = 0) → wsum f (c + d) = wsum f c
  | 0, _ => rfl
  | d + 1, h => by
    rw [← Nat.add_assoc, wsum_snoc, h (c + d) (by omega), wsum_cut c f d h]
    omega
theorem wsum_congr : ∀ (c : Nat) (f g : Nat → Int), (∀ i, i < c → f i = g i) → wsum f c = wsum g c
  | 0, _, _, _ => rfl
  | c + 1, f, g, h => by
    simp only [wsum]
    rw [h 0 (by omega), wsum_congr c (fun i => f (i + 1)) (fun i => g (i + 1)) (fun i hi => h (i + 1) (by omega))]

/-- The k-th word of eight bytes, the least first. -/
def word (bs : List Int) (k : Nat) : Int := wsum (fun i => le bs (8 * k + i)) 8
theorem word_ok {bs : List Int} (h : Octets bs) (k : Nat) : 0 ≤ word bs k ∧ word bs k < 18446744073709551616 := by
  have := wsum_ok 8 (fun i => le bs (8 * k + i)) (fun i => le_ok h _)
  exact this
theorem word_far {bs : List Int} {k : Nat} (h : bs.length ≤ 8 * k) : word bs k = 0 := wsum_nil 8 _ (fun i _ => le_far (by omega))
theorem word_digit {bs : List Int} (h : Octets bs) {k : Nat} (hz : word bs k = 0) {i : Nat} (hi : i < 8) : le bs (8 * k + i) = 0 := wsum_zero 8 (fun i => le bs (8 * k + i)) (fun _ => le_ok h _) hz i hi
/-- What is left of a word when j bytes are gone. -/
def rest (bs : List Int) (k j : Nat) : Int := wsum (fun i => le bs (8 * k + j + i)) (8 - j)
theorem rest_zero (bs : List Int) (k : Nat) : rest bs k 0 = word bs k := rfl
theorem rest_step {bs : List Int} (h : Octets bs) {k j : Nat} (hj : j < 8) : 0 ≤ rest bs k j ∧ rest bs k j < 18446744073709551616 ∧ rest bs k j % 256 = le bs (8 * k + j) ∧ rest bs k j / 256 = rest bs k (j + 1) := by
  have e : 8 - j = (8 - (j + 1)) + 1 := by omega
  have h0 := le_ok h (8 * k + j)
  have h1 := wsum_ok (8 - (j + 1)) (fun i => le bs (8 * k + (j + 1) + i)) (fun i => le_ok h _)
  have h2 : rest bs k j = le bs (8 * k + j) + 256 * rest bs k (j + 1) := by
    unfold rest
    rw [e]
    simp only [wsum, Nat.add_zero]
    rw [wsum_congr _ (fun i => le bs (8 * k + j + (i + 1))) (fun i => le bs (8 * k + (j + 1) + i)) (fun i _ => by congr 1; omega)]
  have h3 : rest bs k (j + 1) < 72057594037927936 := by
    have hp := Nat.pow_le_pow_right (n := 256) (by omega) (show 8 - (j + 1) ≤ 7 by omega)
    have hc : ((256 ^ (8 - (j + 1)) : Nat) : Int) ≤ ((256 ^ 7 : Nat) : Int) := by exact_mod_cast hp
    have e7 : ((256 ^ 7 : Nat) : Int) = 72057594037927936 := by decide
    rw [e7, Int.natCast_pow] at hc
    have hc' : (256 : Int) ^ (8 - (j + 1)) ≤ 72057594037927936 := hc
    unfold rest
    omega
  have h4 : 0 ≤ rest bs k (j + 1) := h1.1
  omega

/-- Both strippings leave equally many bytes. -/
theorem tops {bs : List Int} (hb : Octets bs) {m i i0 : Nat} (hm : ∀ k, m ≤ k → word bs k = 0) (h1 : ∀ p, p < i → le bs (8 * m - 1 - p) = 0) (hi : i ≤ 8 * m) (h2 : i = 8 * m ∨ le bs (8 * m - 1 - i) ≠ 0)
    (hi0 : i0 ≤ bs.length) (h3 : ∀ p, p < i0 → bs.getD p 0 = 0) (h4 : i0 = bs.length ∨ bs.getD i0 0 ≠ 0) : 8 * m - i = bs.length - i0 := by
  have z1 : ∀ t, 8 * m - i ≤ t → le bs t = 0 := by
    intro t ht
    by_cases ht' : t < 8 * m
    · have := h1 (8 * m - 1 - t) (by omega)
      rwa [show 8 * m - 1 - (8 * m - 1 - t) = t by omega] at this
    · have := word_digit hb (hm (t / 8) (by omega)) (i := t % 8) (by omega)
      rwa [show 8 * (t / 8) + t % 8 = t by omega] at this
  have z2 : ∀ t, bs.length - i0 ≤ t → le bs t = 0 := by
    intro t ht
    by_cases ht' : t < bs.length
    · have h := h3 (bs.length - 1 - t) (by omega)
      rw [← le_at (by omega), show bs.length - 1 - (bs.length - 1 - t) = t by omega] at h
      exact h
    · exact le_far (by omega)
  rcases Nat.lt_trichotomy (8 * m - i) (bs.length - i0) with h | h | h
  · exfalso
    have hz := z1 (bs.length - 1 - i0) (by omega)
    rw [le_at (by omega)] at hz
    rcases h4 with h4 | h4
    · omega
    · exact h4 hz
  · exact h
  · exfalso
    have hz := z2 (8 * m - 1 - i) (by omega)
    rcases h2 with h2 | h2
    · omega
    · exact h2 hz
/-- The number is 0 where no byte is left. -/
theorem none_left {bs : List Int} (hb : Octets bs) {m i0 : Nat} (hm : ∀ k, m ≤ k → word bs k = 0) (hm' : m = 0 ∨ word bs (m - 1) ≠ 0) (hi0 : i0 ≤ bs.length) (h3 : ∀ p, p < i0 → bs.getD p 0 = 0) (h4 : i0 = bs.length ∨ bs.getD i0 0 ≠ 0) :
    (m = 0 ↔ bs.length - i0 = 0) := by
  have z2 : ∀ t, bs.length - i0 ≤ t → le bs t = 0 := by
    intro t ht
    by_cases ht' : t < bs.length
    · have h := h3 (bs.length - 1 - t) (by omega)
      rw [← le_at (by omega), show bs.length - 1 - (bs.length - 1 - t) = t by omega] at h
      exact h
    · exact le_far (by omega)
  constructor
  · intro h
    rcases h4 with h4 | h4
    · omega
    · by_cases hlt : i0 < bs.length
      · exfalso
        apply h4
        have := word_digit hb (hm ((bs.length - 1 - i0) / 8) (by omega)) (i := (bs.length - 1 - i0) % 8) (by omega)
        rw [show 8 * ((bs.length - 1 - i0) / 8) + (bs.length - 1 - i0) % 8 = bs.length - 1 - i0 by omega, le_at hlt] at this
        exact this
      · omega
  · intro h
    rcases hm' with h' | h'
    · exact h'
    · exfalso
      apply h'
      exact wsum_nil 8 _ (fun i _ => z2 _ (by omega))

end Go.Proofs.Ybulkcspi
