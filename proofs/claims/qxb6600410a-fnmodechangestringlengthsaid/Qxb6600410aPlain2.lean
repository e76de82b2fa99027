/-
  THE PLAIN LAWS, second part: subsets of modes and subsequences of texts.
-/
import Derived.Test.Qxb6600410aPlain
namespace Go.Proofs.Qxb6600410a.Plain

theorem step_eq {la lb : List UInt8} {i j : Nat} (hj : j < la.length) (hi : i < lb.length) (h : (la.drop j).Sublist (lb.drop i)) (e : lb[i] = la[j]) : (la.drop (j + 1)).Sublist (lb.drop (i + 1)) := by
  rw [List.drop_eq_getElem_cons hj, List.drop_eq_getElem_cons hi, e] at h
  exact List.cons_sublist_cons.1 h
theorem cons_ne {x y : UInt8} {a b : List UInt8} (h : (x :: a).Sublist (y :: b)) (e : y ≠ x) : (x :: a).Sublist b := by
  cases h with
  | cons _ h => exact h
  | cons_cons _ h => exact absurd rfl e
theorem step_ne {la lb : List UInt8} {i j : Nat} (hj : j < la.length) (hi : i < lb.length) (h : (la.drop j).Sublist (lb.drop i)) (e : lb[i] ≠ la[j]) : (la.drop j).Sublist (lb.drop (i + 1)) := by
  rw [List.drop_eq_getElem_cons hi] at h
  rw [List.drop_eq_getElem_cons hj] at h ⊢
  exact cons_ne h e
theorem step_end {la lb : List UInt8} {i j : Nat} (hi : lb.length ≤ i) (h : (la.drop j).Sublist (lb.drop i)) : la.length ≤ j := by
  rw [List.drop_eq_nil_of_le hi] at h
  have := List.sublist_nil.1 h
  exact List.drop_eq_nil_iff.1 this

theorem lets_sub {a b : Nat} (h : ∀ i, a.testBit i = true → b.testBit i = true) (n : Nat) : (lets a n).Sublist (lets b n) := by
  induction n with
  | zero => exact List.Sublist.refl _
  | succ n ih =>
    simp only [lets]
    refine List.Sublist.append ih ?_
    cases ha : a.testBit n with
    | false => simp
    | true => rw [h n ha]; exact List.Sublist.refl _

theorem andNot_sub {a b : Nat} (ha : a < 256) (hb : b < 256) (h : a &&& (255 - b) = 0) (i : Nat) (hi : a.testBit i = true) : b.testBit i = true := by
  have h8 : i < 8 := by
    by_cases h8 : i < 8
    · exact h8
    · have : a < 2 ^ i := Nat.lt_of_lt_of_le ha (Nat.pow_le_pow_right (n := 2) (by decide) (show 8 ≤ i by omega))
      rw [Nat.testBit_lt_two_pow this] at hi; cases hi
  have e : (a &&& (2 ^ 8 - (b + 1))).testBit i = false := by
    rw [show 2 ^ 8 - (b + 1) = 255 - b by omega, h]; exact Nat.zero_testBit i
  rw [Nat.testBit_and, hi, Nat.testBit_two_pow_sub_succ (by omega : b < 2 ^ 8)] at e
  simpa [h8] using e

theorem text_sub {a b : Nat} (ha : a < 256) (hb : b < 256) (h : a &&& (255 - b) = 0) (h0 : a ≠ 0) : (text a).Sublist (text b) := by
  have hb0 : b ≠ 0 := by
    rintro rfl
    apply h0
    rw [show a = a &&& 255 from (Nat.and_two_pow_sub_one_of_lt_two_pow (n := 8) ha).symm]; exact h
  rw [text, text, if_neg h0, if_neg hb0]
  exact lets_sub (andNot_sub ha hb h) 8
theorem text_lt {a b : Nat} (ha : a < 256) (hb : b < 256) (h : a &&& (255 - b) = 0) (h0 : a ≠ 0) (hne : a ≠ b) : (text a).length < (text b).length := by
  have hs := text_sub ha hb h h0
  have hl := hs.length_le
  by_cases e : (text a).length = (text b).length
  · exfalso
    have he := hs.eq_of_length e
    have hb0 : b ≠ 0 := by
      rintro rfl
      exact text_ne a ha h0 he
    rw [text, text, if_neg h0, if_neg hb0] at he
    have h1 := parse_lets a ha
    rw [he, parse_lets b hb] at h1
    exact hne (Option.some.inj h1).symm
  · omega
theorem text_le (m : Nat) : (text m).length ≤ 8 := by
  unfold text; split
  · simp
  · exact lets_len m 8

end Go.Proofs.Qxb6600410a.Plain
