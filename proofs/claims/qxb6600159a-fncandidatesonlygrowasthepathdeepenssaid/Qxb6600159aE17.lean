/-
  THE DEEPER PATH.
-/
import Derived.Test.Qxb6600159aE16
namespace Go.Proofs.Qxb6600159a
open Plain

theorem deep_size (p r : ByteArray) : (p ++ ⟨#[47]⟩ ++ r).size = p.size + 1 + r.size := by
  simp only [ByteArray.size_append]
  rfl
theorem deep_extract (p r : ByteArray) (i : Nat) (hi : i ≤ p.size) : (p ++ ⟨#[47]⟩ ++ r).extract 0 i = p.extract 0 i := by
  apply ByteArray.ext
  simp only [ByteArray.data_extract, ByteArray.data_append]
  have hi' : i ≤ p.data.size := hi
  rw [Array.append_assoc]
  apply Array.ext
  · simp; omega
  · intro k h1 h2
    simp at h1 h2
    simp only [Array.getElem_extract, Nat.zero_add]
    rw [Array.getElem_append_left (by omega)]
theorem deep_stop {p r : ByteArray} {i : Nat} (h : Stop p i) : Stop (p ++ ⟨#[47]⟩ ++ r) i := by
  obtain ⟨h1, h2⟩ := h
  have hs := deep_size p r
  refine ⟨by omega, .inr ⟨by omega, ?_⟩⟩
  rw [ByteArray.getElem_append_left (by simp only [ByteArray.size_append]; show i < p.size + 1; omega)]
  rcases h2 with rfl | ⟨h3, h4⟩
  · rw [ByteArray.getElem_append_right (Nat.le_refl _)]
    simp
    rfl
  · rw [ByteArray.getElem_append_left h3]
    exact h4
/-- What the path gives, the deeper path gives too. -/
theorem deep_sub {p r : ByteArray} {A : List Int} {K : Nat → ByteArray} {f : Nat → List Int} {np : Nat} {v : Int} (h : v ∈ A ∨ ∃ i, Stop p i ∧ v ∈ ctJ f (lastJ K (p.extract 0 i) np)) :
    v ∈ A ∨ ∃ i, Stop (p ++ ⟨#[47]⟩ ++ r) i ∧ v ∈ ctJ f (lastJ K ((p ++ ⟨#[47]⟩ ++ r).extract 0 i) np) := by
  rcases h with h | ⟨i, h1, h2⟩
  · exact .inl h
  · exact .inr ⟨i, deep_stop h1, by rw [deep_extract p r i h1.1]; exact h2⟩
end Go.Proofs.Qxb6600159a
