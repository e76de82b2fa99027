/-
  THE WALK: hostRules.candidates.
-/
import Derived.Test.Qxb6600159aE9
namespace Go.Proofs.Qxb6600159a
open Go.RowKit Plain Go.Maps Go.WideMaps
set_option linter.unusedSimpArgs false

theorem zero26 (w : World) : (zeroValue 26).run Try.prog w = .ok (.slice none 0 0) w := by kernel_rfl
/-- The rules of a host, in a block ahead of C. -/
structure Host (w : World) (Hb C : Nat) (pm : Option Nat) (sA : Sl) (K : Nat → ByteArray) (L : Nat → Sl) (np : Nat) : Prop where
  box : w.heap[Hb]? = some (.cells #[.map pm, .map none, .slice sA.a sA.n sA.c] 63 (0, 0))
  lt : Hb < C
  nil : pm = none → np = 0
  map : ∀ M, pm = some M → M < C ∧ w.ownsMap Try.prog 9 Rh M np (Dm K L np)
theorem Host.fr {w w' : World} {Hb C B np : Nat} {pm : Option Nat} {sA : Sl} {K : Nat → ByteArray} {L : Nat → Sl} (h : Host w Hb C pm sA K L np) (hf : Fr C B w w') (hC : C < B) : Host w' Hb C pm sA K L np := by
  refine ⟨?_, h.lt, h.nil, fun M hM => ⟨(h.map M hM).1, ?_⟩⟩
  · rw [hf.block _ (by have := h.lt; omega) (by have := h.lt; omega)]; exact h.box
  · obtain ⟨h1, h2⟩ := h.map M hM
    obtain ⟨es, clock, hb, F, hs, hD⟩ := h2
    exact ⟨es, clock, by rw [hf.block M (by omega) (by omega)]; exact hb, F, hs, hD⟩
theorem Host.look {w : World} {Hb C np M : Nat} {sA : Sl} {K : Nat → ByteArray} {L : Nat → Sl} (h : Host w Hb C (some M) sA K L np) (s : ByteArray) (hs : s.size ≤ 4194304) :
    (Instr.lookup 47 (.map (some M)) (.string s) false).run Try.prog w = .ok (sv (slJ L (lastJ K s np))) w := by
  obtain ⟨_, hm⟩ := h.map M rfl
  obtain ⟨v, ps, hrun, hv⟩ := hm.lookup law9 Try.underlying47 (zero26 w) (zd := .held (.slice none 0 0)) (zp := []) rfl (keyOf_string_mk Try.underlying9 (by unfold maxLen; omega : s.size ≤ maxLen))
  rw [show (Lit.string s.data.toList) = keyL s from rfl, dm_last] at hv
  unfold Rh at hv
  simp at hv
  rw [hrun, hv.1]

def CdPost (w : World) (C B Bc np : Nat) (A : List Int) (K : Nat → ByteArray) (f : Nat → List Int) (p : ByteArray) (e : Ending) (w' : World) : Prop :=
  e = .returned (.tuple #[]) ∧ Fr C B w w' ∧ ∃ N Ls F, Bld w' C B Bc N Ls F ∧ (∀ v, Mem F N v ↔ v ∈ A ∨ ∃ i, Stop p i ∧ v ∈ ctJ f (lastJ K (p.extract 0 i) np)) ∧ sum F N ≤ A.length + sum f np ∧ N ≤ p.size + 2

/-- The loop's relation. -/
def CdI (w : World) (C B Bc np : Nat) (A : List Int) (K : Nat → ByteArray) (f : Nat → List Int) (p : ByteArray) (i : Nat) (wx : World) : Prop :=
  Fr C B w wx ∧ ∃ N Ls F, Bld wx C B Bc N Ls F ∧ (∀ v, Mem F N v ↔ v ∈ A ∨ ∃ q, q < i ∧ Stop p q ∧ v ∈ ctJ f (lastJ K (p.extract 0 q) np)) ∧ sum F N ≤ A.length + G K f i np ∧ N ≤ i + 1

section
variable {w wr w1 : World} {C B Bc np : Nat} {A : List Int} {K : Nat → ByteArray} {f : Nat → List Int} {p : ByteArray} {i : Nat}
theorem CdI.skip (h : CdI w C B Bc np A K f p i wr) (hs : ¬ Stop p i) : CdI w C B Bc np A K f p (i + 1) wr := by
  obtain ⟨h1, N, Ls, F, h2, h3, h4, h5⟩ := h
  refine ⟨h1, N, Ls, F, h2, fun v => ?_, by have := G_mono K f i np; omega, by omega⟩
  rw [h3 v]
  constructor
  · rintro (h | ⟨q, hq, h⟩)
    · exact .inl h
    · exact .inr ⟨q, by omega, h⟩
  · rintro (h | ⟨q, hq, h, h'⟩)
    · exact .inl h
    · by_cases e : q = i
      · subst e; exact absurd h hs
      · exact .inr ⟨q, by omega, h, h'⟩
theorem CdI.add {N : Nat} {Ls : Nat → Sl} {F : Nat → List Int} {Z : Sl} {e : Ending} (h1 : Fr C B w wr) (h2 : Bld wr C B Bc N Ls F) (h3 : ∀ v, Mem F N v ↔ v ∈ A ∨ ∃ q, q < i ∧ Stop p q ∧ v ∈ ctJ f (lastJ K (p.extract 0 q) np)) (h4 : sum F N ≤ A.length + G K f i np) (h5 : N ≤ i + 1)
    (hC : Bc ≤ C) (hs : Stop p i) (hA : AddPost wr C B N Ls Z e w1) (hZ : RdI Bc wr Z (ctJ f (lastJ K (p.extract 0 i) np))) (hx : Asc (ctJ f (lastJ K (p.extract 0 i) np))) : CdI w C B Bc np A K f p (i + 1) w1 := by
  obtain ⟨N', Ls', F', q1, q2, q3, q4⟩ := bld_add h2 hC hA hZ hx
  refine ⟨h1.trans hA.2.1, N', Ls', F', q1, fun v => ?_, ?_, by omega⟩
  · rw [q2 v, h3 v]
    constructor
    · rintro ((h | ⟨q, hq, h⟩) | h)
      · exact .inl h
      · exact .inr ⟨q, by omega, h⟩
      · exact .inr ⟨i, by omega, hs, h⟩
    · rintro (h | ⟨q, hq, h, h'⟩)
      · exact .inl (.inl h)
      · by_cases e : q = i
        · subst e; exact .inr h'
        · exact .inl (.inr ⟨q, by omega, h, h'⟩)
  · have := G_last (K := K) (f := f) (s := p.extract 0 i) (i := i) (n := np) (by have := hs.1; simp; omega)
    omega
theorem CdI.done (h : CdI w C B Bc np A K f p (p.size + 1) wr) : CdPost w C B Bc np A K f p (.returned (.tuple #[])) wr := by
  obtain ⟨h1, N, Ls, F, h2, h3, h4, h5⟩ := h
  refine ⟨rfl, h1, N, Ls, F, h2, fun v => ?_, by have := G_le K f (p.size + 1) np; omega, by omega⟩
  rw [h3 v]
  constructor
  · rintro (h | ⟨q, hq, h⟩)
    · exact .inl h
    · exact .inr ⟨q, h⟩
  · rintro (h | ⟨q, h⟩)
    · exact .inl h
    · exact .inr ⟨q, by have := h.1.1; omega, h⟩
end
end Go.Proofs.Qxb6600159a
