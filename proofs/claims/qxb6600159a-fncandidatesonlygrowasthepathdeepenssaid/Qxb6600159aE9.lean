/-
  hostRules.candidates: WHAT IT KEEPS, ROUND BY ROUND.
-/
import Derived.Test.Qxb6600159aE8
namespace Go.Proofs.Qxb6600159a
open Go.RowKit Plain Go.Maps Go.WideMaps
set_option linter.unusedSimpArgs false

/-- The last index below n whose key is s. -/
def lastJ (K : Nat → ByteArray) (s : ByteArray) : Nat → Option Nat
  | 0 => none
  | n + 1 => if K n = s then some n else lastJ K s n
theorem lastJ_some {K : Nat → ByteArray} {s : ByteArray} {n j : Nat} (h : lastJ K s n = some j) : j < n ∧ K j = s := by
  induction n with
  | zero => simp [lastJ] at h
  | succ n ih =>
    unfold lastJ at h
    split at h
    · rename_i e
      cases h
      exact ⟨by omega, e⟩
    · have := ih h; exact ⟨by omega, this.2⟩
def slJ (L : Nat → Sl) : Option Nat → Sl
  | none => ⟨none, 0, 0⟩
  | some j => L j
def ctJ (f : Nat → List Int) : Option Nat → List Int
  | none => []
  | some j => f j
theorem dm_last (K : Nat → ByteArray) (L : Nat → Sl) (s : ByteArray) (n : Nat) : (Dm K L n).atKey (keyL s) (.held (.slice none 0 0)) = .held (sv (slJ L (lastJ K s n))) := by
  induction n with
  | zero => rfl
  | succ n ih =>
    unfold lastJ
    by_cases e : K n = s
    · rw [if_pos e, Dm, e]
      exact atKey_put_same (dm_map K L n) (by unfold keyL; exact trivial) _ _
    · have hne : keyL s ≠ keyL (K n) := fun h => e (by
        unfold keyL at h
        exact (ByteArray.ext (Array.ext' (Lit.string.inj h))).symm)
      rw [if_neg e, Dm, atKey_put_other hne]
      exact ih

/-- The lengths of the lists below n whose key is shorter than i. -/
def G (K : Nat → ByteArray) (f : Nat → List Int) (i : Nat) : Nat → Nat
  | 0 => 0
  | n + 1 => G K f i n + (if (K n).size < i then (f n).length else 0)
theorem G_mono (K : Nat → ByteArray) (f : Nat → List Int) (i n : Nat) : G K f i n ≤ G K f (i + 1) n := by
  induction n with
  | zero => exact Nat.le_refl _
  | succ n ih =>
    unfold G
    by_cases h : (K n).size < i
    · rw [if_pos h, if_pos (by omega)]; omega
    · rw [if_neg h]; omega
theorem G_step {K : Nat → ByteArray} {f : Nat → List Int} {i n j : Nat} (hj : j < n) (hs : (K j).size = i) : G K f i n + (f j).length ≤ G K f (i + 1) n := by
  induction n with
  | zero => omega
  | succ n ih =>
    unfold G
    by_cases e : j = n
    · subst e
      have := G_mono K f i j
      rw [if_neg (by omega), if_pos (by omega)]
      omega
    · have := ih (by omega)
      by_cases h : (K n).size < i
      · rw [if_pos h, if_pos (by omega)]; omega
      · rw [if_neg h]; omega
theorem G_le (K : Nat → ByteArray) (f : Nat → List Int) (i n : Nat) : G K f i n ≤ sum f n := by
  induction n with
  | zero => exact Nat.le_refl _
  | succ n ih => unfold G sum; split <;> omega
theorem G_last {K : Nat → ByteArray} {f : Nat → List Int} {s : ByteArray} {i n : Nat} (hs : s.size = i) : G K f i n + (ctJ f (lastJ K s n)).length ≤ G K f (i + 1) n := by
  cases h : lastJ K s n with
  | none => have := G_mono K f i n; simp [ctJ]; omega
  | some j =>
    obtain ⟨h1, h2⟩ := lastJ_some h
    exact G_step h1 (by rw [h2]; exact hs)

theorem mem_snoc (F : Nat → List Int) (N : Nat) (xs : List Int) (v : Int) : Mem (fun k => if k = N then xs else F k) (N + 1) v ↔ Mem F N v ∨ v ∈ xs := by
  constructor
  · rintro ⟨k, hk, hv⟩
    by_cases e : k = N
    · subst e; simp at hv; exact .inr hv
    · simp [e] at hv; exact .inl ⟨k, by omega, hv⟩
  · rintro (⟨k, hk, hv⟩ | hv)
    · exact ⟨k, by omega, by simpa [show k ≠ N by omega] using hv⟩
    · exact ⟨N, by omega, by simpa using hv⟩
theorem sum_congr {F F' : Nat → List Int} {N : Nat} (h : ∀ k, k < N → F k = F' k) : sum F N = sum F' N := by
  induction N with
  | zero => rfl
  | succ N ih => unfold sum; rw [ih (fun k hk => h k (by omega)), h N (by omega)]
theorem sum_snoc (F : Nat → List Int) (N : Nat) (xs : List Int) : sum (fun k => if k = N then xs else F k) (N + 1) = sum F N + xs.length := by
  have h := sum_congr (F := fun k => if k = N then xs else F k) (F' := F) (N := N) (fun k hk => by simp [show k ≠ N by omega])
  show sum (fun k => if k = N then xs else F k) N + (if N = N then xs else F N).length = _
  rw [h, if_pos rfl]

/-- The lists of the struct, with their contents. -/
def Bld (w : World) (C B Bc N : Nat) (Ls : Nat → Sl) (F : Nat → List Int) : Prop := Cand w C B N Ls ∧ ∀ k, k < N → RdI Bc w (Ls k) (F k) ∧ Asc (F k)
theorem bld_add {wr w' : World} {C B Bc N : Nat} {Ls : Nat → Sl} {F : Nat → List Int} {s : Sl} {xs : List Int} {e : Ending} (h : Bld wr C B Bc N Ls F) (hC : Bc ≤ C) (hA : AddPost wr C B N Ls s e w') (hs : RdI Bc wr s xs) (hx : Asc xs) :
    ∃ N' Ls' F', Bld w' C B Bc N' Ls' F' ∧ (∀ v, Mem F' N' v ↔ Mem F N v ∨ v ∈ xs) ∧ sum F' N' = sum F N + xs.length ∧ N' ≤ N + 1 := by
  obtain ⟨_, hF, hA⟩ := hA
  have hb : Below Bc wr w' := hF.below hC (by have := h.1.lt; omega)
  rcases hA with ⟨h0, hc⟩ | ⟨h0, hc⟩
  · have hx0 : xs = [] := List.length_eq_zero_iff.1 (by have := hs.1; omega)
    subst hx0
    exact ⟨N, Ls, F, ⟨hc, fun k hk => ⟨(h.2 k hk).1.below hb, (h.2 k hk).2⟩⟩, fun v => by simp, by simp, by omega⟩
  · refine ⟨N + 1, _, fun k => if k = N then xs else F k, ⟨hc, fun k hk => ?_⟩, mem_snoc F N xs, sum_snoc F N xs, Nat.le_refl _⟩
    by_cases e : k = N
    · subst e
      simp only [if_true]
      exact ⟨hs.below hb, hx⟩
    · simp only [if_neg e]
      exact ⟨(h.2 k (by omega)).1.below hb, (h.2 k (by omega)).2⟩

/-- Where 'candidates' looks: behind a whole element. -/
def Stop (p : ByteArray) (i : Nat) : Prop := i ≤ p.size ∧ (i = p.size ∨ ∃ h : i < p.size, p[i] = 47)
end Go.Proofs.Qxb6600159a
