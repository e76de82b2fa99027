/-
  THE STRUCT AS 'next' READS AND WRITES IT.
-/
import Derived.Test.Qxb6600159aE11
namespace Go.Proofs.Qxb6600159a
open Go.RowKit Plain Go.Maps Go.WideMaps
set_option linter.unusedSimpArgs false

/-- The lists of the struct at block C, those behind the sixteenth at block g. -/
structure Dr (w : World) (C g N : Nat) (sm : Sl) (Ls : Nat → Sl) : Prop where
  th : w.there C 0 18
  inl : ∀ k, k < 16 → k < N → w.cell? ⟨C, k, none⟩ = some (.slice (Ls k).a (Ls k).n (Ls k).c)
  num : w.cell? ⟨C, 16, none⟩ = some (.int .i64 (min N 16 : Nat))
  mv : w.cell? ⟨C, 17, none⟩ = some (.slice sm.a sm.n sm.c)
  mn : sm.n = N - 16
  ma : 16 < N → sm.a = some ⟨g, 0, none⟩
  mth : 16 < N → w.there g 0 (N - 16)
  mor : ∀ k, 16 ≤ k → k < N → w.cell? ⟨g, k - 16, none⟩ = some (.slice (Ls k).a (Ls k).n (Ls k).c)
  lt : C < w.heap.size
  gt : g < w.heap.size
  ne : C ≤ g + 1 ∧ C ≠ g
theorem Cand.dr {w : World} {C B N : Nat} {Ls : Nat → Sl} (h : Cand w C B N Ls) (h0 : 0 < C) : ∃ g sm, (g + 1 = C ∧ N ≤ 16 ∨ B ≤ g) ∧ Dr w C g N sm Ls := by
  obtain ⟨vm, h1, h2⟩ := h.more
  obtain ⟨hl, h2⟩ := h2
  have hlt := h.lt
  rcases h2 with ⟨rfl, hz⟩ | ⟨g, cap, cur, rfl, hBg, hg, q1, q2, q3, q4⟩
  · exact ⟨C - 1, ⟨none, 0, 0⟩, .inl ⟨by omega, by omega⟩, h.th, h.inl, h.num, h1, by dsimp only; omega, fun h => absurd h (by omega), fun h => absurd h (by omega), fun k h1 h2 => absurd h1 (by omega), by have := h.le; omega, by have := h.le; omega, by omega⟩
  · have hgl : g < w.heap.size := by
      by_cases e : g < w.heap.size
      · exact e
      · rw [Array.getElem?_eq_none (by omega)] at hg; cases hg
    have hc : ∀ k, k < N - 16 → cur[k]? = some (sv (Ls (16 + k))) := fun k hk => by
      have h' : (cur.toList.take ((N - 16) * 1))[k]? = some (sv (Ls (16 + k))) := by
        rw [q4, List.getElem?_map, List.getElem?_range hk]; rfl
      rw [List.getElem?_take_of_lt (by omega)] at h'
      simpa using h'
    refine ⟨g, ⟨some ⟨g, 0, none⟩, N - 16, cap⟩, .inr hBg, h.th, h.inl, h.num, h1, rfl, fun _ => rfl, fun _ j hj => ?_, fun k h1 h2 => ?_, by omega, hgl, by omega⟩
    · rw [Nat.zero_add]
      exact ⟨by rw [cell_of_row w g j _ _ _ hg, hc j hj]; rfl, frozen_of_row w g j _ _ hg⟩
    · rw [cell_of_row w g _ _ _ _ hg, hc (k - 16) (by omega), show 16 + (k - 16) = k by omega]; rfl
theorem Dr.keep {w w' : World} {C g N : Nat} {sm : Sl} {Ls : Nat → Sl} (h : Dr w C g N sm Ls) (hs : w.heap.size ≤ w'.heap.size) (hC : w'.heap[C]? = w.heap[C]?) (hg : 16 < N → w'.heap[g]? = w.heap[g]?) : Dr w' C g N sm Ls := by
  have e1 : ∀ k, w'.cell? ⟨C, k, none⟩ = w.cell? ⟨C, k, none⟩ := fun k => World.cell?_of_block (w := w) hC
  have e2 : 16 < N → ∀ k, w'.cell? ⟨g, k, none⟩ = w.cell? ⟨g, k, none⟩ := fun hN k => World.cell?_of_block (w := w) (hg hN)
  exact ⟨fun j hj => by rw [World.cell?_of_block (w := w) hC, World.frozen?_of_block (w := w) hC]; exact h.th j hj, fun k h1 h2 => by rw [e1]; exact h.inl k h1 h2, by rw [e1]; exact h.num, by rw [e1]; exact h.mv, h.mn, h.ma,
    fun hN j hj => by rw [World.cell?_of_block (w := w) (hg hN), World.frozen?_of_block (w := w) (hg hN)]; exact h.mth hN j hj, fun k h1 h2 => by rw [e2 (by omega)]; exact h.mor k h1 h2, by have := h.lt; omega, by have := h.gt; omega, h.ne⟩

/-- How many lists lie ahead of the j-th slice of slices. -/
def idx (N j : Nat) : Nat := if j = 0 then 0 else if j = 1 then min N 16 else N
/-- A slice of slices that 'next' goes over. -/
def Part (w : World) (s : Sl) (base C g : Nat) (Ls : Nat → Sl) : Prop :=
  ∀ i, i < s.n → ∃ b, s.a = some ⟨b, 0, none⟩ ∧ ((b = C ∧ base = 0 ∧ i < 16) ∨ (b = g ∧ base = 16)) ∧ w.cell? ⟨b, i, none⟩ = some (.slice (Ls (base + i)).a (Ls (base + i)).n (Ls (base + i)).c) ∧ w.frozen? ⟨b, i, none⟩ = false
theorem Dr.part {w : World} {C g N : Nat} {sm : Sl} {Ls : Nat → Sl} (h : Dr w C g N sm Ls) {Ar : Nat} {m : Nat} (hm : min N 16 = m) (a0 : w.cell? ⟨Ar, 0, none⟩ = some (.slice (some ⟨C, 0, none⟩) m 16)) (a1 : w.cell? ⟨Ar, 1, none⟩ = some (.slice sm.a sm.n sm.c)) {j : Nat} (hj : j < 2) :
    ∃ s : Sl, w.cell? ⟨Ar, j, none⟩ = some (.slice s.a s.n s.c) ∧ idx N j + s.n = idx N (j + 1) ∧ s.n ≤ N ∧ Part w s (idx N j) C g Ls := by
  match j, hj with
  | 0, _ =>
    refine ⟨⟨some ⟨C, 0, none⟩, m, 16⟩, a0, by simp [idx, hm], by dsimp only; omega, fun i hi => ?_⟩
    dsimp only at hi
    exact ⟨C, rfl, .inl ⟨rfl, by simp [idx], by omega⟩, by simp only [idx, if_true, Nat.zero_add]; exact h.inl i (by omega) (by omega), (there_at h.th (by omega)).2⟩
  | 1, _ =>
    have hmn := h.mn
    refine ⟨sm, a1, by simp only [idx]; simp; omega, by omega, fun i hi => ?_⟩
    have hN : 16 < N := by omega
    have e : idx N 1 = 16 := by simp [idx]; omega
    rw [e]
    have hc := h.mor (16 + i) (by omega) (by omega)
    rw [show 16 + i - 16 = i by omega] at hc
    exact ⟨g, h.ma hN, .inr ⟨rfl, rfl⟩, hc, (there_at (h.mth hN) (by omega)).2⟩
theorem least_step (f : Nat → List Int) (n : Nat) : (f n = [] → least f (n + 1) = least f n) ∧ (∀ x r, f n = x :: r → least f (n + 1) = if least f n < 0 ∨ x < least f n then x else least f n) := by
  constructor
  · intro e; simp [least, e]
  · intro x r e; simp only [least, e]
end Go.Proofs.Qxb6600159a
