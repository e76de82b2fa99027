/-
  THE WALKS: candidates.add.
-/
import Derived.Test.Qxb6600159aE6
namespace Go.Proofs.Qxb6600159a
open Go.RowKit Plain Go.Maps Go.WideMaps
set_option linter.unusedSimpArgs false

/-- Below B only block C turned. -/
structure Fr (C B : Nat) (w w' : World) : Prop where
  os : w'.os = w.os
  tape : w'.tape = w.tape
  output : w'.output = w.output
  size : w.heap.size ≤ w'.heap.size
  block : ∀ k, k < B → k ≠ C → w'.heap[k]? = w.heap[k]?
theorem Fr.refl (C B : Nat) (w : World) : Fr C B w w := ⟨rfl, rfl, rfl, Nat.le_refl _, fun _ _ _ => rfl⟩
theorem Fr.trans {C B : Nat} {a b c : World} (h : Fr C B a b) (h' : Fr C B b c) : Fr C B a c :=
  ⟨h'.os.trans h.os, h'.tape.trans h.tape, h'.output.trans h.output, Nat.le_trans h.size h'.size, fun k hk hne => (h'.block k hk hne).trans (h.block k hk hne)⟩
theorem Fr.below {C B : Nat} {a b : World} (h : Fr C B a b) {B' : Nat} (h1 : B' ≤ C) (h2 : B' ≤ B) : Below B' a b := ⟨h.os, h.tape, h.output, h.size, fun k hk => h.block k (by omega) (by omega)⟩
theorem Fr.setCell {C B : Nat} {a b : World} (h : Fr C B a b) (o : Nat) (v : Value) : Fr C B a (b.setCell ⟨C, o, none⟩ v) :=
  ⟨h.os, h.tape, h.output, by have := h.size; simpa [World.setCell] using this, fun k hk hne => by rw [Below.heap_setCell _ _ _ _ hne]; exact h.block k hk hne⟩
theorem Fr.alloc {C B : Nat} {a b : World} (h : Fr C B a b) (hB : B ≤ b.heap.size) (o : Obj) : Fr C B a (b.alloc o) :=
  ⟨h.os, h.tape, h.output, by have := h.size; simp; omega, fun k hk hne => by rw [Below.heap_alloc _ _ _ (by omega)]; exact h.block k hk hne⟩
theorem Fr.drewN {C B : Nat} {a b : World} (h : Fr C B a b) (q : Nat) : Fr C B a (b.drewN q) := ⟨h.os, h.tape, h.output, h.size, h.block⟩
theorem Fr.grown {C B : Nat} {a b c : World} {row : Option Nat} (h : Fr C B a b) (hg : b.grownBy c row) (hB : B ≤ b.heap.size) (hr : ∀ k, row = some k → B ≤ k) : Fr C B a c :=
  ⟨hg.os.trans h.os, hg.tape.trans h.tape, hg.output.trans h.output, Nat.le_trans h.size hg.size, fun k hk hne => (hg.block k (by omega) (fun e => by have := hr k e.symm; omega)).trans (h.block k hk hne)⟩

def sv (s : Sl) : Value := .slice s.a s.n s.c
/-- The lists that are in the struct of block C: N of them. -/
structure Cand (w : World) (C B N : Nat) (L : Nat → Sl) : Prop where
  th : w.there C 0 18
  inl : ∀ k, k < 16 → k < N → w.cell? ⟨C, k, none⟩ = some (.slice (L k).a (L k).n (L k).c)
  any : ∀ k, k < 16 → ∃ s : Sl, w.cell? ⟨C, k, none⟩ = some (.slice s.a s.n s.c)
  num : w.cell? ⟨C, 16, none⟩ = some (.int .i64 (min N 16 : Nat))
  more : ∃ vm, w.cell? ⟨C, 17, none⟩ = some vm ∧ w.ownsRow B 26 1 vm (N - 16) ((List.range (N - 16)).map fun k => sv (L (16 + k)))
  lt : C < B
  le : B ≤ w.heap.size
theorem there_at {w : World} {b n : Nat} (h : w.there b 0 n) {k : Nat} (hk : k < n) : (∃ u, w.cell? ⟨b, k, none⟩ = some u) ∧ w.frozen? ⟨b, k, none⟩ = false := by
  obtain ⟨t1, t2⟩ := h k hk
  rw [Nat.zero_add] at t1 t2
  exact ⟨Option.isSome_iff_exists.1 t1, t2⟩
theorem cell_set_same {w : World} {b o : Nat} (h : ∃ u, w.cell? ⟨b, o, none⟩ = some u) (hf : w.frozen? ⟨b, o, none⟩ = false) (v : Value) : (w.setCell ⟨b, o, none⟩ v).cell? ⟨b, o, none⟩ = some v := by
  have hth : w.there b o 1 := fun j hj => by
    obtain rfl : j = 0 := by omega
    obtain ⟨u, hu⟩ := h
    exact ⟨by rw [Nat.add_zero, hu]; rfl, hf⟩
  exact World.rangeAt_setCells_same w b o [v] hth 0 _ rfl
theorem cell_set_other {w : World} {b o k : Nat} (hk : k ≠ o) (v u : Value) (h : w.cell? ⟨b, k, none⟩ = some u) : (w.setCell ⟨b, o, none⟩ v).cell? ⟨b, k, none⟩ = some u := by
  have h0 : w.rangeAt b k [u] := fun j x hx => by
    match j, hx with
    | 0, hx => simp at hx; subst hx; exact h
    | j + 1, hx => simp at hx
  exact World.rangeAt_setCells_apart h0 b o [v] (.inr (by simp; omega)) 0 _ rfl
theorem there_set {w : World} {b n : Nat} (h : w.there b 0 n) (o : Nat) (v : Value) : (w.setCell ⟨b, o, none⟩ v).there b 0 n := World.there_setCells h b o [v]

/-- One more list, inline. -/
theorem Cand.inline {w : World} {C B N : Nat} {L : Nat → Sl} (h : Cand w C B N L) (hN : N < 16) (s : Sl) :
    Cand ((w.setCell ⟨C, N, none⟩ (.slice s.a s.n s.c)).setCell ⟨C, 16, none⟩ (.int .i64 (N + 1 : Nat))) C B (N + 1) (fun k => if k = N then s else L k) := by
  obtain ⟨vm, hm1, hm2⟩ := h.more
  have h1 := there_set h.th N (.slice s.a s.n s.c)
  refine ⟨there_set h1 16 _, fun k hk hkN => ?_, fun k hk => ?_, ?_, ⟨vm, ?_, ?_⟩, h.lt, by simpa [World.setCell] using h.le⟩
  · refine cell_set_other (by omega) _ _ ?_
    by_cases e : k = N
    · subst e
      simp only [if_true]
      exact cell_set_same (there_at h.th (by omega)).1 (there_at h.th (by omega)).2 _
    · simp only [if_neg e]
      exact cell_set_other e _ _ (h.inl k hk (by omega))
  · by_cases e : k = N
    · subst e
      exact ⟨s, cell_set_other (by omega) _ _ (cell_set_same (there_at h.th (by omega)).1 (there_at h.th (by omega)).2 _)⟩
    · obtain ⟨s', hs'⟩ := h.any k hk
      exact ⟨s', cell_set_other (by omega) _ _ (cell_set_other e _ _ hs')⟩
  · rw [Nat.min_eq_left (by omega)]
    exact cell_set_same (there_at h1 (by omega)).1 (there_at h1 (by omega)).2 _
  · exact cell_set_other (by omega) _ _ (cell_set_other (by omega) _ _ hm1)
  · rw [show N + 1 - 16 = 0 by omega]
    rw [show N - 16 = 0 by omega] at hm2
    exact ownsRow_setCell_below (ownsRow_setCell_below hm2 (a := ⟨C, N, none⟩) h.lt _) (a := ⟨C, 16, none⟩) h.lt _
/-- One more list, behind them. -/
theorem Cand.behind {w w1 : World} {C B N : Nat} {L : Nat → Sl} (h : Cand w C B N L) (hN : 16 ≤ N) (s : Sl) {vm v' : Value} {o1 : Obj} (hm2 : w.ownsRow B 26 1 vm (N - 16) ((List.range (N - 16)).map fun k => sv (L (16 + k))))
    (hown' : w1.ownsRow B 26 1 v' (N - 16 + 1) (((List.range (N - 16)).map fun k => sv (L (16 + k))) ++ [sv s])) (hgrow : (w.alloc o1).grownBy w1 vm.ownBlock) :
    Cand (w1.setCell ⟨C, 17, none⟩ v') C B (N + 1) (fun k => if k = N then s else L k) ∧ Fr C B w (w1.setCell ⟨C, 17, none⟩ v') := by
  have hB := h.le
  have hlt := h.lt
  have hblk : w1.heap[C]? = w.heap[C]? := by
    rw [hgrow.block C (by simp; omega) (fun e => by have := (hm2.lt C e.symm).1; omega), Below.heap_alloc _ _ _ (by omega)]
  have hcell : ∀ k, w1.cell? ⟨C, k, none⟩ = w.cell? ⟨C, k, none⟩ := fun k => World.cell?_of_block (w := w) hblk
  have hth : w1.there C 0 18 := fun j hj => by
    rw [World.cell?_of_block (w := w) hblk, World.frozen?_of_block (w := w) hblk]; exact h.th j hj
  have hs := hgrow.size
  simp at hs
  refine ⟨⟨there_set hth 17 _, fun k hk hkN => ?_, fun k hk => ?_, ?_, ⟨v', ?_, ?_⟩, h.lt, by simp [World.setCell]; omega⟩, ?_⟩
  · rw [if_neg (by omega)]
    exact cell_set_other (by omega) _ _ (by rw [hcell]; exact h.inl k hk (by omega))
  · obtain ⟨s', hs'⟩ := h.any k hk
    exact ⟨s', cell_set_other (by omega) _ _ (by rw [hcell]; exact hs')⟩
  · have := h.num
    rw [Nat.min_eq_right (by omega)] at this ⊢
    exact cell_set_other (by omega) _ _ (by rw [hcell]; exact this)
  · exact cell_set_same (there_at hth (by omega)).1 (there_at hth (by omega)).2 _
  · have e : (List.range (N + 1 - 16)).map (fun k => sv (if 16 + k = N then s else L (16 + k))) = ((List.range (N - 16)).map fun k => sv (L (16 + k))) ++ [sv s] := by
      rw [show N + 1 - 16 = (N - 16) + 1 by omega, List.range_succ, List.map_append]
      congr 1
      · refine List.map_congr_left fun k hk => ?_
        simp at hk
        rw [if_neg (by omega)]
      · simp [show 16 + (N - 16) = N by omega]
    rw [e, show N + 1 - 16 = N - 16 + 1 by omega]
    exact ownsRow_setCell_below hown' (a := ⟨C, 17, none⟩) h.lt _
  · refine Fr.setCell ?_ _ _
    exact ((Fr.refl C B w).alloc h.le o1).grown hgrow (by simp; omega) (fun k hk => (hm2.lt k hk).1)
end Go.Proofs.Qxb6600159a
