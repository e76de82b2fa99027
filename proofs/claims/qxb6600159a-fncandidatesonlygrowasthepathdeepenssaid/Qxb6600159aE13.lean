/-
  WHAT candidates.next KEEPS.
-/
import Derived.Test.Qxb6600159aE12
namespace Go.Proofs.Qxb6600159a
open Go.RowKit Plain Go.Maps Go.WideMaps
set_option linter.unusedSimpArgs false

/-- Of the old blocks only C and g turned. -/
structure Fr2 (C g : Nat) (w w' : World) : Prop where
  os : w'.os = w.os
  tape : w'.tape = w.tape
  output : w'.output = w.output
  size : w.heap.size ≤ w'.heap.size
  block : ∀ k, k < w.heap.size → k ≠ C → k ≠ g → w'.heap[k]? = w.heap[k]?
theorem Fr2.of_below {C g : Nat} {w w' : World} (h : Below w.heap.size w w') : Fr2 C g w w' := ⟨h.os, h.tape, h.output, h.size, fun k hk _ _ => h.block k hk⟩
theorem Fr2.trans {C g : Nat} {a b c : World} (h : Fr2 C g a b) (h' : Fr2 C g b c) : Fr2 C g a c :=
  ⟨h'.os.trans h.os, h'.tape.trans h.tape, h'.output.trans h.output, Nat.le_trans h.size h'.size, fun k hk h1 h2 => (h'.block k (by have := h.size; omega) h1 h2).trans (h.block k hk h1 h2)⟩
theorem Fr2.below {C g B : Nat} {w w' : World} (h : Fr2 C g w w') (h1 : B ≤ C) (h2 : B ≤ g) (h3 : B ≤ w.heap.size) : Below B w w' := ⟨h.os, h.tape, h.output, h.size, fun k hk => h.block k (by omega) (by omega) (by omega)⟩
theorem Fr2.set {C g b : Nat} (w : World) (hb : b = C ∨ b = g) (o : Nat) (v : Value) : Fr2 C g w (w.setCell ⟨b, o, none⟩ v) :=
  ⟨rfl, rfl, rfl, by simp [World.setCell], fun k _ h1 h2 => Below.heap_setCell _ _ _ _ (by rcases hb with rfl | rfl <;> assumption)⟩
/-- A list is stored. -/
theorem Dr.set {w : World} {C g N : Nat} {sm : Sl} {Ls : Nat → Sl} (h : Dr w C g N sm Ls) {b base i : Nat} (hb : (b = C ∧ base = 0 ∧ i < 16) ∨ (b = g ∧ base = 16)) (hk : base + i < N) (s : Sl) :
    Dr (w.setCell ⟨b, i, none⟩ (.slice s.a s.n s.c)) C g N sm (fun q => if q = base + i then s else Ls q) := by
  have hne := h.ne
  have hsz : (w.setCell ⟨b, i, none⟩ (.slice s.a s.n s.c)).heap.size = w.heap.size := by simp [World.setCell]
  rcases hb with ⟨rfl, rfl, hi⟩ | ⟨rfl, rfl⟩
  · have hg : (w.setCell ⟨b, i, none⟩ (.slice s.a s.n s.c)).heap[g]? = w.heap[g]? := Below.heap_setCell _ _ _ _ (by show g ≠ b; omega)
    refine ⟨there_set h.th _ _, fun k h1 h2 => ?_, cell_set_other (by omega) _ _ h.num, cell_set_other (by omega) _ _ h.mv, h.mn, h.ma, fun hN j hj => ?_, fun k h1 h2 => ?_, by rw [hsz]; exact h.lt, by rw [hsz]; exact h.gt, h.ne⟩
    · by_cases e : k = i
      · subst e
        simp only [Nat.zero_add, if_true]
        exact cell_set_same (there_at h.th (by omega)).1 (there_at h.th (by omega)).2 _
      · simp only [Nat.zero_add, if_neg e]
        exact cell_set_other e _ _ (h.inl k h1 h2)
    · rw [World.cell?_of_block (w := w) hg, World.frozen?_of_block (w := w) hg]; exact h.mth hN j hj
    · rw [if_neg (by omega), World.cell?_of_block (w := w) hg]; exact h.mor k h1 h2
  · have hC : (w.setCell ⟨b, i, none⟩ (.slice s.a s.n s.c)).heap[C]? = w.heap[C]? := Below.heap_setCell _ _ _ _ (by show C ≠ b; omega)
    have e1 : ∀ k, (w.setCell ⟨b, i, none⟩ (.slice s.a s.n s.c)).cell? ⟨C, k, none⟩ = w.cell? ⟨C, k, none⟩ := fun k => World.cell?_of_block (w := w) hC
    have hth := h.mth (by omega)
    refine ⟨fun j hj => ?_, fun k h1 h2 => ?_, by rw [e1]; exact h.num, by rw [e1]; exact h.mv, h.mn, h.ma, fun _ => there_set hth _ _, fun k h1 h2 => ?_, by rw [hsz]; exact h.lt, by rw [hsz]; exact h.gt, h.ne⟩
    · rw [World.cell?_of_block (w := w) hC, World.frozen?_of_block (w := w) hC]; exact h.th j hj
    · rw [if_neg (by omega), e1]; exact h.inl k h1 h2
    · by_cases e : k = 16 + i
      · subst e
        simp only [if_true]
        rw [show 16 + i - 16 = i by omega]
        exact cell_set_same (there_at hth (by omega)).1 (there_at hth (by omega)).2 _
      · simp only [if_neg e]
        exact cell_set_other (by omega) _ _ (h.mor k h1 h2)
def upd (l : Int) (f : Nat → List Int) (n k : Nat) : List Int := if k < n then drop1 l (f k) else f k
def NxPost (w : World) (C g N Bc : Nat) (sm : Sl) (Ls : Nat → Sl) (f : Nat → List Int) (e : Ending) (w' : World) : Prop :=
  Fr2 C g w w' ∧ ((least f N < 0 ∧ e = .returned (.tuple #[.int .i32 0, .bool false]) ∧ Dr w' C g N sm Ls) ∨
    (0 ≤ least f N ∧ e = .returned (.tuple #[.int .i32 (least f N), .bool true]) ∧ ∃ Ls', Dr w' C g N sm Ls' ∧ ∀ k, k < N → RdI Bc w' (Ls' k) (drop1 (least f N) (f k))))
/-- The second pass: what holds when n lists are done. -/
def P2 (w : World) (C g N Bc Ar m : Nat) (sm : Sl) (l : Int) (f : Nat → List Int) (n : Nat) (wx : World) : Prop :=
  Fr2 C g w wx ∧ wx.cell? ⟨Ar, 0, none⟩ = some (.slice (some ⟨C, 0, none⟩) m 16) ∧ wx.cell? ⟨Ar, 1, none⟩ = some (.slice sm.a sm.n sm.c) ∧ ∃ Lx, Dr wx C g N sm Lx ∧ ∀ k, k < N → RdI Bc wx (Lx k) (upd l f n k)
section
variable {w wx : World} {C g N Bc Ar m : Nat} {sm : Sl} {l : Int} {f : Nat → List Int} {n : Nat}
theorem upd_step (hd : drop1 l (f n) = f n) (k : Nat) : upd l f (n + 1) k = upd l f n k := by
  unfold upd
  by_cases e : k = n
  · subst e; rw [if_pos (by omega), if_neg (by omega), hd]
  · by_cases h : k < n
    · rw [if_pos (by omega), if_pos h]
    · rw [if_neg (by omega), if_neg h]
theorem P2.skip (h : P2 w C g N Bc Ar m sm l f n wx) (hd : drop1 l (f n) = f n) : P2 w C g N Bc Ar m sm l f (n + 1) wx := by
  obtain ⟨h1, h2, h3, Lx, h4, h5⟩ := h
  exact ⟨h1, h2, h3, Lx, h4, fun k hk => by rw [upd_step hd]; exact h5 k hk⟩
theorem P2.put {Lx : Nat → Sl} {b base i : Nat} {s : Sl} (h1 : Fr2 C g w wx) (h2 : wx.cell? ⟨Ar, 0, none⟩ = some (.slice (some ⟨C, 0, none⟩) m 16)) (h3 : wx.cell? ⟨Ar, 1, none⟩ = some (.slice sm.a sm.n sm.c)) (h4 : Dr wx C g N sm Lx) (h5 : ∀ k, k < N → RdI Bc wx (Lx k) (upd l f (base + i) k))
    (hAC : Ar ≠ C) (hAg : Ar ≠ g) (hBC : Bc < C) (hb : (b = C ∧ base = 0 ∧ i < 16) ∨ (b = g ∧ base = 16)) (hk : base + i < N) (hs : RdI Bc wx s (drop1 l (f (base + i)))) : P2 w C g N Bc Ar m sm l f (base + i + 1) (wx.setCell ⟨b, i, none⟩ (.slice s.a s.n s.c)) := by
  have hbb : b = C ∨ b = g := by rcases hb with h | h <;> simp [h.1]
  have hf := Fr2.set (C := C) (g := g) wx hbb i (.slice s.a s.n s.c)
  have hlt := h4.lt
  have hgt := h4.gt
  have hcg := h4.ne
  have hbel : Below Bc wx (wx.setCell ⟨b, i, none⟩ (.slice s.a s.n s.c)) := hf.below (Nat.le_of_lt hBC) (by omega) (by omega)
  have hA : (wx.setCell ⟨b, i, none⟩ (.slice s.a s.n s.c)).heap[Ar]? = wx.heap[Ar]? := Below.heap_setCell _ _ _ _ (by rcases hbb with rfl | rfl <;> assumption)
  refine ⟨h1.trans hf, by rw [World.cell?_of_block (w := wx) hA]; exact h2, by rw [World.cell?_of_block (w := wx) hA]; exact h3, _, h4.set hb hk s, fun k hkN => ?_⟩
  by_cases e : k = base + i
  · subst e
    simp only [if_true]
    unfold upd
    rw [if_pos (by omega)]
    exact hs.below hbel
  · simp only [if_neg e]
    have : upd l f (base + i + 1) k = upd l f (base + i) k := by
      unfold upd
      by_cases h : k < base + i
      · rw [if_pos (by omega), if_pos h]
      · rw [if_neg (by omega), if_neg h]
    rw [this]
    exact (h5 k hkN).below hbel
theorem P2.hdr {wy : World} {n' j : Nat} (h : P2 w C g N Bc Ar m sm l f n wx) (h' : P2 w C g N Bc Ar m sm l f n' wy) (hj : j < 2) : wx.cell? ⟨Ar, j, none⟩ = wy.cell? ⟨Ar, j, none⟩ := by
  match j, hj with
  | 0, _ => exact h.2.1.trans h'.2.1.symm
  | 1, _ => exact h.2.2.1.trans h'.2.2.1.symm
theorem P2.done (h : P2 w C g N Bc Ar m sm (least f N) f N wx) (hl : 0 ≤ least f N) (Ls : Nat → Sl) : NxPost w C g N Bc sm Ls f (.returned (.tuple #[.int .i32 (least f N), .bool true])) wx := by
  obtain ⟨h1, _, _, Lx, h4, h5⟩ := h
  exact ⟨h1, .inr ⟨hl, rfl, Lx, h4, fun k hk => by have := h5 k hk; unfold upd at this; rwa [if_pos hk] at this⟩⟩
end

end Go.Proofs.Qxb6600159a
