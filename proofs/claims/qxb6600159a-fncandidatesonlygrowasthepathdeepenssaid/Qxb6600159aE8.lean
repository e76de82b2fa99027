/-
  THE WALK: candidates.add.
-/
import Derived.Test.Qxb6600159aE7
namespace Go.Proofs.Qxb6600159a
open Go.RowKit Plain Go.Maps Go.WideMaps
set_option linter.unusedSimpArgs false

def AddPost (w : World) (C B N : Nat) (L : Nat → Sl) (s : Sl) (e : Ending) (w' : World) : Prop :=
  e = .returned (.tuple #[]) ∧ Fr C B w w' ∧ ((s.n = 0 ∧ Cand w' C B N L) ∨ (0 < s.n ∧ Cand w' C B (N + 1) (fun k => if k = N then s else L k)))

theorem Cand.drewN {w : World} {C B N : Nat} {L : Nat → Sl} (h : Cand w C B N L) (q : Nat) : Cand (w.drewN q) C B N L := ⟨h.th, h.inl, h.any, h.num, h.more, h.lt, h.le⟩
theorem news_new {W : World} {C : Array Value} {e : TypeId} : ∀ (j : Nat) u, C.toList[j]? = some u → (W.alloc (.cells C e)).cell? ((⟨W.heap.size, 0, none⟩ : Addr).add j) = some u := fun j u h => by
  rw [Addr.add_mid, Nat.zero_add, cell_of_row _ _ _ C e (0, 0) (heap_alloc_new W _)]; simpa using h

set_option maxHeartbeats 2000000 in
set_option maxRecDepth 100000 in
theorem add_any (C B N : Nat) (L : Nat → Sl) (s : Sl) (w : World) (hN : N ≤ 2097152) (h : Cand w C B N L) :
    Calls Try.prog 39 #[.pointer (some ⟨C, 0, none⟩), .slice s.a s.n s.c] w (AddPost w C B N L s) := by
  obtain ⟨a, n, c⟩ := s
  dsimp only
  by_cases h0 : n = 0
  · subst h0
    have H : Hid (Cand w C B N L) := h
    clear h
    go_enter Try.func39, Try.ntmps39
    go_wp2
    go_end0
    exact ⟨rfl, Fr.refl _ _ _, .inl ⟨rfl, H.out⟩⟩
  · have hne : ((n : Int) == 0) = false := by rw [beq_eq_false_iff_ne]; omega
    by_cases hN16 : N < 16
    · have hnum := h.num
      rw [Nat.min_eq_left (by omega)] at hnum
      obtain ⟨⟨u, t1⟩, t2⟩ := there_at h.th (show N < 18 by omega)
      obtain ⟨_, t4⟩ := there_at h.th (show 16 < 18 by omega)
      have H : Hid (Cand w C B N L) := h
      have hN1 : (N : Int) < 16 := by omega
      clear h
      go_enter Try.func39, Try.ntmps39
      go_upto_region 3 with fail
      go_region
      have e16 : ((w.setCell ⟨C, N, none⟩ (.slice a n c)).drew).cell? ⟨C, 16, none⟩ = some (.int .i64 N) := cell_set_other (by omega) _ _ hnum
      have f16 : ((w.setCell ⟨C, N, none⟩ (.slice a n c)).drew).frozen? ⟨C, 16, none⟩ = false := (there_at (there_set H.out.th N (.slice a n c)) (show 16 < 18 by omega)).2
      have hfin : AddPost w C B N L ⟨a, n, c⟩ (.returned (.tuple #[])) (((w.setCell ⟨C, N, none⟩ (.slice a n c)).drew).setCell ⟨C, 16, none⟩ (.int .i64 ((N : Int) + 1))) := by
        have hc := H.out.inline hN16 ⟨a, n, c⟩
        have hf := ((Fr.refl C B w).setCell N (.slice a n c)).setCell 16 (.int .i64 ((N : Int) + 1))
        exact ⟨rfl, ⟨hf.os, hf.tape, hf.output, hf.size, hf.block⟩, .inr ⟨by show 0 < n; omega, ⟨hc.th, hc.inl, hc.any, hc.num, hc.more, hc.lt, hc.le⟩⟩⟩
      have HFin : Hid (AddPost w C B N L ⟨a, n, c⟩ (.returned (.tuple #[])) (((w.setCell ⟨C, N, none⟩ (.slice a n c)).drew).setCell ⟨C, 16, none⟩ (.int .i64 ((N : Int) + 1)))) := hfin
      clear hfin hnum t1 t2 t4
      generalize (w.setCell ⟨C, N, none⟩ (.slice a n c)).drew = W1 at *
      go_wp2
      go_end0
      exact HFin.out
    · have hnum := h.num
      rw [Nat.min_eq_right (by omega)] at hnum
      obtain ⟨vm, hm1, hm2⟩ := h.more
      have H : Hid (Cand w C B N L) := h
      have HM : Hid (w.ownsRow B 26 1 vm (N - 16) ((List.range (N - 16)).map fun k => sv (L (16 + k)))) := hm2
      obtain ⟨i0, hi0, hz0, hz1, hz2⟩ := info_parts info26
      have HI0 : Hid _ := hi0
      have HZ0 : Hid _ := hz0
      have HZ1 : Hid _ := hz1
      have HZ2 : Hid _ := hz2
      have hB := h.le
      clear h hm2 hi0 hz0 hz1 hz2
      obtain ⟨XS, hXS⟩ : ∃ XS, (List.range (N - 16)).map (fun k => sv (L (16 + k))) = XS := ⟨_, rfl⟩
      rw [hXS] at HM
      have HXS : Hid ((List.range (N - 16)).map (fun k => sv (L (16 + k))) = XS) := hXS
      clear hXS
      go_enter Try.func39, Try.ntmps39
      go_wp2_with (at_builtin; refine wpList_append_own _ rfl (.tmp 8) (.tmp 10) 22 rfl B 26 i0 (.slice none 0 0) 1 24 Try.underlying22 HI0.out HZ0.out HZ1.out HZ2.out rfl (by decide) _ (N - 16) XS rfl ?_ ⟨w.heap.size, 0, none⟩ 1 1 [.slice a n c] rfl rfl ?_ ?_ (by unfold maxLen; omega) (by omega) ?_ ?_)
      · exact World.ownsRow.alloc HM.out _
      · exact news_new (W := w) (C := #[.slice a n c]) (e := 26)
      · intro u hu
        simp at hu
        subst hu
        rfl
      · simp; omega
      · intro v' w1 hown' hgrow _
        obtain ⟨sm, rfl⟩ : ∃ s : Sl, v' = .slice s.a s.n s.c := by
          rcases hown'.2 with ⟨rfl, _⟩ | ⟨g, cap, cur, rfl, _⟩
          · exact ⟨⟨none, 0, 0⟩, rfl⟩
          · exact ⟨⟨some ⟨g, 0, none⟩, _, cap⟩, rfl⟩
        have hbh := H.out.behind (by omega) ⟨a, n, c⟩ (by rw [HXS.out]; exact HM.out) (by rw [HXS.out]; exact hown') hgrow
        have hblk : w1.heap[C]? = w.heap[C]? := by
          have := H.out.lt
          rw [hgrow.block C (by simp; omega) (fun e => by have := (HM.out.lt C e.symm).1; omega), Below.heap_alloc _ _ _ (by omega)]
        have d1 : w1.cell? ⟨C, 17, none⟩ = some vm := by rw [World.cell?_of_block (w := w) hblk]; exact hm1
        have d2 : w1.frozen? ⟨C, 17, none⟩ = false := by rw [World.frozen?_of_block (w := w) hblk]; exact (there_at H.out.th (show 17 < 18 by omega)).2
        have HFin : Hid (AddPost w C B N L ⟨a, n, c⟩ (.returned (.tuple #[])) (w1.setCell ⟨C, 17, none⟩ (.slice sm.a sm.n sm.c))) := ⟨rfl, hbh.2, .inr ⟨by show 0 < n; omega, hbh.1⟩⟩
        clear hown' hgrow hbh hblk hm1 hnum
        go_wp2
        go_end0
        exact HFin.out
end Go.Proofs.Qxb6600159a
