/-
  THE WALK: drain.
-/
import Derived.Test.Qxb6600159aE15
namespace Go.Proofs.Qxb6600159a
open Go.RowKit Plain Go.Maps Go.WideMaps
set_option linter.unusedSimpArgs false

theorem heap_lt' {w : World} {k : Nat} {o : Obj} (h : w.heap[k]? = some o) : k < w.heap.size := by
  by_cases e : k < w.heap.size
  · exact e
  · rw [Array.getElem?_eq_none (by omega)] at h; cases h
theorem owns_fr2 {C g B m size : Nat} {e : TypeId} {w w' : World} {v : Value} {xs : List Value} (h : w.ownsRow B e size v m xs) (hf : Fr2 C g w w') (hC : C < B) (hg : g < B) : w'.ownsRow B e size v m xs := by
  obtain ⟨hl, h⟩ := h
  refine ⟨hl, ?_⟩
  rcases h with h | ⟨r, cap, cur, rfl, hB, hr, q⟩
  · exact .inl h
  · exact .inr ⟨r, cap, cur, rfl, hB, by rw [hf.block r (heap_lt' hr) (by omega) (by omega)]; exact hr, q⟩
theorem owns_rdI {w : World} {B m : Nat} {v : Value} {out : List Int} (h : w.ownsRow B 21 1 v m (out.map (Value.int .i32))) (hr : ∀ u ∈ out, -2147483648 ≤ u ∧ u ≤ 2147483647) : ∃ s : Sl, v = .slice s.a s.n s.c ∧ RdI w.heap.size w s out ∧ Lo B s := by
  obtain ⟨hl, h⟩ := h
  have hm : m = out.length := by simpa using hl.symm
  rcases h with ⟨rfl, h0⟩ | ⟨r, cap, cur, rfl, hB, hg, q1, q2, q3, q4⟩
  · exact ⟨⟨none, 0, 0⟩, rfl, ⟨by dsimp only; omega, ⟨Nat.le_refl _, hr⟩, fun h => absurd h (Nat.lt_irrefl 0)⟩, fun h => absurd h (Nat.lt_irrefl 0)⟩
  · refine ⟨⟨some ⟨r, 0, none⟩, m, cap⟩, rfl, ⟨hm, ⟨by dsimp only; omega, hr⟩, fun _ => ⟨r, 0, rfl, heap_lt' hg, fun k u hu => ?_⟩⟩, fun _ ad h => by cases h; exact hB⟩
    rw [cell_of_row w r _ _ _ _ hg, Nat.zero_add]
    have h' : (cur.toList.take (m * 1))[k]? = some (.int .i32 u) := by rw [q4, List.getElem?_map, hu]; rfl
    have hk : k < m := by have := (List.getElem?_eq_some_iff.1 hu).1; omega
    rw [List.getElem?_take_of_lt (by omega)] at h'
    simpa using h'

def DnPost (w : World) (C g N : Nat) (f0 : Nat → List Int) (e : Ending) (w' : World) : Prop :=
  ∃ (s : Sl) (out : List Int), e = .returned (.tuple #[.slice s.a s.n s.c, .bool true]) ∧ RdI w'.heap.size w' s out ∧ Lo w.heap.size s ∧ Asc out ∧ (∀ v, Mem f0 N v ↔ v ∈ out) ∧ out.length ≤ sum f0 N ∧ Fr2 C g w w'
def DnI (w : World) (C g N Bc : Nat) (sm : Sl) (f0 : Nat → List Int) (i : Nat) (v : Value) (wx : World) : Prop :=
  ∃ (out : List Int) (Lx : Nat → Sl) (fx : Nat → List Int), out.length = i ∧ wx.ownsRow w.heap.size 21 1 v i (out.map (Value.int .i32)) ∧ Dr wx C g N sm Lx ∧ (∀ k, k < N → RdI Bc wx (Lx k) (fx k)) ∧ Drained f0 N out fx ∧ Fr2 C g w wx

set_option maxHeartbeats 4000000 in
set_option maxRecDepth 100000 in
theorem drain_any (C g N Bc lim : Nat) (sm : Sl) (Ls : Nat → Sl) (f0 : Nat → List Int) (w : World) (h : Dr w C g N sm Ls) (hN : N ≤ 2097152) (hR : ∀ k, k < N → RdI Bc w (Ls k) (f0 k) ∧ Asc (f0 k)) (hB : Bc < C) (hsum : sum f0 N ≤ lim) (hlim : lim ≤ 2097152) :
    Calls Try.prog 13 #[.pointer (some ⟨C, 0, none⟩), .int .i64 lim] w (DnPost w C g N f0) := by
  have hCl := h.lt
  have hgl := h.gt
  have hcg := h.ne
  have HI0 : Hid (DnI w C g N Bc sm f0 0 (.slice none 0 0) w) := ⟨[], Ls, f0, rfl, World.ownsRow_nil _ _ _ _, h, fun k hk => (hR k hk).1, Drained.start (fun k hk => (hR k hk).2), Fr2.of_below (Below.refl _ _)⟩
  have HRng : Hid (∀ v, Mem f0 N v → -2147483648 ≤ v ∧ v ≤ 2147483647) := fun v ⟨k, hk, hv⟩ => (hR k hk).1.2.1.2 v hv
  clear h hR
  go_enter Try.func13, Try.ntmps13
  go_wp2
  go_loopg [6, 7] (lim + 1) (fun gh s6 s7 wx => ∃ i : Nat, i + gh = lim + 1 ∧ s7 = .int .i64 i ∧ DnI w C g N Bc sm f0 i s6 wx)
  case atStart => exact ⟨0, by omega, rfl, HI0.out⟩
  case round =>
    obtain ⟨i, hig, rfl, out, Lx, fx, hol, hown, hD, hRx, hDr, hF⟩ := hrel
    have hle : i ≤ lim := by have := hDr.len; omega
    cases gk with
    | zero => omega
    | succ gh =>
      have hi1 : (i : Int) ≤ (lim : Int) := by omega
      have HC : Hid (Calls Try.prog 19 #[.pointer (some ⟨C, 0, none⟩)] wr (NxPost wr C g N Bc sm Lx fx)) := zznext_any C g N Bc sm Lx fx wr hD hN (fun k hk => ⟨hRx k hk, hDr.asc k hk⟩) hB
      have HO : Hid (wr.ownsRow w.heap.size 21 1 u6 i (out.map (Value.int .i32))) := hown
      have HDr : Hid (Drained f0 N out fx) := hDr
      have HF : Hid (Fr2 C g w wr) := hF
      clear hown hD hRx hDr hF HI0
      go_upto_if 21 with (go_at_call 19; refine Calls.mono HC.out ?_; rintro e w1 ⟨hF1, (⟨hl, rfl, hD1⟩ | ⟨hl, rfl, Ls', hD1, hR1⟩)⟩)
      · have hrng : ∀ u ∈ out, -2147483648 ≤ u ∧ u ≤ 2147483647 := fun u hu => HRng.out u ((HDr.out.done hl u).2 hu)
        obtain ⟨s, rfl, hrd, hlo⟩ := owns_rdI (owns_fr2 HO.out hF1 hCl hgl) hrng
        have HP : Hid (DnPost w C g N f0 (.returned (.tuple #[.slice s.a s.n s.c, .bool true])) w1) := ⟨s, out, rfl, hrd, hlo, HDr.out.oasc, HDr.out.done hl, by have := HDr.out.len; omega, HF.out.trans hF1⟩
        clear hrd hlo hrng
        go_wp2
        go_ret2
        exact HP.out
      · have hsz1 := hF1.size
        have hsz0 := HF.out.size
        have HO1 : Hid (w1.ownsRow w.heap.size 21 1 u6 i (out.map (Value.int .i32))) := owns_fr2 HO.out hF1 hCl hgl
        have HF1 : Hid (Fr2 C g w w1) := HF.out.trans hF1
        have HNx := HDr.out.next hl
        have HNX : Hid (Drained f0 N (out ++ [least fx N]) (fun k => drop1 (least fx N) (fx k))) := HNx
        have HD1 : Hid (Dr w1 C g N sm Ls') := hD1
        have HR1 : Hid (∀ k, k < N → RdI Bc w1 (Ls' k) (drop1 (least fx N) (fx k))) := hR1
        clear HNx hD1 hR1 hF1
        obtain ⟨XS, hXS⟩ : ∃ XS, out.map (Value.int .i32) = XS := ⟨_, rfl⟩
        rw [hXS] at HO1
        have HXS : Hid (out.map (Value.int .i32) = XS) := hXS
        clear hXS HO
        obtain ⟨i0, hi0, hz0, hz1, hz2⟩ := info_parts info21
        have HQ0 : Hid _ := hi0
        have HZ0 : Hid _ := hz0
        have HZ1 : Hid _ := hz1
        have HZ2 : Hid _ := hz2
        clear hi0 hz0 hz1 hz2
        generalize hlq : least fx N = l at *
        clear hlq
        go_wp2_with (at_builtin; refine wpList_append_own _ rfl (.tmp 23) (.tmp 25) 26 rfl w.heap.size 21 i0 (.int .i32 0) 1 4 Try.underlying26 HQ0.out HZ0.out HZ1.out HZ2.out rfl (by decide) _ i XS rfl ?_ ⟨w1.heap.size, 0, none⟩ 1 1 [.int .i32 l] rfl rfl ?_ ?_ (by unfold maxLen; omega) (by omega) ?_ ?_)
        · exact World.ownsRow.alloc HO1.out _
        · exact news_new (W := w1) (C := #[.int .i32 l]) (e := 21)
        · intro u hu
          simp at hu
          subst hu
          rfl
        · simp; omega
        · intro v' w2 hown' hgrow _
          have hb2 : Below w.heap.size w1 w2 := ((Below.refl _ _).alloc (by omega) _).grown hgrow (by simp; omega) (fun k hk => (HO1.out.lt k hk).1)
          have HN : Hid (DnI w C g N Bc sm f0 (i + 1) v' w2) := ⟨out ++ [l], Ls', fun k => drop1 l (fx k), by simp [hol], by rw [List.map_append, HXS.out]; exact hown', HD1.out.keep hb2.size (hb2.block _ hCl) (fun _ => hb2.block _ hgl), fun k hk => (HR1.out k hk).below (hb2.mono (by omega)), HNX.out, ⟨hb2.os.trans HF1.out.os, hb2.tape.trans HF1.out.tape, hb2.output.trans HF1.out.output, Nat.le_trans HF1.out.size hb2.size, fun k hk h1 h2 => (hb2.block k hk).trans (HF1.out.block k hk h1 h2)⟩⟩
          clear hown' hgrow
          go_wp2
          go_roundg gh
          case measure => omega
          case rel => exact ⟨i + 1, by omega, by go_num, HN.out⟩
end Go.Proofs.Qxb6600159a
