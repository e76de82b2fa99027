/-
  THE WALKS, third part: ZZVotesAdd.
-/
import Derived.Test.Qxb6600052aW2
namespace Go.Proofs.Qxb6600052a
open Go.RowKit

theorem info23 {A : Array Value} {f : Nat → Nat} (h : Tab A f) : (Try.prog.info? 23).map (·.size) = some A.size := by rw [h.1]; kernel_rfl
theorem info35 {A : Array Value} {f : Nat → Nat} (h : Tab A f) : (Try.prog.info? 35).map (·.size) = some A.size := by rw [h.1]; kernel_rfl
theorem Tab.one {A : Array Value} {f : Nat → Nat} (h : Tab A f) : A.all (·.oneCell') = true := by
  rw [Array.all_eq_true_iff_forall_mem]
  intro v hv
  obtain ⟨k, hk, rfl⟩ := Array.mem_iff_getElem.1 hv
  have := h.2 k (by rw [← h.1]; exact hk)
  rw [Array.getElem?_eq_getElem hk] at this
  rw [Option.some.inj this]; rfl

theorem add_at (A : Array Value) (f : Nat → Nat) (hT : Tab A f) (s n : Nat) (hn : n ≤ 32) (hs : s < 256) (hf0 : ∀ a, n < a → f a = 0) (hf : ∀ a, f a < 2 ^ (n + 1)) (w : World) (k : Nat) (hk : w.heap.size = k) :
    Calls Try.prog 20 #[.pointer (some ⟨k, 0, none⟩), .int .u8 s, .int .i64 n] (w.alloc (.cells A 35)) (AddPost f s n w) := by
  subst hk; exact add_any A f hT s n hn hs hf0 hf w

def ZZPost (f : Nat → Nat) (s n : Nat) (w : World) (e : Ending) (w' : World) : Prop :=
  ∃ B g, e = .returned (.agg B) ∧ Tab B g ∧ Plain.Inv f s n 0 g ∧ Below w.heap.size w w'

theorem below_drews {B : Nat} {a w : World} (h : Below B a w) (n : Nat) : Below B a (w.drewN n) := h.trans ⟨rfl, rfl, rfl, Nat.le_refl _, fun _ _ => rfl⟩
theorem below_setRow {B : Nat} {a w : World} (h : Below B a w) (g : Nat) (hg : B ≤ g) (c : Array Value) : Below B a (w.setRow g c) :=
  h.trans ⟨rfl, rfl, rfl, by simp, fun k hk => setRow_other w g k c (by omega)⟩

/-- A whole array into the block that was made last. -/
theorem wpList_store_last {ops : Array Oper} {rest : List Oper} {o : Oper} {a : Act} {W : World} {Q : Exit → Act → World → Prop} (hgd : o.guard = none) (ty : TypeId) (x y : Operand) (ho : o.op = .store ty x y)
    (k : Nat) (cells : Array Value) (hx : a.eval x = .pointer (some ⟨k, 0, none⟩)) (hy : a.eval y = .agg cells) (t : TypeId) (old : Array Value) (hk : W.heap.size = k)
    (hi : (Try.prog.info? ty).map (·.size) = some cells.size) (hold : old.size = cells.size) (h1 : cells.all (·.oneCell') = true)
    (h : wpList Try.prog ops Q rest (a.put o.dst undef) (W.alloc (.cells cells t))) : wpList Try.prog ops Q (o :: rest) a (W.alloc (.cells old t)) := by
  subst hk
  refine wpList_store_row hgd ty x y ho W.heap.size cells hx hy t old (heap_alloc_last W _) hi hold h1 ?_
  rw [World.setRow_alloc_new]; exact h

theorem three_last (w : World) (a b c : Obj) (nq : Nat) : ((((w.alloc a).alloc b).alloc c).drewN nq).heap[w.heap.size + 1 + 1]? = some c := by
  have h := heap_alloc_last ((w.alloc a).alloc b) c
  simpa using h
theorem three_mid (w : World) (a b c : Obj) (nq : Nat) : ((((w.alloc a).alloc b).alloc c).drewN nq).heap[w.heap.size + 1]? = some b := by
  show (((w.alloc a).alloc b).alloc c).heap[w.heap.size + 1]? = some b
  rw [Below.heap_alloc _ _ _ (by simp)]
  have h := heap_alloc_last (w.alloc a) b
  simpa using h

set_option maxHeartbeats 1000000 in
set_option maxRecDepth 100000 in
theorem zz_any (A : Array Value) (f : Nat → Nat) (hT : Tab A f) (s n : Nat) (hn : n ≤ 32) (hs : s < 256) (hf0 : ∀ a, n < a → f a = 0) (hf : ∀ a, f a < 2 ^ (n + 1)) (w : World) :
    Calls Try.prog 10 #[.agg A, .int .u8 s, .int .i64 n] w (ZZPost f s n w) := by
  have HF0 : Hid (∀ a, n < a → f a = 0) := hf0
  have HF : Hid (∀ a, f a < 2 ^ (n + 1)) := hf
  clear hf0 hf
  have I23 : Hid _ := info23 hT
  have I35 : Hid _ := info35 hT
  go_enter Try.func10, Try.ntmps10
  go_wp2_with (first
    | (refine wpList_load_row rfl 23 (.tmp 3) rfl w.heap.size rfl 23 A (0, 0) (.array 33 22) (heap_alloc2_old w _ _) Try.underlying23 rfl I23.out ?_)
    | (refine wpList_store_last rfl 35 (.tmp 7) (.tmp 8) rfl (w.heap.size + 2) A rfl rfl 35 _ (by simp) I35.out (by exact hT.1.symm) hT.one ?_)
    | (go_at_call 20; refine (add_at A f hT s n hn hs HF0.out HF.out _ _ (by simp)).mono ?_; rintro e w' ⟨rfl, nq, B, g, hB, hI, rfl⟩)
    | (refine wpList_load_row rfl 35 (.tmp 7) rfl (w.heap.size + 1 + 1) rfl 35 B (0, 0) (.array 33 22) (three_last w _ _ _ _) Try.underlying35 rfl (info35 hB) ?_)
    | (refine wpList_store_row rfl 23 (.tmp 6) (.tmp 12) rfl (w.heap.size + 1) B rfl rfl 23 _ (three_mid w _ _ _ _) (info23 hB) (by exact hB.1.symm) hB.one ?_))
  refine bodyPost_ret (v := .agg B) ?_ rfl ⟨B, g, rfl, hB, hI, ?_⟩
  · exact results_cell_row (p := 6) (ty := 23) rfl _ _ (w.heap.size + 1) 23 B (0, 0) (.array 33 22) rfl (setRow_heap _ _ _ _ _ _ (three_mid w _ _ _ _)) Try.underlying23 rfl (info23 hB)
  · exact below_setRow (below_drews ((((Below.refl _ _).alloc (Nat.le_refl _) _).alloc (by simp) _).alloc (by simp; omega) _) _) _ (by omega) _
end Go.Proofs.Qxb6600052a
