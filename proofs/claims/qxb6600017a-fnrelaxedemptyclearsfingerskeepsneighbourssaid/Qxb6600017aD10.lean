/-
  THE WALKS: relaxedTables.empty, ZZRelaxedEmpty_b1.
-/
import Derived.Test.Qxb6600017aD9
import Derived.Lib.SliceRun
import Derived.BigFrame
namespace Go.Proofs.Qxb6600017a
open Go.RowKit
set_option linter.unusedSimpArgs false

/-- The zero finger. -/
def zf : List Value := [.int .u64 0, .int .u64 0, .int .u64 0, .int .i32 0, .bool false]
theorem zero70 (w : World) : (zeroValue 70).run Try.prog w = .ok (.agg zf.toArray) w := by kernel_rfl

theorem setCells_other (k b : Nat) (hk : k ≠ b) (vs : List Value) : ∀ (w : World) (o : Nat), (w.setCells b o vs).heap[k]? = w.heap[k]? := by
  induction vs with
  | nil => intro w o; rfl
  | cons v vs ih => intro w o; rw [World.setCells, ih]; exact Below.heap_setCell _ _ _ _ hk
theorem zeros_get (n k j : Nat) (v : Value) (hk : k < n) (hv : zf[j]? = some v) : (Builtin.zeroCells zf.toArray n).toList[k * 5 + j]? = some v := by
  have hj : j < 5 := (List.getElem?_eq_some_iff.1 hv).1
  have hlt : k * 5 + j < n * 5 := by omega
  have hmod : (k * 5 + j) % 5 = j := by omega
  unfold Builtin.zeroCells
  have e5 : zf.toArray.size = 5 := rfl
  rw [Array.getElem?_toList, Array.getElem?_map, Array.getElem?_eq_getElem (by rw [Array.size_range, e5]; exact hlt)]
  simp only [Array.getElem_range, Option.map_some, e5, hmod]
  rw [getElem!_pos zf.toArray j (by rw [e5]; exact hj)]
  have := (List.getElem?_eq_some_iff.1 hv).2
  simpa using this
theorem zeros_one (n : Nat) : ∀ v ∈ (Builtin.zeroCells zf.toArray n).toList, v.oneCell' = true := fun v hv => by
  unfold Builtin.zeroCells at hv
  simp only [Array.toList_map, List.mem_map] at hv
  obtain ⟨i, _, rfl⟩ := hv
  have h5 : i % zf.toArray.size < 5 := Nat.mod_lt _ (by decide)
  generalize i % zf.toArray.size = r at h5
  match r, h5 with
  | 0, _ => rfl
  | 1, _ => rfl
  | 2, _ => rfl
  | 3, _ => rfl
  | 4, _ => rfl
theorem zeros_len (n : Nat) : (Builtin.zeroCells zf.toArray n).toList.length = n * 5 := by
  unfold Builtin.zeroCells
  simp only [Array.toList_map, List.length_map, Array.length_toList, Array.size_range]
  rfl
theorem run_clear5 (w : World) (A o n c : Nat) (hn : 0 < n) (ht : w.there A (o * 5) (n * 5)) (ty : TypeId) :
    (Builtin.clear_ #[51] ty #[.slice (some ⟨A, o * 5, none⟩) n c]).run Try.prog w = .ok (.tuple #[]) (w.setCells A (o * 5) (Builtin.zeroCells zf.toArray n).toList) := by
  have hst := run_storeCells_cells (P := Try.prog) A (o * 5) (Builtin.zeroCells zf.toArray n).toList 0 w (fun j hj => (ht j (by rw [zeros_len] at hj; exact hj)).1) (fun j hj => (ht j (by rw [zeros_len] at hj; exact hj)).2) (zeros_one n)
  simp only [Nat.add_zero] at hst
  obtain ⟨m, rfl⟩ : ∃ m, n = m + 1 := ⟨n - 1, by omega⟩
  simp [Builtin.clear_, run_underlying Try.underlying51, zero70]
  show ((Sem.run Try.prog (storeCells ⟨A, o * 5, none⟩ (Builtin.zeroCells zf.toArray (m + 1)).toList) w).andThen fun _ w' => Result.ok (Value.tuple #[]) w') = _
  rw [hst]
  rfl

/-- Only block A turned, and no zero finger did. -/
structure Wiped (A : Nat) (w w' : World) : Prop where
  os : w'.os = w.os
  tape : w'.tape = w.tape
  output : w'.output = w.output
  size : w'.heap.size = w.heap.size
  other : ∀ k, k ≠ A → w'.heap[k]? = w.heap[k]?
  there : ∀ N, w.there A 0 N → w'.there A 0 N
  zero : ∀ q, w.rangeAt A (q * 5) zf → w'.rangeAt A (q * 5) zf
/-- A side whose fingers are zero. -/
def Zd (A : Nat) (w : World) (a : Option Addr) (l : Nat) : Prop := 0 < l → ∃ o, a = some ⟨A, o * 5, none⟩ ∧ ∀ q, o ≤ q → q < o + l → w.rangeAt A (q * 5) zf
theorem Zd.wiped {A : Nat} {w w' : World} {a : Option Addr} {l : Nat} (h : Zd A w a l) (hw : Wiped A w w') : Zd A w' a l := fun hl => by
  obtain ⟨o, e, hz⟩ := h hl
  exact ⟨o, e, fun q h1 h2 => hw.zero q (hz q h1 h2)⟩
theorem Zd.same {A : Nat} {w w' : World} {a : Option Addr} {l : Nat} (h : Zd A w a l) (hA : w'.heap[A]? = w.heap[A]?) : Zd A w' a l := fun hl => by
  obtain ⟨o, e, hz⟩ := h hl
  exact ⟨o, e, fun q h1 h2 j v hv => by rw [World.cell?_of_block (w := w) hA]; exact hz q h1 h2 j v hv⟩
theorem Zd.fg {A : Nat} {w : World} {a : Option Addr} {l : Nat} (h : Zd A w a l) : Fg w a l true := fun hl => by
  obtain ⟨o, e, hz⟩ := h hl
  refine ⟨A, o * 5, e, fun k hk => ⟨zf, rfl, ⟨⟨0, false, rfl⟩, fun _ => rfl⟩, ?_⟩⟩
  have := hz (o + k) (by omega) (by omega)
  rwa [show (o + k) * 5 = o * 5 + k * 5 by omega] at this
theorem setCells_os (b : Nat) (vs : List Value) : ∀ (w : World) (o : Nat), (w.setCells b o vs).os = w.os ∧ (w.setCells b o vs).tape = w.tape ∧ (w.setCells b o vs).output = w.output := by
  induction vs with
  | nil => intro w o; exact ⟨rfl, rfl, rfl⟩
  | cons v vs ih => intro w o; rw [World.setCells]; exact ih _ _

theorem clear_side (w : World) {A N : Nat} {a : Option Addr} {l : Nat} (hs : Side A N a l) (ht : w.there A 0 (N * 5)) :
    ∃ w', (∀ ty, (Builtin.clear_ #[51] ty #[.slice a l l]).run Try.prog w = .ok (.tuple #[]) w') ∧ Wiped A w w' ∧ Zd A w' a l := by
  by_cases hl : 0 < l
  · obtain ⟨o, rfl, hoN⟩ := hs hl
    have hth : w.there A (o * 5) (l * 5) := there_part ht (by omega) (by omega)
    have hsame := World.rangeAt_setCells_same w A (o * 5) (Builtin.zeroCells zf.toArray l).toList (by rw [zeros_len]; exact hth)
    have hz : ∀ q, o ≤ q → q < o + l → (w.setCells A (o * 5) (Builtin.zeroCells zf.toArray l).toList).rangeAt A (q * 5) zf := fun q h1 h2 j v hv => by
      have := hsame ((q - o) * 5 + j) v (zeros_get l (q - o) j v (by omega) hv)
      rwa [show o * 5 + ((q - o) * 5 + j) = q * 5 + j by omega] at this
    obtain ⟨e1, e2, e3⟩ := setCells_os A (Builtin.zeroCells zf.toArray l).toList w (o * 5)
    refine ⟨_, fun ty => run_clear5 w A o l l hl hth ty, ⟨e1, e2, e3, size_setCells _ _ _ _, fun k hk => setCells_other _ _ hk _ _ _, fun N h => World.there_setCells h _ _ _, fun q hq => ?_⟩, fun _ => ⟨o, rfl, hz⟩⟩
    by_cases hin : o ≤ q ∧ q < o + l
    · exact hz q hin.1 hin.2
    · refine World.rangeAt_setCells_apart hq _ _ _ (.inr ?_)
      rw [zeros_len, show zf.length = 5 from rfl]
      omega
  · obtain rfl : l = 0 := by omega
    refine ⟨w, fun ty => ?_, ⟨rfl, rfl, rfl, rfl, fun _ _ => rfl, fun _ h => h, fun _ h => h⟩, fun h => absurd h (Nat.lt_irrefl 0)⟩
    cases a <;> simp [Builtin.clear_, run_underlying Try.underlying51]

/-- What 'empty' lets stand. -/
structure Emp (A : Nat) (w w' : World) : Prop where
  os : w'.os = w.os
  tape : w'.tape = w.tape
  output : w'.output = w.output
  size : w.heap.size ≤ w'.heap.size
  other : ∀ k, k < w.heap.size → k ≠ A → k ≠ A + 1 → w'.heap[k]? = w.heap[k]?
def EmPost (w : World) (A n N : Nat) (t : ZT) (node : Nat) (fa ba : Option Addr) (e : Ending) (w' : World) : Prop :=
  e = .returned (.tuple #[]) ∧ w'.rangeAt (A + 1) (node * 16) (rowCells t ⟨none, 0, 0⟩ fa ba) ∧ Zd A w' fa t.fwd.n ∧ Zd A w' ba t.bck.n ∧ w'.there A 0 (N * 5) ∧ w'.there (A + 1) 0 (n * 16) ∧ Emp A w w'

theorem row_nil {w : World} {b o : Nat} {t : ZT} {s : Sl} {fa ba : Option Addr} (h : w.rangeAt b o (rowCells t s fa ba)) (ht : w.there b (o + 13) 1) : (w.setCell ⟨b, o + 13, none⟩ (.slice none 0 0)).rangeAt b o (rowCells t ⟨none, 0, 0⟩ fa ba) := fun j v hv => by
  by_cases e : j = 13
  · subst e
    have h1 := World.rangeAt_setCells_same w b (o + 13) [.slice none 0 0] ht
    have e : v = .slice none 0 0 := by simpa [rowCells] using hv.symm
    subst e
    exact h1 0 _ rfl
  · rw [show rowCells t ⟨none, 0, 0⟩ fa ba = (rowCells t s fa ba).set 13 (.slice none 0 0) from rfl, List.getElem?_set_ne (by omega)] at hv
    have h0 : w.rangeAt b (o + j) [v] := fun i u hu => by
      have := h j v hv
      match i, hu with
      | 0, hu => simp at hu; subst hu; exact this
      | i + 1, hu => simp at hu
    exact World.rangeAt_setCells_apart h0 b (o + 13) [.slice none 0 0] (.inr (by simp; omega)) 0 v rfl

set_option maxHeartbeats 2000000 in
set_option maxRecDepth 100000 in
theorem empty_any (A n c N node : Nat) (t : ZT) (s : Sl) (fa ba : Option Addr) (w : World) (hnode : node < n) (hpos : 0 < t.fwd.n) (hsz : A + 2 ≤ w.heap.size) (hA : w.there A 0 (N * 5)) (hT : w.there (A + 1) 0 (n * 16))
    (hrow : w.rangeAt (A + 1) (node * 16) (rowCells t s fa ba)) (hf : Side A N fa t.fwd.n) (hb : Side A N ba t.bck.n) :
    Calls Try.prog 42 #[.slice (some ⟨A + 1, 0, none⟩) n c, .agg #[.int .i64 0, .int .u64 0, .int .u64 0, .int .u64 0], .int .i64 node] w (EmPost w A n N t node fa ba) := by
  have hno : (node : Int) < (n : Int) := by omega
  have hbx : Below w.heap.size w (w.alloc (.cells #[.int .i64 0, .int .u64 0, .int .u64 0, .int .u64 0] 29)) := (Below.refl _ _).alloc (Nat.le_refl _) _
  obtain ⟨W1, hc1, hw1, hz1⟩ := clear_side (w.alloc (.cells #[.int .i64 0, .int .u64 0, .int .u64 0, .int .u64 0] 29)) hf (there_below hbx (by omega) hA)
  obtain ⟨W2, hc2, hw2, hz2⟩ := clear_side W1 hb (hw1.there _ (there_below hbx (by omega) hA))
  have hT1 : W1.heap[A + 1]? = w.heap[A + 1]? := by rw [hw1.other _ (by omega), hbx.block _ (by omega)]
  have hT2 : W2.heap[A + 1]? = w.heap[A + 1]? := by rw [hw2.other _ (by omega), hT1]
  have r14 : ∀ ob, (w.alloc ob).cell? ⟨A + 1, node * 16 + 14, none⟩ = some (.slice fa t.fwd.n t.fwd.n) := fun ob => by
    rw [World.cell?_of_block (w := w) (Below.heap_alloc _ _ _ (by show A + 1 < _; omega))]; exact hrow 14 _ rfl
  have r15 : W1.cell? ⟨A + 1, node * 16 + 15, none⟩ = some (.slice ba t.bck.n t.bck.n) := by
    rw [World.cell?_of_block (w := w) hT1]; exact hrow 15 _ rfl
  have r13 : W2.cell? ⟨A + 1, node * 16 + 13, none⟩ = some (.slice s.a s.n s.c) := by
    rw [World.cell?_of_block (w := w) hT2]; exact hrow 13 _ rfl
  have hrow2 : W2.rangeAt (A + 1) (node * 16) (rowCells t s fa ba) := fun j v hv => by rw [World.cell?_of_block (w := w) hT2]; exact hrow j v hv
  have hth2 : W2.there (A + 1) 0 (n * 16) := fun j hj => by
    rw [World.cell?_of_block (w := w) hT2, World.frozen?_of_block (w := w) hT2]
    exact hT j hj
  have f13 : W2.frozen? ⟨A + 1, node * 16 + 13, none⟩ = false := by have := (hth2 (node * 16 + 13) (by omega)).2; rwa [Nat.zero_add] at this
  have hfin : EmPost w A n N t node fa ba (.returned (.tuple #[])) (W2.setCell ⟨A + 1, node * 16 + 13, none⟩ (.slice none 0 0)) := by
    refine ⟨rfl, row_nil hrow2 (there_part hth2 (by omega) (by omega)), ?_, ?_, ?_, ?_, ?_⟩
    · exact (hz1.wiped hw2).same (Below.heap_setCell _ _ _ _ (by show A ≠ A + 1; omega))
    · exact hz2.same (Below.heap_setCell _ _ _ _ (by show A ≠ A + 1; omega))
    · exact World.there_setCells (hw2.there _ (hw1.there _ (there_below hbx (by omega) hA))) (A + 1) (node * 16 + 13) [.slice none 0 0]
    · exact World.there_setCells hth2 (A + 1) (node * 16 + 13) [.slice none 0 0]
    · refine ⟨?_, ?_, ?_, ?_, fun k hk h1 h2 => ?_⟩
      · exact hw2.os.trans (hw1.os.trans rfl)
      · exact hw2.tape.trans (hw1.tape.trans rfl)
      · exact hw2.output.trans (hw1.output.trans rfl)
      · have := hw2.size; have h' := hw1.size; simp at h'; simp [World.setCell]; omega
      · rw [Below.heap_setCell _ _ _ _ h2, hw2.other _ h1, hw1.other _ h1, hbx.block _ hk]
  have HFin : Hid (EmPost w A n N t node fa ba (.returned (.tuple #[])) (W2.setCell ⟨A + 1, node * 16 + 13, none⟩ (.slice none 0 0))) := hfin
  have hne : ¬ ((t.fwd.n : Int) = 0) := by omega
  have hne' : ¬ (t.fwd.n = 0) := by omega
  clear hfin hth2 hrow2 hrow hT hA hw1 hw2 hz1 hz2 hT1 hT2 hbx
  go_enter Try.func42, Try.ntmps42
  go_wp2_with (simp only [hc1, hc2])
  go_end0
  exact HFin.out

set_option maxHeartbeats 2000000 in
set_option maxRecDepth 100000 in
theorem rempty_any (A n c N node : Nat) (t : ZT) (s : Sl) (fa ba : Option Addr) (w : World) (hnode : node < n) (hpos : 0 < t.fwd.n) (hsz : A + 2 ≤ w.heap.size) (hA : w.there A 0 (N * 5)) (hT : w.there (A + 1) 0 (n * 16))
    (hrow : w.rangeAt (A + 1) (node * 16) (rowCells t s fa ba)) (hf : Side A N fa t.fwd.n) (hb : Side A N ba t.bck.n) :
    Calls Try.prog 32 #[.slice (some ⟨A + 1, 0, none⟩) n c, .agg #[.int .i64 0, .int .u64 0, .int .u64 0, .int .u64 0], .int .i64 node] w (EmPost w A n N t node fa ba) := by
  have hbx : Below w.heap.size w (w.alloc (.cells #[.int .i64 0, .int .u64 0, .int .u64 0, .int .u64 0] 29)) := (Below.refl _ _).alloc (Nat.le_refl _) _
  have hcall := empty_any A n c N node t s fa ba (w.alloc (.cells #[.int .i64 0, .int .u64 0, .int .u64 0, .int .u64 0] 29)) hnode hpos (by simp; omega) (there_below hbx (by omega) hA) (there_below hbx (by omega) hT) (range_below hbx (by omega) hrow) hf hb
  have HC : Hid (Calls Try.prog 42 #[.slice (some ⟨A + 1, 0, none⟩) n c, .agg #[.int .i64 0, .int .u64 0, .int .u64 0, .int .u64 0], .int .i64 node] (w.alloc (.cells #[.int .i64 0, .int .u64 0, .int .u64 0, .int .u64 0] 29)) (EmPost (w.alloc (.cells #[.int .i64 0, .int .u64 0, .int .u64 0, .int .u64 0] 29)) A n N t node fa ba)) := hcall
  have hb' : ∀ w1, EmPost (w.alloc (.cells #[.int .i64 0, .int .u64 0, .int .u64 0, .int .u64 0] 29)) A n N t node fa ba (.returned (.tuple #[])) w1 → EmPost w A n N t node fa ba (.returned (.tuple #[])) w1 := fun w1 h => by
    obtain ⟨h1, h2, h3, h4, h5, h6, h7⟩ := h
    refine ⟨h1, h2, h3, h4, h5, h6, h7.os, h7.tape, h7.output, ?_, fun k hk k1 k2 => ?_⟩
    · have := h7.size; simp at this; omega
    · rw [h7.other k (by simp; omega) k1 k2, hbx.block _ hk]
  have HB : Hid (∀ w1, EmPost (w.alloc (.cells #[.int .i64 0, .int .u64 0, .int .u64 0, .int .u64 0] 29)) A n N t node fa ba (.returned (.tuple #[])) w1 → EmPost w A n N t node fa ba (.returned (.tuple #[])) w1) := hb'
  clear hcall hb' hA hT hrow
  go_enter Try.func32, Try.ntmps32
  go_wp2_with (go_at_call 42; refine Calls.mono HC.out ?_; rintro e w1 ⟨rfl, hE⟩)
  go_end0
  exact HB.out _ ⟨rfl, hE⟩
end Go.Proofs.Qxb6600017a
