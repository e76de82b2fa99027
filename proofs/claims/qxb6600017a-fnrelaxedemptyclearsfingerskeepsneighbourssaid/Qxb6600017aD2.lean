/-
  MEMORY THAT THE CALL MAKES, BY RANGES: a made row; a store of a whole element; what stands.
-/
import Derived.Test.Qxb6600017aD1
import Derived.Deep.MidRow
namespace Go.Proofs.Qxb6600017a
open Go.RowKit

/-- 'make([]T, n)': the cells are a variable; each element is the zero value. -/
theorem wpList_makeN {P : Program} {w : World} {ops : Array Oper} {rest : List Oper} {o : Oper} {a : Act} {Q : Exit → Act → World → Prop}
    (hg : o.guard = none) (l c : Operand) (t : TypeId) (hop : o.op = Op.makeSlice t l c) (e : TypeId) (zs : Array Value) (size bytes : Nat)
    (h1 : P.underlying t = some (.slice e)) (h2 : (P.info? e).map (fun i => (i.zero, i.size, i.bytes)) = some (some (.agg zs), size, bytes)) (h3 : zs.size = size)
    (n : Nat) (hl : a.eval l = .int .i64 (n : Nat)) (hc : a.eval c = .int .i64 (n : Nat)) (b2 : bytes * n ≤ 281474976710656) (b3 : n ≤ 9223372036854775807)
    (hK : ∀ C : Array Value, C.size = n * size → (∀ k j, k < n → j < size → C[k * size + j]? = zs[j]?) →
      wpList P ops Q rest (a.put o.dst (.slice (some ⟨w.heap.size, 0, none⟩) n n)) (w.alloc (.cells C e))) :
    wpList P ops Q (o :: rest) a w := by
  obtain ⟨i, hi, hz, hs, hb⟩ := info_parts h2
  refine wpList_plain hg fun K hK' => ?_
  have hb' : (i.bytes : Int) * (n : Int) ≤ 281474976710656 := by
    rw [hb]
    have h : ((bytes * n : Nat) : Int) ≤ 281474976710656 := by omega
    rwa [Int.natCast_mul] at h
  have hrun := run_make (P := P) w t e i (.agg zs) h1 hi hz .i64 .i64 n n (by omega) (Int.le_refl _) hb' (by omega)
  simp only [Int.toNat_natCast] at hrun
  rw [hs] at hrun
  unfold Oper.wp
  simp [execOp, hop, hl, hc, hrun, Result.andThen]
  refine hK' _ _ (hK _ (size_madeCells _ _) (fun k j hk hj => ?_))
  have hlt : k * size + j < n * size := by
    have : (k + 1) * size ≤ n * size := Nat.mul_le_mul_right _ hk
    rw [Nat.succ_mul] at this; omega
  have hzs : (Value.agg zs).cells = zs := rfl
  rw [hzs]
  unfold madeCells
  have hmod : (k * size + j) % zs.size = j := by
    rw [h3, Nat.mul_comm, Nat.mul_add_mod]; exact Nat.mod_eq_of_lt hj
  simp only [Array.getElem?_map]
  rw [Array.getElem?_eq_getElem (by simpa using hlt)]
  simp only [Array.getElem_range, Option.map_some, hmod]
  rw [getElem!_pos zs j (by omega), Array.getElem?_eq_getElem (by omega)]

/-- Of a new block: what lies in it. -/
theorem range_new {w : World} {C : Array Value} {e : TypeId} {o : Nat} {cs : List Value} (h : ∀ j v, cs[j]? = some v → C[o + j]? = some v) : (w.alloc (.cells C e)).rangeAt w.heap.size o cs := fun j v hv => by
  rw [cell_of_row _ _ _ C e (0, 0) (heap_alloc_new w _)]; exact h j v hv
theorem there_new (w : World) (C : Array Value) (e : TypeId) : (w.alloc (.cells C e)).there w.heap.size 0 C.size := fun j hj => by
  refine ⟨?_, frozen_of_row _ _ _ C e (heap_alloc_new w _)⟩
  rw [cell_of_row _ _ _ C e (0, 0) (heap_alloc_new w _), Nat.zero_add, Array.getElem?_eq_getElem hj]; rfl
theorem range_below {B : Nat} {w w' : World} (h : Below B w w') {b o : Nat} (hb : b < B) {cs : List Value} (hr : w.rangeAt b o cs) : w'.rangeAt b o cs := fun j v hv => by
  rw [h.cell (p := ⟨b, o + j, none⟩) hb]; exact hr j v hv
theorem there_below {B : Nat} {w w' : World} (h : Below B w w') {b o n : Nat} (hb : b < B) (hr : w.there b o n) : w'.there b o n := fun j hj => by
  rw [h.cell (p := ⟨b, o + j, none⟩) hb, h.frozen (p := ⟨b, o + j, none⟩) hb]; exact hr j hj
/-- A part of what is there. -/
theorem there_part {w : World} {b o n : Nat} (h : w.there b o n) {o' n' : Nat} (h1 : o ≤ o') (h2 : o' + n' ≤ o + n) : w.there b o' n' := fun j hj => by
  have := h (o' - o + j) (by omega)
  rwa [show o + (o' - o + j) = o' + j by omega] at this
theorem below_setCells {B : Nat} {w0 w : World} (h : Below B w0 w) {b : Nat} (hb : B ≤ b) (vs : List Value) : ∀ o, Below B w0 (w.setCells b o vs) := by
  induction vs generalizing w with
  | nil => intro o; exact h
  | cons v vs ih => intro o; exact ih (h.setCell (p := ⟨b, o, none⟩) hb v) (o + 1)
theorem size_setCells (w : World) (b : Nat) (vs : List Value) : ∀ o, (w.setCells b o vs).heap.size = w.heap.size := by
  induction vs generalizing w with
  | nil => intro o; rfl
  | cons v vs ih => intro o; rw [World.setCells, ih]; simp [World.setCell]

/-- n elements of 'size' cells, each as 'p' says. -/
def Elems (p : List Value → Prop) (w : World) (b o size n : Nat) : Prop := ∀ k, k < n → ∃ cs, cs.length = size ∧ p cs ∧ w.rangeAt b (o + k * size) cs
theorem Elems.below {p : List Value → Prop} {B : Nat} {w w' : World} (h : Below B w w') {b o size n : Nat} (hb : b < B) (he : Elems p w b o size n) : Elems p w' b o size n := fun k hk => by
  obtain ⟨cs, h1, h2, h3⟩ := he k hk
  exact ⟨cs, h1, h2, range_below h hb h3⟩
theorem Elems.alloc {p : List Value → Prop} {w : World} {b o size n : Nat} (he : Elems p w b o size n) (ob : Obj) : Elems p (w.alloc ob) b o size n := fun k hk => by
  obtain ⟨cs, h1, h2, h3⟩ := he k hk
  exact ⟨cs, h1, h2, World.rangeAt_alloc h3 ob⟩
theorem Elems.drew {p : List Value → Prop} {w : World} {b o size n : Nat} (he : Elems p w b o size n) : Elems p w.drew b o size n := he
/-- An element is stored. -/
theorem Elems.set {p : List Value → Prop} {w : World} {b o size n : Nat} (he : Elems p w b o size n) (ht : w.there b o (n * size)) {k : Nat} (hk : k < n) {vs : List Value} (hl : vs.length = size) (hp : p vs) :
    Elems p (w.setCells b (o + k * size) vs) b o size n := fun q hq => by
  have hk1 : (k + 1) * size ≤ n * size := Nat.mul_le_mul_right _ hk
  rw [Nat.succ_mul] at hk1
  by_cases e : q = k
  · subst e
    exact ⟨vs, hl, hp, World.rangeAt_setCells_same _ _ _ _ (there_part ht (by omega) (by omega))⟩
  · obtain ⟨cs, h1, h2, h3⟩ := he q hq
    refine ⟨cs, h1, h2, World.rangeAt_setCells_apart h3 _ _ _ (.inr ?_)⟩
    rcases Nat.lt_or_gt_of_ne e with h | h
    · have : (q + 1) * size ≤ k * size := Nat.mul_le_mul_right _ h
      rw [Nat.succ_mul] at this; omega
    · have : (k + 1) * size ≤ q * size := Nat.mul_le_mul_right _ h
      rw [Nat.succ_mul] at this; omega
theorem Elems.other {p : List Value → Prop} {w : World} {b o size n : Nat} (he : Elems p w b o size n) {b' : Nat} (hne : b ≠ b') (o' : Nat) (vs : List Value) : Elems p (w.setCells b' o' vs) b o size n := fun q hq => by
  obtain ⟨cs, h1, h2, h3⟩ := he q hq
  exact ⟨cs, h1, h2, World.rangeAt_setCells_apart h3 _ _ _ (.inl hne)⟩
/-- A made row. -/
theorem Elems.made {p : List Value → Prop} {w : World} {C zs : Array Value} {e : TypeId} {n size : Nat} (hz : zs.size = size) (hC : ∀ k j, k < n → j < size → C[k * size + j]? = zs[j]?) (hp : p zs.toList) :
    Elems p (w.alloc (.cells C e)) w.heap.size 0 size n := fun k hk => by
  refine ⟨zs.toList, by simpa using hz, hp, range_new fun j v hv => ?_⟩
  have hj : j < size := by
    rw [← hz]
    have := (List.getElem?_eq_some_iff.1 hv).1
    simpa using this
  rw [Nat.zero_add, hC k j hk hj]
  simpa using hv

def isPeer (cs : List Value) : Prop := ∃ x : Int, cs = [.int .u64 0, .int .u64 0, .int .u64 0, .int .i32 x]
def isFinger (cs : List Value) : Prop := ∃ (x : Int) (v : Bool), cs = [.int .u64 0, .int .u64 0, .int .u64 0, .int .i32 x, .bool v]
end Go.Proofs.Qxb6600017a
