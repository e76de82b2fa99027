/-
  zzRelaxedTablesShared_b1: what it keeps, round by round.
-/
import Derived.Test.Qxb6600017aD3
namespace Go.Proofs.Qxb6600017a
open Go.RowKit
set_option linter.unusedSimpArgs false

/-- How many fingers the tables before i have. -/
def fin (t : Nat → ZT) : Nat → Nat
  | 0 => 0
  | i + 1 => fin t i + ((t i).fwd.n + (t i).bck.n)
theorem fin_le_tot (t : Nat → ZT) (i : Nat) : fin t i ≤ tot t i := by
  induction i with
  | zero => exact Nat.le_refl _
  | succ i ih => rw [fin, tot]; omega
theorem fin_mono {t : Nat → ZT} {n i : Nat} (hi : i ≤ n) : fin t i ≤ fin t n := by
  induction n with
  | zero => obtain rfl : i = 0 := by omega
            exact Nat.le_refl _
  | succ n ih =>
    by_cases e : i = n + 1
    · subst e; exact Nat.le_refl _
    · have := ih (by omega); rw [fin]; omega
theorem fin_step {t : Nat → ZT} {n i : Nat} (hi : i < n) : fin t i + ((t i).fwd.n + (t i).bck.n) ≤ fin t n := by
  have := fin_mono (t := t) (show i + 1 ≤ n by omega)
  rw [fin] at this; exact this

theorem info70 : (Try.prog.info? 70).map (fun i => (i.zero, i.size, i.bytes)) = some (some (.agg #[.int .u64 0, .int .u64 0, .int .u64 0, .int .i32 0, .bool false]), 5, 40) := by kernel_rfl
theorem size70 : (Try.prog.info? 70).map (·.size) = some 5 := by kernel_rfl
theorem info60 : (Try.prog.info? 60).map (fun i => (i.zero, i.size, i.bytes)) = some (some (.agg #[.int .u64 0, .int .u64 0, .int .u64 0, .int .u64 0, .int .u64 0, .int .u64 0, .int .i32 0, .int .u64 0, .int .u64 0, .int .u64 0, .int .i32 0, .bool false, .bool false, .slice none 0 0, .slice none 0 0, .slice none 0 0]), 16, 168) := by kernel_rfl
theorem size60 : (Try.prog.info? 60).map (·.size) = some 16 := by kernel_rfl

theorem one5 (x : Int) (v : Bool) : (#[.int .u64 0, .int .u64 0, .int .u64 0, .int .i32 x, .bool v] : Array Value).all (·.oneCell') = true := by simp [Value.oneCell']

/-- The cells of a relaxed table. -/
def rowCells (t : ZT) (s : Sl) (fa ba : Option Addr) : List Value :=
  [.int .u64 0, .int .u64 0, .int .u64 0, .int .u64 0, .int .u64 0, .int .u64 0, .int .i32 t.pre, .int .u64 0, .int .u64 0, .int .u64 0, .int .i32 t.suc, .bool t.np, .bool t.qp, .slice s.a s.n s.c, .slice fa t.fwd.n t.fwd.n, .slice ba t.bck.n t.bck.n]
theorem one16 (t : ZT) (s : Sl) (fa ba : Option Addr) : (rowCells t s fa ba).toArray.all (·.oneCell') = true := by simp [rowCells, Value.oneCell']

/-- A side of a table lies in the array of block A. -/
def Side (A N : Nat) (a : Option Addr) (l : Nat) : Prop := 0 < l → ∃ o, a = some ⟨A, o * 5, none⟩ ∧ o + l ≤ N

def OutRow (A N : Nat) (t : ZT) (k : Nat) (wx : World) : Prop :=
  ∃ (s : Sl) (fa ba : Option Addr), s.n ≤ 1048576 ∧ RdP (A + 2) wx s ∧ Side A N fa t.fwd.n ∧ Side A N ba t.bck.n ∧ wx.rangeAt (A + 1) (k * 16) (rowCells t s fa ba)

/-- A: the block of the fingers; A + 1: the block of the tables. -/
def Sh (w : World) (A : Nat) (t : Nat → ZT) (n N node i : Nat) (wx : World) : Prop :=
  wx.there A 0 (N * 5) ∧ Elems isFinger wx A 0 5 N ∧ wx.there (A + 1) 0 (n * 16) ∧ (node < i → OutRow A N (t node) node wx) ∧ Below A w wx ∧ A + 2 ≤ wx.heap.size

section
variable {w : World} {A : Nat} {t : Nat → ZT} {n N node i : Nat} {wx : World}
theorem OutRow.below {B : Nat} {w' : World} {z : ZT} {k : Nat} (h : OutRow A N z k wx) (hb : Below B wx w') (hB : wx.heap.size ≤ B) (hA : A + 2 ≤ wx.heap.size) : OutRow A N z k w' := by
  obtain ⟨s, fa, ba, h1, h2, h3, h4, h5⟩ := h
  exact ⟨s, fa, ba, h1, h2.below hb hB, h3, h4, range_below hb (by omega) h5⟩
theorem Sh.below {w' : World} (h : Sh w A t n N node i wx) (hb : Below wx.heap.size wx w') : Sh w A t n N node i w' := by
  obtain ⟨h1, h2, h3, h4, h5, h6⟩ := h
  exact ⟨there_below hb (by omega) h1, h2.below hb (by omega), there_below hb (by omega) h3, fun hn => (h4 hn).below hb (Nat.le_refl _) h6, h5.trans (hb.mono (by omega)), by have := hb.size; omega⟩
theorem Sh.alloc (h : Sh w A t n N node i wx) (o : Obj) : Sh w A t n N node i (wx.alloc o) := h.below ((Below.refl _ _).alloc (Nat.le_refl _) _)
theorem Sh.drew (h : Sh w A t n N node i wx) : Sh w A t n N node i wx.drew := h.below (Below.refl _ _).drew
theorem RdP.other {L : Nat} {s : Sl} (h : RdP L wx s) {b' : Nat} (hb : b' < L) (o' : Nat) (vs : List Value) : RdP L (wx.setCells b' o' vs) s := fun hn => by
  obtain ⟨b, o, e, hL, he⟩ := h hn
  exact ⟨b, o, e, hL, he.other (by omega) _ _⟩
/-- A finger is stored. -/
theorem Sh.finger (h : Sh w A t n N node i wx) {k : Nat} (hk : k < N) (x : Int) (v : Bool) : Sh w A t n N node i (wx.setCells A (k * 5) [.int .u64 0, .int .u64 0, .int .u64 0, .int .i32 x, .bool v]) := by
  obtain ⟨h1, h2, h3, h4, h5, h6⟩ := h
  have hel := h2.set h1 hk (vs := [.int .u64 0, .int .u64 0, .int .u64 0, .int .i32 x, .bool v]) rfl ⟨x, v, rfl⟩
  rw [Nat.zero_add] at hel
  refine ⟨World.there_setCells h1 _ _ _, hel, World.there_setCells h3 _ _ _, fun hn => ?_, below_setCells h5 (Nat.le_refl _) _ _, by rw [size_setCells]; exact h6⟩
  obtain ⟨s, fa, ba, g1, g2, g3, g4, g5⟩ := h4 hn
  exact ⟨s, fa, ba, g1, g2.other (by omega) _ _, g3, g4, World.rangeAt_setCells_apart g5 _ _ _ (.inl (by omega))⟩
/-- A table is stored. -/
theorem Sh.table (h : Sh w A t n N node i wx) (hi : i < n) (s : Sl) (fa ba : Option Addr) (hs : s.n ≤ 1048576) (hr : RdP (A + 2) wx s) (hf : Side A N fa (t i).fwd.n) (hb : Side A N ba (t i).bck.n) :
    Sh w A t n N node (i + 1) (wx.setCells (A + 1) (i * 16) (rowCells (t i) s fa ba)) := by
  obtain ⟨h1, h2, h3, h4, h5, h6⟩ := h
  have hth : wx.there (A + 1) (i * 16) 16 := there_part h3 (by omega) (by omega)
  refine ⟨World.there_setCells h1 _ _ _, h2.other (by omega) _ _, World.there_setCells h3 _ _ _, fun hn => ?_, below_setCells h5 (by omega) _ _, by rw [size_setCells]; exact h6⟩
  by_cases e : node = i
  · subst e
    exact ⟨s, fa, ba, hs, hr.other (by omega) _ _, hf, hb, World.rangeAt_setCells_same _ _ _ _ hth⟩
  · obtain ⟨s', fa', ba', g1, g2, g3, g4, g5⟩ := h4 (by omega)
    refine ⟨s', fa', ba', g1, g2.other (by omega) _ _, g3, g4, World.rangeAt_setCells_apart g5 _ _ _ (.inr (.inl ?_))⟩
    show node * 16 + 16 ≤ i * 16
    omega
theorem Sh.start (q : Nat) (CA CO : Array Value) (hA1 : CA.size = N * 5) (hA2 : ∀ k j, k < N → j < 5 → CA[k * 5 + j]? = (#[.int .u64 0, .int .u64 0, .int .u64 0, .int .i32 0, .bool false] : Array Value)[j]?) (hO1 : CO.size = n * 16) :
    Sh w w.heap.size t n N node 0 (((w.drewN q).alloc (.cells CA 70)).alloc (.cells CO 60)) := by
  have hth := there_new (w.drewN q) CA 70
  have hel := Elems.made (p := isFinger) (w := w.drewN q) (C := CA) (e := 70) (n := N) (size := 5) rfl hA2 ⟨0, false, rfl⟩
  have hth2 := there_new ((w.drewN q).alloc (.cells CA 70)) CO 60
  rw [hA1] at hth
  have e : ((w.drewN q).alloc (.cells CA 70)).heap.size = w.heap.size + 1 := by simp
  rw [hO1, e] at hth2
  have hb : Below w.heap.size w (w.drewN q) := (Below.refl _ _).trans ⟨rfl, rfl, rfl, Nat.le_refl _, fun _ _ => rfl⟩
  exact ⟨World.there_alloc hth _, hel.alloc _, hth2, fun h => absurd h (Nat.not_lt_zero _), (hb.alloc (Nat.le_refl _) _).alloc (by simp) _, by simp⟩
end
end Go.Proofs.Qxb6600017a
