/-
  THE WALKS: relaxedTables.view.
-/
import Derived.Test.Qxb6600017aD6
import Derived.Deep.CutRange
namespace Go.Proofs.Qxb6600017a
open Go.RowKit
set_option linter.unusedSimpArgs false

theorem RdE.lt {p : List Value → Prop} {size : Nat} (hp : ∀ cs, p cs → ∃ v, cs[0]? = some v) {w : World} {s : Sl} (hn : 0 < s.n) {b o : Nat} (he : Elems p w b o size s.n) : b < w.heap.size := by
  obtain ⟨cs, h1, h2, h3⟩ := he 0 hn
  obtain ⟨v, hv⟩ := hp cs h2
  exact World.block_lt_of_cell? w _ (h3 0 v hv)
theorem RdE.below {p : List Value → Prop} {size : Nat} (hp : ∀ cs, p cs → ∃ v, cs[0]? = some v) {L B : Nat} {w w' : World} (hb : Below B w w') (hB : w.heap.size ≤ B) {s : Sl} (h : RdE p size L w s) : RdE p size L w' s := fun hn => by
  obtain ⟨b, o, e, hL, he⟩ := h hn
  exact ⟨b, o, e, hL, he.below hb (by have := RdE.lt hp hn he; omega)⟩
theorem isInt2_hd : ∀ cs, isInt2 cs → ∃ v, cs[0]? = some v := fun cs ⟨p, q, e⟩ => ⟨.int .i64 p, by rw [e]; rfl⟩
theorem isInt1_hd : ∀ cs, isInt1 cs → ∃ v, cs[0]? = some v := fun cs ⟨p, e⟩ => ⟨.int .i64 p, by rw [e]; rfl⟩

/-- Out of what a loop has gathered: a slice that can be read. -/
theorem own_rd2 {w : World} {B m : Nat} {e : TypeId} {v : Value} {xs : List Value} (h : w.ownsRow B e 2 v m xs) (hx : allInt xs) : ∃ s : Sl, v = .slice s.a s.n s.c ∧ s.n = m ∧ RdE isInt2 2 B w s ∧ (v = .slice none 0 0 → s = ⟨none, 0, 0⟩) := by
  obtain ⟨hl, h⟩ := h
  rcases h with ⟨rfl, rfl⟩ | ⟨g, cap, cur, rfl, hB, hg, h1, h2, h3, h4⟩
  · exact ⟨⟨none, 0, 0⟩, rfl, rfl, fun h => absurd h (Nat.lt_irrefl 0), fun _ => rfl⟩
  · refine ⟨⟨some ⟨g, 0, none⟩, m, cap⟩, rfl, rfl, fun _ => ⟨g, 0, rfl, hB, fun k hk => ?_⟩, fun h => by cases h⟩
    have hk' : k * 2 + 1 < xs.length := by show k * 2 + 1 < xs.length; rw [hl]; dsimp only at hk; omega
    obtain ⟨p, hp⟩ := hx _ (List.getElem_mem (show k * 2 < xs.length by omega))
    obtain ⟨q, hq⟩ := hx _ (List.getElem_mem hk')
    refine ⟨[.int .i64 p, .int .i64 q], rfl, ⟨p, q, rfl⟩, fun j u hj => ?_⟩
    rw [cell_of_row w g _ cur e (0, 0) hg]
    have hc : ∀ q (hq : q < xs.length), cur[q]? = some xs[q] := fun q hq => by
      have : (cur.toList.take (m * 2))[q]? = some xs[q] := by rw [h4]; exact List.getElem?_eq_getElem hq
      rw [List.getElem?_take_of_lt (by omega)] at this
      simpa using this
    match j, hj with
    | 0, hj => simp at hj; subst hj; rw [show 0 + k * 2 + 0 = k * 2 by omega, hc _ (by omega), hp]
    | 1, hj => simp at hj; subst hj; rw [show 0 + k * 2 + 1 = k * 2 + 1 by omega, hc _ hk', hq]
    | j + 2, hj => simp at hj
theorem own_rd1 {w : World} {B m : Nat} {e : TypeId} {v : Value} {xs : List Value} (h : w.ownsRow B e 1 v m xs) (hx : allInt xs) : ∃ s : Sl, v = .slice s.a s.n s.c ∧ s.n = m ∧ RdE isInt1 1 B w s ∧ (v = .slice none 0 0 → s = ⟨none, 0, 0⟩) := by
  obtain ⟨hl, h⟩ := h
  rcases h with ⟨rfl, rfl⟩ | ⟨g, cap, cur, rfl, hB, hg, h1, h2, h3, h4⟩
  · exact ⟨⟨none, 0, 0⟩, rfl, rfl, fun h => absurd h (Nat.lt_irrefl 0), fun _ => rfl⟩
  · refine ⟨⟨some ⟨g, 0, none⟩, m, cap⟩, rfl, rfl, fun _ => ⟨g, 0, rfl, hB, fun k hk => ?_⟩, fun h => by cases h⟩
    have hk' : k < xs.length := by show k < xs.length; rw [hl]; dsimp only at hk; omega
    obtain ⟨p, hp⟩ := hx _ (List.getElem_mem hk')
    refine ⟨[.int .i64 p], rfl, ⟨p, rfl⟩, fun j u hj => ?_⟩
    rw [cell_of_row w g _ cur e (0, 0) hg]
    match j, hj with
    | 0, hj =>
      simp at hj; subst hj
      have : (cur.toList.take (m * 1))[k]? = some xs[k] := by rw [h4]; exact List.getElem?_eq_getElem hk'
      rw [List.getElem?_take_of_lt (by omega)] at this
      rw [show 0 + k * 1 + 0 = k by omega, ← hp]
      simpa using this
    | j + 1, hj => simp at hj

theorem own_slice {w : World} {B m size : Nat} {e : TypeId} {v : Value} {xs : List Value} (h : w.ownsRow B e size v m xs) : ∃ s : Sl, v = .slice s.a s.n s.c := by
  rcases h.2 with ⟨rfl, rfl⟩ | ⟨g, cap, cur, rfl, _⟩
  · exact ⟨⟨none, 0, 0⟩, rfl⟩
  · exact ⟨⟨some ⟨g, 0, none⟩, m, cap⟩, rfl⟩
/-- What 'view' reads of the table of 'node'. -/
structure VIn (w : World) (B o : Nat) (pre suc : Int) (np : Bool) (s : Sl) (fa ba : Option Addr) (lf lb : Nat) (dead : Bool) : Prop where
  c6 : w.cell? ⟨B, o + 6, none⟩ = some (.int .i32 pre)
  c10 : w.cell? ⟨B, o + 10, none⟩ = some (.int .i32 suc)
  c11 : w.cell? ⟨B, o + 11, none⟩ = some (.bool np)
  c13 : w.cell? ⟨B, o + 13, none⟩ = some (.slice s.a s.n s.c)
  c14 : w.cell? ⟨B, o + 14, none⟩ = some (.slice fa lf lf)
  c15 : w.cell? ⟨B, o + 15, none⟩ = some (.slice ba lb lb)
  fwd : Fg w fa lf dead
  bck : Fg w ba lb dead
  fol : RdP 0 w s
  lfol : s.n ≤ 1048576
  lfwd : lf ≤ 1048576
  lbck : lb ≤ 1048576
  p1 : -2147483648 ≤ pre
  p2 : pre ≤ 2147483647
  s1 : -2147483648 ≤ suc
  s2 : suc ≤ 2147483647

/-- What a view is. -/
def VOut (w' : World) (suc prd : Int) (none' : Bool) (v : Value) : Prop :=
  ∃ sf s1 s2 : Sl, v = .agg #[.int .i64 suc, .int .i64 prd, .slice sf.a sf.n sf.c, .slice s1.a s1.n s1.c, .slice s2.a s2.n s2.c] ∧
    sf.n ≤ 1048576 ∧ s1.n ≤ 1048576 ∧ s2.n ≤ 1048576 ∧ RdE isInt1 1 0 w' sf ∧ RdE isInt2 2 0 w' s1 ∧ RdE isInt2 2 0 w' s2 ∧
    (none' = true → sf = ⟨none, 0, 0⟩ ∧ s1 = ⟨none, 0, 0⟩ ∧ s2 = ⟨none, 0, 0⟩)
def VwPost (w : World) (suc pr : Int) (none' : Bool) (e : Ending) (w' : World) : Prop :=
  ∃ v, e = .returned v ∧ VOut w' suc pr none' v ∧ Below w.heap.size w w'

theorem size75 : (Try.prog.info? 75).map (·.size) = some 5 := by kernel_rfl
theorem one75 (x y : Int) (p q r : Option Addr) (n1 n2 n3 c1 c2 c3 : Nat) : (#[.int .i64 x, .int .i64 y, .slice p n1 c1, .slice q n2 c2, .slice r n3 c3] : Array Value).all (·.oneCell') = true := by simp [Value.oneCell']
theorem below_setRow {B : Nat} {a w : World} (h : Below B a w) (g : Nat) (hg : B ≤ g) (c : Array Value) : Below B a (w.setRow g c) :=
  h.trans ⟨rfl, rfl, rfl, by simp, fun _ _ => setRow_other w g _ c (by omega)⟩
/-- A slice in a block from L on, other than V, can be read. -/
def RdX (p : List Value → Prop) (size L V : Nat) (w : World) (s : Sl) : Prop := 0 < s.n → ∃ b o, s.a = some ⟨b, o, none⟩ ∧ L ≤ b ∧ b ≠ V ∧ Elems p w b o size s.n
theorem RdX.same {p : List Value → Prop} {size L V : Nat} (hp : ∀ cs, p cs → ∃ v, cs[0]? = some v) {w w' : World} {s : Sl} (h : RdX p size L V w s) (hs : ∀ k, k < w.heap.size → L ≤ k → k ≠ V → w'.heap[k]? = w.heap[k]?) : RdX p size L V w' s := fun hn => by
  obtain ⟨b, o, e, hL, hV, he⟩ := h hn
  have hlt := RdE.lt hp hn he
  refine ⟨b, o, e, hL, hV, fun k hk => ?_⟩
  obtain ⟨cs, h1, h2, h3⟩ := he k hk
  exact ⟨cs, h1, h2, fun j v hv => by rw [World.cell?_of_block (w := w) (hs b hlt hL hV)]; exact h3 j v hv⟩
theorem RdX.setRow {p : List Value → Prop} {size L V : Nat} (hp : ∀ cs, p cs → ∃ v, cs[0]? = some v) {w : World} {s : Sl} (h : RdX p size L V w s) (c : Array Value) : RdX p size L V (w.setRow V c) s := h.same hp fun _ _ _ hk => setRow_other w V _ c hk
theorem RdX.setCell {p : List Value → Prop} {size L V : Nat} (hp : ∀ cs, p cs → ∃ v, cs[0]? = some v) {w : World} {s : Sl} (h : RdX p size L V w s) (o' : Nat) (x : Value) : RdX p size L V (w.setCell ⟨V, o', none⟩ x) s := h.same hp fun _ _ _ hk => Below.heap_setCell _ _ _ _ hk
theorem RdX.below {p : List Value → Prop} {size L V : Nat} (hp : ∀ cs, p cs → ∃ v, cs[0]? = some v) {B : Nat} {w w' : World} (hb : Below B w w') (hB : w.heap.size ≤ B) {s : Sl} (h : RdX p size L V w s) : RdX p size L V w' s := h.same hp fun _ hk _ _ => hb.block _ (by omega)
theorem RdE.toX {p : List Value → Prop} {size L L' V : Nat} (hp : ∀ cs, p cs → ∃ v, cs[0]? = some v) {w : World} {s : Sl} (h : RdE p size L w s) (hL' : L' ≤ L) (hV : V < L ∨ w.heap.size ≤ V) : RdX p size L' V w s := fun hn => by
  obtain ⟨b, o, e, hL, he⟩ := h hn
  exact ⟨b, o, e, by omega, by have := RdE.lt hp hn he; omega, he⟩

/-- Out of validFingers: a slice that can be read. -/
theorem vf_rd {w : World} {l : Nat} {dead : Bool} {v : Value} {w' : World} (h : Gath w 92 2 dead l v w') : ∃ s : Sl, v = .slice s.a s.n s.c ∧ s.n ≤ l ∧ RdE isInt2 2 w.heap.size w' s ∧ (dead = true → s = ⟨none, 0, 0⟩) ∧ Below w.heap.size w w' := by
  obtain ⟨m, xs, hm, hown, hxs, hb, hd⟩ := h
  obtain ⟨s, e, hn, hr, hz⟩ := own_rd2 hown hxs
  exact ⟨s, e, by omega, hr, fun h => hz (hd h), hb⟩

theorem down {w w' : World} {o : Obj} (h : Below (w.heap.size + 1) (w.alloc o) w') : Below w.heap.size w w' := ((Below.refl _ _).alloc (Nat.le_refl _) _).trans (h.mono (by omega))
theorem sz1 {w w' : World} {o : Obj} (h : Below (w.heap.size + 1) (w.alloc o) w') : w.heap.size + 1 ≤ w'.heap.size := by have := h.size; simpa using this

/-- The world behind the table's literal. -/
def Lit1 (w : World) (suc pre : Int) (lf lb : Nat) (dead : Bool) (t5 : Value) (wc : World) : Prop :=
  ∃ (V : Nat) (s1 s2 : Sl), t5 = .pointer (some ⟨V, 0, none⟩) ∧ w.heap.size < V ∧ V < wc.heap.size ∧ wc.heap[V]? = some (.cells #[.int .i64 suc, .int .i64 pre, .slice none 0 0, .slice s1.a s1.n s1.c, .slice s2.a s2.n s2.c] 75 (0, 0)) ∧
    s1.n ≤ lf ∧ s2.n ≤ lb ∧ RdX isInt2 2 (w.heap.size + 1) V wc s1 ∧ RdX isInt2 2 (w.heap.size + 1) V wc s2 ∧ (dead = true → s1 = ⟨none, 0, 0⟩ ∧ s2 = ⟨none, 0, 0⟩) ∧ Below (w.heap.size + 1) (w.alloc (.cells #[.int .i64 0, .int .i64 0, .slice none 0 0, .slice none 0 0, .slice none 0 0] 75)) wc

theorem lit1_mk {w : World} {suc pre : Int} {lf lb : Nat} {dead : Bool} {V : Nat} {s1 s2 : Sl} {W : World} {old : Array Value} (h1 : w.heap.size < V) (hV : W.heap[V]? = some (.cells old 75 (0, 0)))
    (hn1 : s1.n ≤ lf) (hn2 : s2.n ≤ lb) (hr1 : RdX isInt2 2 (w.heap.size + 1) V W s1) (hr2 : RdX isInt2 2 (w.heap.size + 1) V W s2) (hd1 : dead = true → s1 = ⟨none, 0, 0⟩) (hd2 : dead = true → s2 = ⟨none, 0, 0⟩)
    (hb : Below (w.heap.size + 1) (w.alloc (.cells #[.int .i64 0, .int .i64 0, .slice none 0 0, .slice none 0 0, .slice none 0 0] 75)) W) :
    Lit1 w suc pre lf lb dead (.pointer (some ⟨V, 0, none⟩)) (W.setRow V #[.int .i64 suc, .int .i64 pre, .slice none 0 0, .slice s1.a s1.n s1.c, .slice s2.a s2.n s2.c]) := by
  have hlt : V < W.heap.size := by
    by_cases h : V < W.heap.size
    · exact h
    · rw [Array.getElem?_eq_none (by omega)] at hV; cases hV
  exact ⟨V, s1, s2, rfl, h1, by simpa using hlt, setRow_heap _ _ _ _ _ _ hV, hn1, hn2, hr1.setRow isInt2_hd _, hr2.setRow isInt2_hd _, fun h => ⟨hd1 h, hd2 h⟩, below_setRow hb V (by omega) _⟩

theorem info3 : (Try.prog.info? 3).map (fun i => (i.zero, i.size, i.bytes)) = some (some (.int .i64 0), 1, 8) := by kernel_rfl
theorem size75' (x y : Int) (v : Value) (s1 s2 : Sl) : (Try.prog.info? 75).map (·.size) = some (#[.int .i64 x, .int .i64 y, v, .slice s1.a s1.n s1.c, .slice s2.a s2.n s2.c] : Array Value).size := size75

/-- The round's world: W is the world in which the loop begins; V: the block of the view. -/
def LpV (W : World) (V : Nat) (suc pr : Int) (s1 s2 : Sl) (i : Nat) (wx : World) : Prop :=
  ∃ (vf : Value) (m : Nat) (xs : List Value), m ≤ i ∧ wx.heap[V]? = some (.cells #[.int .i64 suc, .int .i64 pr, vf, .slice s1.a s1.n s1.c, .slice s2.a s2.n s2.c] 75 (0, 0)) ∧ wx.ownsRow W.heap.size 3 1 vf m xs ∧ allInt xs ∧ W.grownBy wx (some V) ∧ (i = 0 → vf = .slice none 0 0)
theorem LpV.step {W : World} {V : Nat} {suc pr : Int} {s1 s2 : Sl} {i m : Nat} {xs : List Value} {vf v' : Value} {wx w1 : World} {o1 o2 : Obj} {y : Int} (hVW : V < W.heap.size) (hm : m ≤ i)
    (hV : wx.heap[V]? = some (.cells #[.int .i64 suc, .int .i64 pr, vf, .slice s1.a s1.n s1.c, .slice s2.a s2.n s2.c] 75 (0, 0))) (hown : wx.ownsRow W.heap.size 3 1 vf m xs) (hxs : allInt xs) (hg : W.grownBy wx (some V))
    (hown' : w1.ownsRow W.heap.size 3 1 v' (m + 1) (xs ++ [.int .i64 y])) (hgrow : ((wx.alloc o1).alloc o2).grownBy w1 vf.ownBlock) :
    w1.heap[V]? = some (.cells #[.int .i64 suc, .int .i64 pr, vf, .slice s1.a s1.n s1.c, .slice s2.a s2.n s2.c] 75 (0, 0)) ∧ LpV W V suc pr s1 s2 (i + 1) (w1.setCell ⟨V, 2, none⟩ v') := by
  have hsz := hg.size
  have hw1 : w1.heap[V]? = some (.cells #[.int .i64 suc, .int .i64 pr, vf, .slice s1.a s1.n s1.c, .slice s2.a s2.n s2.c] 75 (0, 0)) := by
    rw [hgrow.block V (by simp; omega) (fun e => by have := (hown.lt V e.symm).1; omega), Below.heap_alloc _ _ _ (by simp; omega), Below.heap_alloc _ _ _ (by omega)]; exact hV
  refine ⟨hw1, v', m + 1, _, by omega, ?_, ownsRow_setCell_below hown' (a := ⟨V, 2, none⟩) hVW v', ?_, ?_, fun h => absurd h (by omega)⟩
  · have := heap_setCell_same w1 V 2 _ 75 v' hw1
    simpa using this
  · intro u hu
    simp at hu
    rcases hu with hu | rfl
    · exact hxs u hu
    · exact ⟨_, rfl⟩
  · have h2 := hgrow.size
    simp at h2
    refine ⟨?_, ?_, ?_, by simp [World.setCell]; omega, fun k hk hne => ?_⟩
    · exact hgrow.os.trans hg.os
    · exact hgrow.tape.trans hg.tape
    · exact hgrow.output.trans hg.output
    · have hkV : k ≠ V := fun e => hne (by rw [e])
      rw [Below.heap_setCell _ _ _ _ hkV, hgrow.block k (by simp; omega) (fun e => by have := (hown.lt k e.symm).1; omega), Below.heap_alloc _ _ _ (by simp; omega), Below.heap_alloc _ _ _ (by omega)]
      exact hg.block k hk hne

/-- The world ahead of the loop. -/
def Tab (w : World) (V : Nat) (suc pr : Int) (s1 s2 : Sl) (wz : World) : Prop :=
  V < wz.heap.size ∧ wz.heap[V]? = some (.cells #[.int .i64 suc, .int .i64 pr, .slice none 0 0, .slice s1.a s1.n s1.c, .slice s2.a s2.n s2.c] 75 (0, 0)) ∧
    RdX isInt2 2 (w.heap.size + 1) V wz s1 ∧ RdX isInt2 2 (w.heap.size + 1) V wz s2 ∧ Below (w.heap.size + 1) (w.alloc (.cells #[.int .i64 0, .int .i64 0, .slice none 0 0, .slice none 0 0, .slice none 0 0] 75)) wz
theorem Tab.put {w : World} {V : Nat} {suc pre : Int} {s1 s2 : Sl} {wz : World} (h : Tab w V suc pre s1 s2 wz) (hV : w.heap.size < V) (x : Int) : Tab w V suc x s1 s2 (wz.setCell ⟨V, 1, none⟩ (.int .i64 x)) := by
  obtain ⟨h1, h2, h3, h4, h5⟩ := h
  refine ⟨by simpa [World.setCell] using h1, ?_, h3.setCell isInt2_hd _ _, h4.setCell isInt2_hd _ _, h5.setCell (p := ⟨V, 1, none⟩) hV _⟩
  have := heap_setCell_same wz V 1 _ 75 (.int .i64 x) h2
  simpa using this

/-- What the view is, out of the loop's last world. -/
theorem vout_mk {w W wx : World} {V n : Nat} {suc pr : Int} {s1 s2 : Sl} {none' : Bool} {vf : Value} {m : Nat} {xs : List Value} (c : Array Value) (hT : Tab w V suc pr s1 s2 W) (hV : w.heap.size < V) (hm : m ≤ n) (hn : n ≤ 1048576) (h1 : s1.n ≤ 1048576) (h2 : s2.n ≤ 1048576)
    (hown : wx.ownsRow W.heap.size 3 1 vf m xs) (hxs : allInt xs) (hg : W.grownBy wx (some V)) (hz : none' = true → vf = .slice none 0 0 ∧ s1 = ⟨none, 0, 0⟩ ∧ s2 = ⟨none, 0, 0⟩) :
    VOut (wx.setRow w.heap.size c) suc pr none' (.agg #[.int .i64 suc, .int .i64 pr, vf, .slice s1.a s1.n s1.c, .slice s2.a s2.n s2.c]) ∧ Below w.heap.size w (wx.setRow w.heap.size c) := by
  obtain ⟨t1, t2, t3, t4, t5⟩ := hT
  have hW := sz1 t5
  obtain ⟨sf, rfl, hsf, hr, hzz⟩ := own_rd1 hown hxs
  have hs : ∀ (p : List Value → Prop) (size L : Nat) (s : Sl), L = w.heap.size + 1 → RdE p size L wx s → RdE p size 0 (wx.setRow w.heap.size c) s := fun p size L s hL h hn => by
    obtain ⟨b, o, e, hLb, he⟩ := h hn
    refine ⟨b, o, e, Nat.zero_le _, fun k hk => ?_⟩
    obtain ⟨cs, q1, q2, q3⟩ := he k hk
    exact ⟨cs, q1, q2, fun j v hv => by rw [World.cell?_of_block (w := wx) (setRow_other wx w.heap.size b c (by omega))]; exact q3 j v hv⟩
  have hx : ∀ (s : Sl), RdX isInt2 2 (w.heap.size + 1) V W s → RdE isInt2 2 (w.heap.size + 1) wx s := fun s h hn => by
    obtain ⟨b, o, e, hLb, hbV, he⟩ := h hn
    have hlt := RdE.lt isInt2_hd hn he
    refine ⟨b, o, e, hLb, fun k hk => ?_⟩
    obtain ⟨cs, q1, q2, q3⟩ := he k hk
    exact ⟨cs, q1, q2, fun j v hv => by rw [World.cell?_of_block (w := W) (hg.block b hlt (fun e => hbV (Option.some.inj e)))]; exact q3 j v hv⟩
  have hrf : RdE isInt1 1 (w.heap.size + 1) wx sf := fun hn => by
    obtain ⟨b, o, e, hLb, he⟩ := hr hn
    exact ⟨b, o, e, by omega, he⟩
  refine ⟨⟨sf, s1, s2, rfl, by omega, h1, h2, hs _ _ _ _ rfl hrf, hs _ _ _ _ rfl (hx _ t3), hs _ _ _ _ rfl (hx _ t4), fun h => ⟨hzz (hz h).1, (hz h).2⟩⟩, ?_⟩
  exact below_setRow ((down t5).grown hg (by omega) (fun k hk => by cases hk; omega)) _ (Nat.le_refl _) _

set_option maxHeartbeats 4000000 in
set_option maxRecDepth 100000 in
theorem view_any (B n c node : Nat) (pre suc : Int) (np : Bool) (s : Sl) (fa ba : Option Addr) (lf lb : Nat) (dead : Bool) (w : World) (hnode : node < n) (pr : Int) (hpr : (if np = true then -1 else pre) = pr)
    (h : VIn w B (node * 16) pre suc np s fa ba lf lb dead) :
    Calls Try.prog 40 #[.slice (some ⟨B, 0, none⟩) n c, .int .i64 node] w (VwPost w suc pr (dead && decide (s.n = 0))) := by
  have hno : (node : Int) < (n : Int) := by omega
  have mk : Hid (∀ w', Below (w.heap.size + 1) (w.alloc (.cells #[.int .i64 0, .int .i64 0, .slice none 0 0, .slice none 0 0, .slice none 0 0] 75)) w' → (w'.cell? ⟨B, node * 16 + 6, none⟩ = some (.int .i32 pre) ∧ w'.cell? ⟨B, node * 16 + 10, none⟩ = some (.int .i32 suc) ∧ w'.cell? ⟨B, node * 16 + 14, none⟩ = some (.slice fa lf lf) ∧ w'.cell? ⟨B, node * 16 + 15, none⟩ = some (.slice ba lb lb) ∧ Below (w.heap.size + 1) (w.alloc (.cells #[.int .i64 0, .int .i64 0, .slice none 0 0, .slice none 0 0, .slice none 0 0] 75)) w')) := fun w' hb1 => by
    have hb : Below w.heap.size w w' := ((Below.refl _ _).alloc (Nat.le_refl _) _).trans (hb1.mono (by omega))
    have hlt : B < w.heap.size := World.block_lt_of_cell? w _ h.c6
    exact ⟨by rw [hb.cell hlt]; exact h.c6, by rw [hb.cell hlt]; exact h.c10, by rw [hb.cell hlt]; exact h.c14, by rw [hb.cell hlt]; exact h.c15, hb1⟩
  obtain ⟨p1, p2, s1, s2⟩ := And.intro h.p1 (And.intro h.p2 (And.intro h.s1 h.s2))
  have HI : Hid _ := h
  have hB : Hid (B < w.heap.size) := World.block_lt_of_cell? w _ h.c6
  clear h
  have hwp : IntKind.i64.wrap pre = pre := by rw [IntKind.wrap_i64]; omega
  have hws : IntKind.i64.wrap suc = suc := by rw [IntKind.wrap_i64]; omega
  go_enter Try.func40, Try.ntmps40
  go_wp2
  go_cut [5] from 8 to 36 (fun t5 wc => Lit1 w suc pre lf lb dead t5 wc)
  case rest =>
    obtain ⟨V, t1, t2, rfl, hV0, hV1, hVc, hn1, hn2, hr1, hr2, hdd, hbel⟩ := hcut
    have q11 : wc.cell? ⟨B, node * 16 + 11, none⟩ = some (.bool np) := by rw [(down hbel).cell hB.out]; exact HI.out.c11
    have HT0 : Hid (Tab w V suc pre t1 t2 wc) := ⟨hV1, hVc, hr1, hr2, hbel⟩
    clear hr1 hr2 hbel
    go_upto_if 42 with fail
    go_cut [5] from 43 to 43 (fun t5 wz => t5 = .pointer (some ⟨V, 0, none⟩) ∧ Tab w V suc pr t1 t2 wz)
    case first =>
      have e1 := cell_of_row wc V 1 _ _ _ hVc
      have f1 := frozen_of_row wc V 1 _ _ hVc
      simp at e1
      cases np with
      | true =>
        simp at hpr
        subst hpr
        go_wp2
        go_meet
        case rel => exact ⟨rfl, HT0.out.put hV0 _⟩
      | false =>
        simp at hpr
        subst hpr
        go_wp2
        go_meet
        case rel => exact ⟨rfl, HT0.out⟩
    case rest =>
      obtain ⟨rfl, hT⟩ := hcut
      have HT : Hid _ := hT
      obtain ⟨hVW, hVW1, _, _, hbW⟩ := hT
      have hszW := sz1 hbW
      have q13 : wc.cell? ⟨B, node * 16 + 13, none⟩ = some (.slice s.a s.n s.c) := by rw [(down hbW).cell hB.out]; exact HI.out.c13
      have HFo : Hid (RdP 0 w s) := HI.out.fol
      have hls := HI.out.lfol
      clear HT0
      go_wp2
      go_loopg [51] s.n (fun g s51 wx => ∃ i : Nat, i + g = s.n ∧ s51 = .int .i64 i ∧ LpV wc V suc pr t1 t2 i wx)
      case atStart => exact ⟨0, by omega, rfl, .slice none 0 0, 0, [], by omega, hVW1, World.ownsRow_nil _ _ _ _, fun u h => absurd h (by simp), World.grownBy.refl _ _, fun _ => rfl⟩
      case round =>
        obtain ⟨i, hig, rfl, vf, m, xs, hm, hVx, hown, hxs, hg, hz⟩ := hrel
        have hszx := hg.size
        cases gk with
        | zero =>
          obtain rfl : i = s.n := by omega
          have h4 : wr.heap[w.heap.size]? = some (.cells #[.int .i64 0, .int .i64 0, .slice none 0 0, .slice none 0 0, .slice none 0 0] 75 (0, 0)) := by
            rw [hg.block _ (by omega) (by intro e; cases e; omega), hbW.block _ (by omega)]
            exact heap_alloc_new w _
          have hnn : (dead && decide (s.n = 0)) = true → vf = .slice none 0 0 ∧ t1 = ⟨none, 0, 0⟩ ∧ t2 = ⟨none, 0, 0⟩ := fun h => by
            simp at h
            exact ⟨hz h.2, hdd h.1⟩
          obtain ⟨hvo, hbo⟩ := vout_mk #[.int .i64 suc, .int .i64 pr, vf, .slice t1.a t1.n t1.c, .slice t2.a t2.n t2.c] HT.out hV0 hm HI.out.lfol (Nat.le_trans hn1 HI.out.lfwd) (Nat.le_trans hn2 HI.out.lbck) hown hxs hg hnn
          obtain ⟨sf, rfl⟩ := own_slice hown
          have HO : Hid _ := And.intro hvo hbo
          clear hvo hbo hown hg hnn
          have l0 : wr.cell? ⟨V, 0, none⟩ = some (.int .i64 suc) := cell_of_row wr V 0 _ _ _ hVx
          have l1 : wr.cell? ⟨V, 1, none⟩ = some (.int .i64 pr) := cell_of_row wr V 1 _ _ _ hVx
          have l2 : wr.cell? ⟨V, 2, none⟩ = some (.slice sf.a sf.n sf.c) := cell_of_row wr V 2 _ _ _ hVx
          have l3 : wr.cell? ⟨V, 3, none⟩ = some (.slice t1.a t1.n t1.c) := cell_of_row wr V 3 _ _ _ hVx
          have l4 : wr.cell? ⟨V, 4, none⟩ = some (.slice t2.a t2.n t2.c) := cell_of_row wr V 4 _ _ _ hVx
          go_wp2_with (first
            | (refine wpList_store_row rfl 75 (.tmp 4) (.tmp 64) rfl w.heap.size _ rfl rfl 75 _ h4 size75 rfl (one75 _ _ _ _ _ _ _ _ _ _ _) ?_))
          refine bodyPost_ret (v := .agg #[.int .i64 suc, .int .i64 pr, .slice sf.a sf.n sf.c, .slice t1.a t1.n t1.c, .slice t2.a t2.n t2.c]) ?_ rfl ⟨_, rfl, HO.out.1, HO.out.2⟩
          exact results_cell_row (p := 4) (ty := 75) rfl _ _ w.heap.size 75 _ (0, 0) _ rfl (setRow_heap _ _ _ _ _ _ h4) Try.underlying75 rfl size75
        | succ g =>
          have hi : i < s.n := by omega
          have hi1 : (i : Int) < (s.n : Int) := by omega
          obtain ⟨b, o, hab, _, he⟩ := HFo.out (by omega)
          have hbl := RdP.lt (by omega) he
          obtain ⟨cs, k0, ⟨x, rfl⟩, k3⟩ := he i hi
          have hrw : wr.rangeAt b (o + i * 4) [.int .u64 0, .int .u64 0, .int .u64 0, .int .i32 x] := fun j v hv => by
            rw [World.cell?_of_block (w := wc) (hg.block b (by omega) (fun e => by cases e; omega)), (down hbW).cell hbl]; exact k3 j v hv
          have c0 := hrw 0 _ rfl
          have c1 := hrw 1 _ rfl
          have c2 := hrw 2 _ rfl
          have c3 := hrw 3 _ rfl
          simp only [Nat.add_zero] at c0
          have d2 : ∀ ob, (wr.alloc ob).cell? ⟨V, 2, none⟩ = some vf := fun ob => by rw [cell_of_row (wr.alloc ob) V 2 _ _ _ (by rw [Below.heap_alloc _ _ _ (by omega)]; exact hVx)]; rfl
          obtain ⟨sa, sn, sc⟩ := s
          dsimp only at hab
          subst hab
          obtain ⟨y, hy⟩ : ∃ y, IntKind.i64.wrap x = y := ⟨_, rfl⟩
          obtain ⟨i0, hi0, hz0, hz1, hz2⟩ := info_parts info3
          have HI0 : Hid _ := hi0
          have HZ0 : Hid _ := hz0
          have HZ1 : Hid _ := hz1
          have HZ2 : Hid _ := hz2
          have HG : Hid (wr.ownsRow wc.heap.size 3 1 vf m xs) := hown
          clear hi0 hz0 hz1 hz2 hown he hrw k3
          go_wp2_with (at_builtin; refine wpList_append_own _ rfl (.tmp 56) (.tmp 60) 34 rfl wc.heap.size 3 i0 (.int .i64 0) 1 8 Try.underlying34 HI0.out HZ0.out HZ1.out HZ2.out rfl (by decide) _ m xs rfl ?_ ⟨wr.heap.size + 1, 0, none⟩ 1 1 [.int .i64 y] rfl rfl ?_ ?_ (by unfold maxLen; omega) (by omega) ?_ ?_)
          · exact World.ownsRow.alloc (World.ownsRow.alloc HG.out _) _
          · rfl
          · omega
          · intro v' w1 hown' hgrow _
            obtain ⟨sf, rfl⟩ := own_slice hown'
            obtain ⟨hw1, hLp⟩ := LpV.step hVW hm hVx HG.out hxs hg hown' hgrow
            have d2' : w1.cell? ⟨V, 2, none⟩ = some vf := by rw [cell_of_row w1 V 2 _ _ _ hw1]; rfl
            have f2' := frozen_of_row w1 V 2 _ _ hw1
            have HLp : Hid _ := hLp
            clear hown' hgrow hLp
            go_wp2
            go_roundg g
            case measure => omega
            case rel => exact ⟨i + 1, by omega, by go_num, HLp.out⟩
  case first =>
    refine wp_region_held_drew (S := fun w' => w'.cell? ⟨B, node * 16 + 6, none⟩ = some (.int .i32 pre) ∧ w'.cell? ⟨B, node * 16 + 10, none⟩ = some (.int .i32 suc) ∧ w'.cell? ⟨B, node * 16 + 14, none⟩ = some (.slice fa lf lf) ∧ w'.cell? ⟨B, node * 16 + 15, none⟩ = some (.slice ba lb lb) ∧ Below (w.heap.size + 1) (w.alloc (.cells #[.int .i64 0, .int .i64 0, .slice none 0 0, .slice none 0 0, .slice none 0 0] 75)) w') (by kernel_rfl) (mk.out _ (Below.refl _ _).drew) (fun hHeld => ?_)
    refine wpAnyH_take (i := 0) (v := ?_) rfl (by kernel_rfl) (by kernel_rfl) (by kernel_rfl) (fun _ _ _ h => h) (Or.inl ⟨by rfl, ?_⟩) hHeld ?_
    rotate_left
    · (intro wS hSw; (try dsimp only at hSw); go_simp; try with_reducible rfl)
    try simp only [Act.put, List.getElem_toArray, List.getElem_cons_zero, List.getElem_cons_succ, List.setIfInBounds_toArray, List.set_cons_zero, List.set_cons_succ]
    refine wpAnyH_take (i := 1) (v := ?_) rfl (by kernel_rfl) (by kernel_rfl) (by kernel_rfl) (fun _ _ _ h => h) (Or.inl ⟨by rfl, ?_⟩) hHeld ?_
    rotate_left
    · (intro wS hSw; (try dsimp only at hSw); go_simp; try with_reducible rfl)
    try simp only [Act.put, List.getElem_toArray, List.getElem_cons_zero, List.getElem_cons_succ, List.setIfInBounds_toArray, List.set_cons_zero, List.set_cons_succ]
    refine wpAnyH_take (i := 2) (v := ?_) rfl (by kernel_rfl) (by kernel_rfl) (by kernel_rfl) (fun _ _ _ h => h) (Or.inl ⟨by rfl, ?_⟩) hHeld ?_
    rotate_left
    · (intro wS hSw; (try dsimp only at hSw); go_simp; try with_reducible rfl)
    try simp only [Act.put, List.getElem_toArray, List.getElem_cons_zero, List.getElem_cons_succ, List.setIfInBounds_toArray, List.set_cons_zero, List.set_cons_succ]
    refine wpAnyH_take (i := 3) (v := ?_) rfl (by kernel_rfl) (by kernel_rfl) (by kernel_rfl) (fun _ _ _ h => h) (Or.inl ⟨by rfl, ?_⟩) hHeld ?_
    rotate_left
    · (intro wS hSw; (try dsimp only at hSw); go_simp; try with_reducible rfl)
    try simp only [Act.put, List.getElem_toArray, List.getElem_cons_zero, List.getElem_cons_succ, List.setIfInBounds_toArray, List.set_cons_zero, List.set_cons_succ]
    refine wpAnyH_take (i := 4) (v := ?_) rfl (by kernel_rfl) (by kernel_rfl) (by kernel_rfl) (fun _ _ _ h => h) (Or.inl ⟨by rfl, ?_⟩) hHeld ?_
    rotate_left
    · (intro wS hSw; (try dsimp only at hSw); go_simp; try with_reducible rfl)
    try simp only [Act.put, List.getElem_toArray, List.getElem_cons_zero, List.getElem_cons_succ, List.setIfInBounds_toArray, List.set_cons_zero, List.set_cons_succ]
    refine wpAnyH_take (i := 5) (v := ?_) rfl (by kernel_rfl) (by kernel_rfl) (by kernel_rfl) (fun _ _ _ h => h) (Or.inl ⟨by rfl, ?_⟩) hHeld ?_
    rotate_left
    · (intro wS hSw; (try dsimp only at hSw); go_simp; try with_reducible rfl)
    try simp only [Act.put, List.getElem_toArray, List.getElem_cons_zero, List.getElem_cons_succ, List.setIfInBounds_toArray, List.set_cons_zero, List.set_cons_succ]
    refine wpAnyH_take (i := 6) (v := ?_) rfl (by kernel_rfl) (by kernel_rfl) (by kernel_rfl) (fun _ _ _ h => h) (Or.inl ⟨by rfl, ?_⟩) hHeld ?_
    rotate_left
    · (intro wS hSw; (try dsimp only at hSw); go_simp; try with_reducible rfl)
    try simp only [Act.put, List.getElem_toArray, List.getElem_cons_zero, List.getElem_cons_succ, List.setIfInBounds_toArray, List.set_cons_zero, List.set_cons_succ]
    refine wpAnyH_take (i := 7) (v := ?_) rfl (by kernel_rfl) (by kernel_rfl) (by kernel_rfl) (fun _ _ _ h => h) (Or.inl ⟨by rfl, ?_⟩) hHeld ?_
    rotate_left
    · (intro wS hSw; (try dsimp only at hSw); go_simp; try with_reducible rfl)
    try simp only [Act.put, List.getElem_toArray, List.getElem_cons_zero, List.getElem_cons_succ, List.setIfInBounds_toArray, List.set_cons_zero, List.set_cons_succ]
    refine wpAnyH_take (i := 8) (v := ?_) rfl (by kernel_rfl) (by kernel_rfl) (by kernel_rfl) (fun _ _ _ h => h) (Or.inl ⟨by rfl, ?_⟩) hHeld ?_
    rotate_left
    · (intro wS hSw; (try dsimp only at hSw); go_simp; try with_reducible rfl)
    try simp only [Act.put, List.getElem_toArray, List.getElem_cons_zero, List.getElem_cons_succ, List.setIfInBounds_toArray, List.set_cons_zero, List.set_cons_succ]
    refine wpAnyH_take (i := 9) (v := ?_) rfl (by kernel_rfl) (by kernel_rfl) (by kernel_rfl) (fun _ _ _ h => h) (Or.inl ⟨by rfl, ?_⟩) hHeld ?_
    rotate_left
    · (intro wS hSw; (try dsimp only at hSw); go_simp; try with_reducible rfl)
    try simp only [Act.put, List.getElem_toArray, List.getElem_cons_zero, List.getElem_cons_succ, List.setIfInBounds_toArray, List.set_cons_zero, List.set_cons_succ]
    refine wpAnyH_take (i := 10) (v := ?_) rfl (by kernel_rfl) (by kernel_rfl) (by kernel_rfl) (fun _ _ _ h => h) (Or.inl ⟨by rfl, ?_⟩) hHeld ?_
    rotate_left
    · (intro wS hSw; (try dsimp only at hSw); go_simp; try with_reducible rfl)
    try simp only [Act.put, List.getElem_toArray, List.getElem_cons_zero, List.getElem_cons_succ, List.setIfInBounds_toArray, List.set_cons_zero, List.set_cons_succ]
    refine wpAnyH_take (i := 11) (v := ?_) rfl (by kernel_rfl) (by kernel_rfl) (by kernel_rfl) (fun _ _ _ h => h) (Or.inl ⟨by rfl, ?_⟩) hHeld ?_
    rotate_left
    · (intro wS hSw; (try dsimp only at hSw); go_simp; try with_reducible rfl)
    try simp only [Act.put, List.getElem_toArray, List.getElem_cons_zero, List.getElem_cons_succ, List.setIfInBounds_toArray, List.set_cons_zero, List.set_cons_succ]
    refine wpAnyH_take (i := 12) (v := ?_) rfl (by kernel_rfl) (by kernel_rfl) (by kernel_rfl) (fun _ _ _ h => h) (Or.inl ⟨by rfl, ?_⟩) hHeld ?_
    rotate_left
    · (intro wS hSw; (try dsimp only at hSw); go_simp; try with_reducible rfl)
    try simp only [Act.put, List.getElem_toArray, List.getElem_cons_zero, List.getElem_cons_succ, List.setIfInBounds_toArray, List.set_cons_zero, List.set_cons_succ]
    refine wpAnyH_take (i := 13) (v := ?_) rfl (by kernel_rfl) (by kernel_rfl) (by kernel_rfl) (fun _ _ _ h => h) (Or.inl ⟨by rfl, ?_⟩) hHeld ?_
    rotate_left
    · (intro wS hSw; (try dsimp only at hSw); go_simp; try with_reducible rfl)
    try simp only [Act.put, List.getElem_toArray, List.getElem_cons_zero, List.getElem_cons_succ, List.setIfInBounds_toArray, List.set_cons_zero, List.set_cons_succ]
    refine wpAnyH_take (i := 14) (v := ?_) rfl (by kernel_rfl) (by kernel_rfl) (by kernel_rfl) (fun _ _ _ h => h) (Or.inl ⟨by rfl, ?_⟩) hHeld ?_
    rotate_left
    · (intro wS hSw; (try dsimp only at hSw); go_simp; try with_reducible rfl)
    try simp only [Act.put, List.getElem_toArray, List.getElem_cons_zero, List.getElem_cons_succ, List.setIfInBounds_toArray, List.set_cons_zero, List.set_cons_succ]
    refine wpAnyH_take (i := 15) (v := ?_) rfl (by kernel_rfl) (by kernel_rfl) (by kernel_rfl) (fun _ _ _ h => h) (Or.inl ⟨by rfl, ?_⟩) hHeld ?_
    rotate_left
    · (intro wS hSw; (try dsimp only at hSw); go_simp; try with_reducible rfl)
    try simp only [Act.put, List.getElem_toArray, List.getElem_cons_zero, List.getElem_cons_succ, List.setIfInBounds_toArray, List.set_cons_zero, List.set_cons_succ]
    refine wpAnyH_take (i := 16) (v := ?_) rfl (by kernel_rfl) (by kernel_rfl) (by kernel_rfl) (fun _ _ _ h => h) (Or.inl ⟨by rfl, ?_⟩) hHeld ?_
    rotate_left
    · (intro wS hSw; (try dsimp only at hSw); go_simp; try with_reducible rfl)
    try simp only [Act.put, List.getElem_toArray, List.getElem_cons_zero, List.getElem_cons_succ, List.setIfInBounds_toArray, List.set_cons_zero, List.set_cons_succ]
    refine wpAnyH_take (i := 17) (v := ?_) rfl (by kernel_rfl) (by kernel_rfl) (by kernel_rfl) (fun _ _ _ h => h) (Or.inl ⟨by rfl, ?_⟩) hHeld ?_
    rotate_left
    · (intro wS hSw; (try dsimp only at hSw); go_simp; try with_reducible rfl)
    try simp only [Act.put, List.getElem_toArray, List.getElem_cons_zero, List.getElem_cons_succ, List.setIfInBounds_toArray, List.set_cons_zero, List.set_cons_succ]
    refine wpAnyH_take (i := 18) (v := ?_) rfl (by kernel_rfl) (by kernel_rfl) (by kernel_rfl) (fun _ _ _ h => h) (Or.inl ⟨by rfl, ?_⟩) hHeld ?_
    rotate_left
    · (intro wS hSw; (try dsimp only at hSw); go_simp; try with_reducible rfl)
    try simp only [Act.put, List.getElem_toArray, List.getElem_cons_zero, List.getElem_cons_succ, List.setIfInBounds_toArray, List.set_cons_zero, List.set_cons_succ]
    refine wpAnyH_take (i := 19) (v := ?_) rfl (by kernel_rfl) (by kernel_rfl) (by kernel_rfl) (fun _ _ _ h => h) (Or.inl ⟨by rfl, ?_⟩) hHeld ?_
    rotate_left
    · (intro wS hSw; (try dsimp only at hSw); go_simp; try with_reducible rfl)
    try simp only [Act.put, List.getElem_toArray, List.getElem_cons_zero, List.getElem_cons_succ, List.setIfInBounds_toArray, List.set_cons_zero, List.set_cons_succ]
    refine wpAnyH_take (i := 20) (v := ?_) rfl (by kernel_rfl) (by kernel_rfl) (by kernel_rfl) (fun _ _ _ h => h) (Or.inl ⟨by rfl, ?_⟩) hHeld ?_
    rotate_left
    · (intro wS hSw; (try dsimp only at hSw); go_simp; try with_reducible rfl)
    try simp only [Act.put, List.getElem_toArray, List.getElem_cons_zero, List.getElem_cons_succ, List.setIfInBounds_toArray, List.set_cons_zero, List.set_cons_succ]
    refine wpAnyH_take (i := 22) (v := ?_) rfl (by kernel_rfl) (by kernel_rfl) (by kernel_rfl) (fun _ _ _ h => h) (Or.inl ⟨by rfl, ?_⟩) hHeld ?_
    rotate_left
    · (intro wS hSw; (try dsimp only at hSw); go_simp; try with_reducible rfl)
    try simp only [Act.put, List.getElem_toArray, List.getElem_cons_zero, List.getElem_cons_succ, List.setIfInBounds_toArray, List.set_cons_zero, List.set_cons_succ]
    refine wpAnyH_take (i := 23) (v := ?_) rfl (by kernel_rfl) (by kernel_rfl) (by kernel_rfl) (fun _ _ _ h => h) (Or.inl ⟨by rfl, ?_⟩) hHeld ?_
    rotate_left
    · (intro wS hSw; (try dsimp only at hSw); go_simp; try with_reducible rfl)
    try simp only [Act.put, List.getElem_toArray, List.getElem_cons_zero, List.getElem_cons_succ, List.setIfInBounds_toArray, List.set_cons_zero, List.set_cons_succ]
    refine wpAnyH_take (i := 24) (v := ?_) rfl (by kernel_rfl) (by kernel_rfl) (by kernel_rfl) (fun _ _ _ h => h) (Or.inl ⟨by rfl, ?_⟩) hHeld ?_
    rotate_left
    · (intro wS hSw; (try dsimp only at hSw); go_simp; try with_reducible rfl)
    try simp only [Act.put, List.getElem_toArray, List.getElem_cons_zero, List.getElem_cons_succ, List.setIfInBounds_toArray, List.set_cons_zero, List.set_cons_succ]
    refine wpAnyH_take (i := 25) (v := ?_) rfl (by kernel_rfl) (by kernel_rfl) (by kernel_rfl) (fun _ _ _ h => h) (Or.inl ⟨by rfl, ?_⟩) hHeld ?_
    rotate_left
    · (intro wS hSw; (try dsimp only at hSw); go_simp; try with_reducible rfl)
    try simp only [Act.put, List.getElem_toArray, List.getElem_cons_zero, List.getElem_cons_succ, List.setIfInBounds_toArray, List.set_cons_zero, List.set_cons_succ]
    refine wpAnyH_take (i := 26) (v := ?_) rfl (by kernel_rfl) (by kernel_rfl) (by kernel_rfl) (fun _ _ _ h => h) (Or.inl ⟨by rfl, ?_⟩) hHeld ?_
    rotate_left
    · (intro wS hSw; (try dsimp only at hSw); go_simp; try with_reducible rfl)
    try simp only [Act.put, List.getElem_toArray, List.getElem_cons_zero, List.getElem_cons_succ, List.setIfInBounds_toArray, List.set_cons_zero, List.set_cons_succ]
    refine wpAnyH_ready (rs := [21, 29]) (by kernel_rfl) (by simp) ?_
    refine AllReadyH.cons rfl (fun K' hK => ?_) (AllReadyH.cons rfl (fun K' hK => ?_) AllReadyH.nil)
    · skip
      go_simp
      refine (valid_any fa lf lf dead _ HI.out.lfwd (HI.out.fwd.below (down hHeld.2.2.2.2) (Nat.le_refl _))).mono ?_
      rintro e wA ⟨vA, rfl, hGA⟩
      obtain ⟨sA, rfl, hnA, hrA, hdA, hbA⟩ := vf_rd hGA
      clear hGA
      dsimp only
      refine hK.out _ _ (mk.out _ (hHeld.2.2.2.2.trans (hbA.mono (sz1 hHeld.2.2.2.2)))) (fun hH1 => ?_)
      clear hK
      try simp only [Act.put, List.getElem_toArray, List.getElem_cons_zero, List.getElem_cons_succ, List.setIfInBounds_toArray, List.set_cons_zero, List.set_cons_succ]
      refine wpAnyH_ready (rs := [27, 29]) (by kernel_rfl) (by simp) ?_
      refine AllReadyH.cons rfl (fun K' hK => ?_) (AllReadyH.cons rfl (fun K' hK => ?_) AllReadyH.nil)
      · skip
        go_simp
        refine (valid_any ba lb lb dead _ HI.out.lbck (HI.out.bck.below (down hH1.2.2.2.2) (Nat.le_refl _))).mono ?_
        rintro e wB ⟨vB, rfl, hGB⟩
        obtain ⟨sB, rfl, hnB, hrB, hdB, hbB⟩ := vf_rd hGB
        clear hGB
        dsimp only
        refine hK.out _ _ (mk.out _ (hH1.2.2.2.2.trans (hbB.mono (sz1 hH1.2.2.2.2)))) (fun hH2 => ?_)
        clear hK
        try simp only [Act.put, List.getElem_toArray, List.getElem_cons_zero, List.getElem_cons_succ, List.setIfInBounds_toArray, List.set_cons_zero, List.set_cons_succ]
        refine wpAnyH_take (i := 28) (v := ?_) rfl (by kernel_rfl) (by kernel_rfl) (by kernel_rfl) (fun _ _ _ h => h) (Or.inl ⟨by rfl, ?_⟩) hH2 ?_
        rotate_left
        · (intro wS hSw; (try dsimp only at hSw); go_simp; try with_reducible rfl)
        try simp only [Act.put, List.getElem_toArray, List.getElem_cons_zero, List.getElem_cons_succ, List.setIfInBounds_toArray, List.set_cons_zero, List.set_cons_succ]
        refine wpAnyH_ready (rs := [29]) (by kernel_rfl) (by simp) ?_
        refine AllReadyH.cons rfl (fun K' hK => ?_) AllReadyH.nil
        go_simp
        refine hK.out _ _ (mk.out _ (hH2.2.2.2.2.alloc (sz1 hH2.2.2.2.2) _)) (fun hH3 => ?_)
        clear hK
        try simp only [Act.put, List.getElem_toArray, List.getElem_cons_zero, List.getElem_cons_succ, List.setIfInBounds_toArray, List.set_cons_zero, List.set_cons_succ]
        have hV := heap_alloc_new wB (.cells #[.int .i64 0, .int .i64 0, .slice none 0 0, .slice none 0 0, .slice none 0 0] 75)
        have hVlt : w.heap.size < wB.heap.size := by have := sz1 hH2.2.2.2.2; omega
        refine wpAnyH_ready (rs := [30]) (by kernel_rfl) (by simp) ?_
        refine AllReadyH.cons rfl (fun K' hK => ?_) AllReadyH.nil
        rw [if_pos (by rfl)]
        refine wp_store_row 75 (.tmp 5) (.tmp 36) rfl _ _ rfl rfl 75 _ hV size75 rfl (one75 _ _ _ _ _ _ _ _ _ _ _) ?_
        refine hK.out _ _ (mk.out _ (below_setRow hH3.2.2.2.2 _ (by omega) _)) (fun hHz => ?_)
        clear hK
        refine wpAnyH_done (by kernel_rfl) ?_ _
        go_wp2_with fail
        go_meet
        case rel => exact lit1_mk hVlt hV hnA hnB (((hrA.below isInt2_hd hbB (Nat.le_refl _)).toX isInt2_hd (sz1 hHeld.2.2.2.2) (.inr (Nat.le_refl _))).below isInt2_hd ((Below.refl _ _).alloc (Nat.le_refl _) _) (Nat.le_refl _)) ((hrB.toX isInt2_hd (sz1 hH1.2.2.2.2) (.inr (Nat.le_refl _))).below isInt2_hd ((Below.refl _ _).alloc (Nat.le_refl _) _) (Nat.le_refl _)) hdA hdB hH3.2.2.2.2
      · skip
        go_simp
        refine hK.out _ _ (mk.out _ (hH1.2.2.2.2.alloc (sz1 hH1.2.2.2.2) _)) (fun hH2 => ?_)
        clear hK
        try simp only [Act.put, List.getElem_toArray, List.getElem_cons_zero, List.getElem_cons_succ, List.setIfInBounds_toArray, List.set_cons_zero, List.set_cons_succ]
        refine wpAnyH_ready (rs := [27]) (by kernel_rfl) (by simp) ?_
        refine AllReadyH.cons rfl (fun K' hK => ?_) AllReadyH.nil
        go_simp
        refine (valid_any ba lb lb dead _ HI.out.lbck (HI.out.bck.below (down hH2.2.2.2.2) (Nat.le_refl _))).mono ?_
        rintro e wB ⟨vB, rfl, hGB⟩
        obtain ⟨sB, rfl, hnB, hrB, hdB, hbB⟩ := vf_rd hGB
        clear hGB
        dsimp only
        refine hK.out _ _ (mk.out _ (hH2.2.2.2.2.trans (hbB.mono (sz1 hH2.2.2.2.2)))) (fun hH3 => ?_)
        clear hK
        try simp only [Act.put, List.getElem_toArray, List.getElem_cons_zero, List.getElem_cons_succ, List.setIfInBounds_toArray, List.set_cons_zero, List.set_cons_succ]
        refine wpAnyH_take (i := 28) (v := ?_) rfl (by kernel_rfl) (by kernel_rfl) (by kernel_rfl) (fun _ _ _ h => h) (Or.inl ⟨by rfl, ?_⟩) hH3 ?_
        rotate_left
        · (intro wS hSw; (try dsimp only at hSw); go_simp; try with_reducible rfl)
        try simp only [Act.put, List.getElem_toArray, List.getElem_cons_zero, List.getElem_cons_succ, List.setIfInBounds_toArray, List.set_cons_zero, List.set_cons_succ]
        have hV : wB.heap[wA.heap.size]? = some (.cells #[.int .i64 0, .int .i64 0, .slice none 0 0, .slice none 0 0, .slice none 0 0] 75 (0, 0)) := by rw [hbB.block _ (by simp)]; exact heap_alloc_new wA _
        have hVlt : w.heap.size < wA.heap.size := by have := sz1 hH1.2.2.2.2; omega
        refine wpAnyH_ready (rs := [30]) (by kernel_rfl) (by simp) ?_
        refine AllReadyH.cons rfl (fun K' hK => ?_) AllReadyH.nil
        rw [if_pos (by rfl)]
        refine wp_store_row 75 (.tmp 5) (.tmp 36) rfl _ _ rfl rfl 75 _ hV size75 rfl (one75 _ _ _ _ _ _ _ _ _ _ _) ?_
        refine hK.out _ _ (mk.out _ (below_setRow hH3.2.2.2.2 _ (by omega) _)) (fun hHz => ?_)
        clear hK
        refine wpAnyH_done (by kernel_rfl) ?_ _
        go_wp2_with fail
        go_meet
        case rel => exact lit1_mk hVlt hV hnA hnB ((hrA.toX isInt2_hd (sz1 hHeld.2.2.2.2) (.inr (Nat.le_refl _))).below isInt2_hd (((Below.refl _ _).alloc (Nat.le_refl _) _).trans (hbB.mono (by simp))) (Nat.le_refl _)) (hrB.toX isInt2_hd (sz1 hH2.2.2.2.2) (.inl (by simp))) hdA hdB hH3.2.2.2.2
    · skip
      go_simp
      refine hK.out _ _ (mk.out _ (hHeld.2.2.2.2.alloc (sz1 hHeld.2.2.2.2) _)) (fun hH1 => ?_)
      clear hK
      try simp only [Act.put, List.getElem_toArray, List.getElem_cons_zero, List.getElem_cons_succ, List.setIfInBounds_toArray, List.set_cons_zero, List.set_cons_succ]
      refine wpAnyH_ready (rs := [21]) (by kernel_rfl) (by simp) ?_
      refine AllReadyH.cons rfl (fun K' hK => ?_) AllReadyH.nil
      go_simp
      refine (valid_any fa lf lf dead _ HI.out.lfwd (HI.out.fwd.below (down hH1.2.2.2.2) (Nat.le_refl _))).mono ?_
      rintro e wA ⟨vA, rfl, hGA⟩
      obtain ⟨sA, rfl, hnA, hrA, hdA, hbA⟩ := vf_rd hGA
      clear hGA
      dsimp only
      refine hK.out _ _ (mk.out _ (hH1.2.2.2.2.trans (hbA.mono (sz1 hH1.2.2.2.2)))) (fun hH2 => ?_)
      clear hK
      try simp only [Act.put, List.getElem_toArray, List.getElem_cons_zero, List.getElem_cons_succ, List.setIfInBounds_toArray, List.set_cons_zero, List.set_cons_succ]
      refine wpAnyH_ready (rs := [27]) (by kernel_rfl) (by simp) ?_
      refine AllReadyH.cons rfl (fun K' hK => ?_) AllReadyH.nil
      go_simp
      refine (valid_any ba lb lb dead _ HI.out.lbck (HI.out.bck.below (down hH2.2.2.2.2) (Nat.le_refl _))).mono ?_
      rintro e wB ⟨vB, rfl, hGB⟩
      obtain ⟨sB, rfl, hnB, hrB, hdB, hbB⟩ := vf_rd hGB
      clear hGB
      dsimp only
      refine hK.out _ _ (mk.out _ (hH2.2.2.2.2.trans (hbB.mono (sz1 hH2.2.2.2.2)))) (fun hH3 => ?_)
      clear hK
      try simp only [Act.put, List.getElem_toArray, List.getElem_cons_zero, List.getElem_cons_succ, List.setIfInBounds_toArray, List.set_cons_zero, List.set_cons_succ]
      refine wpAnyH_take (i := 28) (v := ?_) rfl (by kernel_rfl) (by kernel_rfl) (by kernel_rfl) (fun _ _ _ h => h) (Or.inl ⟨by rfl, ?_⟩) hH3 ?_
      rotate_left
      · (intro wS hSw; (try dsimp only at hSw); go_simp; try with_reducible rfl)
      try simp only [Act.put, List.getElem_toArray, List.getElem_cons_zero, List.getElem_cons_succ, List.setIfInBounds_toArray, List.set_cons_zero, List.set_cons_succ]
      have hV : wB.heap[w.heap.size + 1]? = some (.cells #[.int .i64 0, .int .i64 0, .slice none 0 0, .slice none 0 0, .slice none 0 0] 75 (0, 0)) := by
        rw [hbB.block _ (by have := hbA.size; simp at this; omega), hbA.block _ (by simp)]
        have h := heap_alloc_new (w.alloc (.cells #[.int .i64 0, .int .i64 0, .slice none 0 0, .slice none 0 0, .slice none 0 0] 75)) (.cells #[.int .i64 0, .int .i64 0, .slice none 0 0, .slice none 0 0, .slice none 0 0] 75)
        have e : (w.alloc (.cells #[.int .i64 0, .int .i64 0, .slice none 0 0, .slice none 0 0, .slice none 0 0] 75)).heap.size = w.heap.size + 1 := by simp
        rw [e] at h
        exact h
      refine wpAnyH_ready (rs := [30]) (by kernel_rfl) (by simp) ?_
      refine AllReadyH.cons rfl (fun K' hK => ?_) AllReadyH.nil
      rw [if_pos (by rfl)]
      refine wp_store_row 75 (.tmp 5) (.tmp 36) rfl _ _ rfl rfl 75 _ hV size75 rfl (one75 _ _ _ _ _ _ _ _ _ _ _) ?_
      refine hK.out _ _ (mk.out _ (below_setRow hH3.2.2.2.2 _ (by omega) _)) (fun hHz => ?_)
      clear hK
      refine wpAnyH_done (by kernel_rfl) ?_ _
      go_wp2_with fail
      go_meet
      case rel => exact lit1_mk (Nat.lt_succ_self _) hV hnA hnB ((hrA.toX isInt2_hd (sz1 hH1.2.2.2.2) (.inl (by simp))).below isInt2_hd hbB (Nat.le_refl _)) (hrB.toX isInt2_hd (sz1 hH2.2.2.2.2) (.inl (by have := hbA.size; simp at this; omega))) hdA hdB hH3.2.2.2.2
end Go.Proofs.Qxb6600017a
