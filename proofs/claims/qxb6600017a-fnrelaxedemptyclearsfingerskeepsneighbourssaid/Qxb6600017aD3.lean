/-
  THE WALKS: zzNeighbours_b1.
-/
import Derived.Test.Qxb6600017aD2
import Derived.Deep.RegionHeld3
import Derived.WalkLawsBesides
namespace Go.Proofs.Qxb6600017a
open Go.RowKit
set_option linter.unusedSimpArgs false

theorem info47 : (Try.prog.info? 47).map (fun i => (i.zero, i.size, i.bytes)) = some (some (.agg #[.int .u64 0, .int .u64 0, .int .u64 0, .int .i32 0]), 4, 32) := by kernel_rfl
theorem size47 : (Try.prog.info? 47).map (·.size) = some 4 := by kernel_rfl

/-- A slice of peers, in a block from L on, can be read. -/
def RdP (L : Nat) (w : World) (s : Sl) : Prop := 0 < s.n → ∃ b o, s.a = some ⟨b, o, none⟩ ∧ L ≤ b ∧ Elems isPeer w b o 4 s.n
theorem RdP.lt {w : World} {s : Sl} (hn : 0 < s.n) {b o : Nat} (he : Elems isPeer w b o 4 s.n) : b < w.heap.size := by
  obtain ⟨cs, h1, h2, h3⟩ := he 0 hn
  obtain ⟨x, rfl⟩ := h2
  exact World.block_lt_of_cell? w _ (h3 0 (.int .u64 0) rfl)
theorem RdP.below {L B : Nat} {w w' : World} (hb : Below B w w') (hB : w.heap.size ≤ B) {s : Sl} (h : RdP L w s) : RdP L w' s := fun hn => by
  obtain ⟨b, o, e, hL, he⟩ := h hn
  have hlt := RdP.lt hn he
  exact ⟨b, o, e, hL, he.below hb (by omega)⟩

/-- What zzNeighbours gives. -/
def NbPost (t : ZT) (w : World) (e : Ending) (w' : World) : Prop :=
  ∃ s : Sl, e = .returned (.agg #[.int .u64 0, .int .u64 0, .int .u64 0, .int .i32 t.pre, .int .u64 0, .int .u64 0, .int .u64 0, .int .i32 t.suc, .bool t.np, .bool t.qp, .slice s.a s.n s.c]) ∧
    s.n ≤ 1048576 ∧ RdP w.heap.size w' s ∧ Below w.heap.size w w'

theorem size50 : (Try.prog.info? 50).map (·.size) = some 11 := by kernel_rfl
theorem one11 (x y : Int) (a b : Bool) (p : Option Addr) (n c : Nat) : (#[.int .u64 0, .int .u64 0, .int .u64 0, .int .i32 x, .int .u64 0, .int .u64 0, .int .u64 0, .int .i32 y, .bool a, .bool b, .slice p n c] : Array Value).all (·.oneCell') = true := by
  simp [Value.oneCell']
/-- 'wpList_store_mid', the number of cells told apart from the array. -/
theorem wpList_storeN {P : Program} {ops : Array Oper} {rest : List Oper} {op : Oper} {a : Act} {w : World} {Q : Exit → Act → World → Prop} (hgd : op.guard = none) (ty : TypeId) (x y : Operand) (ho : op.op = .store ty x y)
    (b o : Nat) (cells : Array Value) (n : Nat) (hn : cells.size = n) (hx : a.eval x = .pointer (some ⟨b, o, none⟩)) (hy : a.eval y = .agg cells)
    (ht : w.there b o n) (hi : (P.info? ty).map (·.size) = some n) (h1 : cells.all (·.oneCell') = true)
    (h : wpList P ops Q rest (a.put op.dst undef) (w.setCells b o cells.toList)) : wpList P ops Q (op :: rest) a w := by
  subst hn; exact wpList_store_mid hgd ty x y ho b o cells hx hy ht hi h1 h
theorem results_cell_mid {P : Program} {fn : Func} {p : Tmp} {ty : TypeId} (h : fn.results = #[.cell p ty]) (tmps : Array Value) (w : World) (b o : Nat) (cs : List Value) (d : TypeDesc)
    (hp : tmps.getD p undef = .pointer (some ⟨b, o, none⟩)) (hc : w.rangeAt b o cs) (hu : P.underlying ty = some d) (hd : d.isRow = true) (hi : (P.info? ty).map (·.size) = some cs.length) :
    (results fn tmps).run P w = .ok (.agg cs.toArray) w := by
  have hp' : tmps[p]?.getD undef = .pointer (some ⟨b, o, none⟩) := by simpa using hp
  simp [results, h, hp', asAddr, run_loadVar_mid w b o ty cs d hc hu hd hi]

def NbS (N : Nat) (pre suc : Int) (np qp : Bool) (R : World → Prop) (w' : World) : Prop :=
  w'.cell? ⟨N, 0, none⟩ = some (.int .i32 pre) ∧ w'.cell? ⟨N, 1, none⟩ = some (.int .i32 suc) ∧ w'.cell? ⟨N, 2, none⟩ = some (.bool np) ∧ w'.cell? ⟨N, 3, none⟩ = some (.bool qp) ∧ R w'
/-- What the last statement of zzNeighbours keeps: the box's first cells; the result's variable; the followers; all else. -/
def Rest (w : World) (s : Sl) (w' : World) : Prop := w'.there (w.heap.size + 1) 0 11 ∧ (0 < s.n → s.a = some ⟨w.heap.size + 2, 0, none⟩ ∧ Elems isPeer w' (w.heap.size + 2) 0 4 s.n) ∧ Below w.heap.size w w' ∧ w.heap.size + 2 ≤ w'.heap.size
theorem Rest.alloc {w : World} {s : Sl} {w' : World} (h : Rest w s w') (o : Obj) : Rest w s (w'.alloc o) :=
  ⟨World.there_alloc h.1 o, fun hn => ⟨(h.2.1 hn).1, (h.2.1 hn).2.alloc o⟩, h.2.2.1.alloc (by have := h.2.2.2; omega) o, by have := h.2.2.2; simp; omega⟩
theorem Rest.drew {w : World} {s : Sl} {w' : World} (h : Rest w s w') : Rest w s w'.drew := ⟨h.1, h.2.1, h.2.2.1.drew, h.2.2.2⟩

theorem Rest.store {w : World} {s : Sl} {w' : World} (h : Rest w s w') (vs : List Value) : Rest w s (w'.setCells (w.heap.size + 1) 0 vs) :=
  ⟨World.there_setCells h.1 _ _ _, fun hn => ⟨(h.2.1 hn).1, (h.2.1 hn).2.other (by omega) _ _⟩, below_setCells h.2.2.1 (by omega) _ _, by rw [size_setCells]; exact h.2.2.2⟩
theorem keep_store {w w' : World} {s : Sl} {x y : Value} {u v : Value} (h : w'.cell? ⟨w.heap.size, 0, none⟩ = some x ∧ w'.cell? ⟨w.heap.size, 1, none⟩ = some y ∧ w'.cell? ⟨w.heap.size, 2, none⟩ = some u ∧ w'.cell? ⟨w.heap.size, 3, none⟩ = some v ∧ Rest w s w') (vs : List Value) :
    (w'.setCells (w.heap.size + 1) 0 vs).cell? ⟨w.heap.size, 0, none⟩ = some x ∧ (w'.setCells (w.heap.size + 1) 0 vs).cell? ⟨w.heap.size, 1, none⟩ = some y ∧ (w'.setCells (w.heap.size + 1) 0 vs).cell? ⟨w.heap.size, 2, none⟩ = some u ∧ (w'.setCells (w.heap.size + 1) 0 vs).cell? ⟨w.heap.size, 3, none⟩ = some v ∧ Rest w s (w'.setCells (w.heap.size + 1) 0 vs) := by
  obtain ⟨h0, h1, h2, h3, hr⟩ := h
  have hc : ∀ j, (w'.setCells (w.heap.size + 1) 0 vs).cell? ⟨w.heap.size, j, none⟩ = w'.cell? ⟨w.heap.size, j, none⟩ := fun j =>
    World.cell?_setCells_out _ vs 0 w' ⟨w.heap.size, j, none⟩ (fun hb _ => absurd hb (by simp))
  exact ⟨by rw [hc]; exact h0, by rw [hc]; exact h1, by rw [hc]; exact h2, by rw [hc]; exact h3, hr.store vs⟩

theorem keep_alloc {w w' : World} {s : Sl} {x y : Value} {u v : Value} (h : w'.cell? ⟨w.heap.size, 0, none⟩ = some x ∧ w'.cell? ⟨w.heap.size, 1, none⟩ = some y ∧ w'.cell? ⟨w.heap.size, 2, none⟩ = some u ∧ w'.cell? ⟨w.heap.size, 3, none⟩ = some v ∧ Rest w s w') (o : Obj) :
    (w'.alloc o).cell? ⟨w.heap.size, 0, none⟩ = some x ∧ (w'.alloc o).cell? ⟨w.heap.size, 1, none⟩ = some y ∧ (w'.alloc o).cell? ⟨w.heap.size, 2, none⟩ = some u ∧ (w'.alloc o).cell? ⟨w.heap.size, 3, none⟩ = some v ∧ Rest w s (w'.alloc o) := by
  obtain ⟨h0, h1, h2, h3, hr⟩ := h
  have hlt : w.heap.size < w'.heap.size := by have := hr.2.2.2; omega
  exact ⟨by rw [World.cell?_alloc_lt _ _ _ hlt]; exact h0, by rw [World.cell?_alloc_lt _ _ _ hlt]; exact h1, by rw [World.cell?_alloc_lt _ _ _ hlt]; exact h2, by rw [World.cell?_alloc_lt _ _ _ hlt]; exact h3, hr.alloc o⟩

theorem nbS_start (w : World) (pre suc : Int) (np qp : Bool) (v4 v5 v6 : Value) (s : Sl) (hs : 0 < s.n → False) :
    NbS w.heap.size pre suc np qp (Rest w s) ((w.alloc (.cells #[.int .i32 pre, .int .i32 suc, .bool np, .bool qp, v4, v5, v6] 33)).alloc (.cells #[.int .u64 0, .int .u64 0, .int .u64 0, .int .i32 0, .int .u64 0, .int .u64 0, .int .u64 0, .int .i32 0, .bool false, .bool false, .slice none 0 0] 50)) := by
  have hth := there_new (w.alloc (.cells #[.int .i32 pre, .int .i32 suc, .bool np, .bool qp, v4, v5, v6] 33)) #[.int .u64 0, .int .u64 0, .int .u64 0, .int .i32 0, .int .u64 0, .int .u64 0, .int .u64 0, .int .i32 0, .bool false, .bool false, .slice none 0 0] 50
  have hN : (w.alloc (.cells #[.int .i32 pre, .int .i32 suc, .bool np, .bool qp, v4, v5, v6] 33)).heap.size = w.heap.size + 1 := by simp
  rw [hN] at hth
  exact ⟨by simp [go_sem], by simp [go_sem], by simp [go_sem], by simp [go_sem], hth, fun h => (hs h).elim, ((Below.refl _ _).alloc (Nat.le_refl _) _).alloc (by simp) _, by simp⟩

theorem one4 (x : Int) : (#[.int .u64 0, .int .u64 0, .int .u64 0, .int .i32 x] : Array Value).all (·.oneCell') = true := by simp [Value.oneCell']

/-- The loop's world. -/
def LoopW (w : World) (pre suc : Int) (np qp : Bool) (v4 : Value) (fn : Nat) (wx : World) : Prop :=
  NbS w.heap.size pre suc np qp (Rest w ⟨some ⟨w.heap.size + 2, 0, none⟩, fn, fn⟩) wx ∧ wx.cell? ⟨w.heap.size, 4, none⟩ = some v4 ∧ wx.there (w.heap.size + 2) 0 (fn * 4) ∧ w.heap.size + 3 ≤ wx.heap.size
theorem loopW_start (w : World) (pre suc : Int) (np qp : Bool) (v4 v5 v6 : Value) (fn : Nat) (C : Array Value) (hC1 : C.size = fn * 4) (hC2 : ∀ k j, k < fn → j < 4 → C[k * 4 + j]? = (#[.int .u64 0, .int .u64 0, .int .u64 0, .int .i32 0] : Array Value)[j]?) :
    LoopW w pre suc np qp v4 fn (((w.alloc (.cells #[.int .i32 pre, .int .i32 suc, .bool np, .bool qp, v4, v5, v6] 33)).alloc (.cells #[.int .u64 0, .int .u64 0, .int .u64 0, .int .i32 0, .int .u64 0, .int .u64 0, .int .u64 0, .int .i32 0, .bool false, .bool false, .slice none 0 0] 50)).alloc (.cells C 47)) := by
  obtain ⟨h0, h1, h2, h3, hr⟩ := nbS_start w pre suc np qp v4 v5 v6 ⟨none, 0, 0⟩ (fun h => absurd h (Nat.lt_irrefl 0))
  have h4 : ((w.alloc (.cells #[.int .i32 pre, .int .i32 suc, .bool np, .bool qp, v4, v5, v6] 33)).alloc (.cells #[.int .u64 0, .int .u64 0, .int .u64 0, .int .i32 0, .int .u64 0, .int .u64 0, .int .u64 0, .int .i32 0, .bool false, .bool false, .slice none 0 0] 50)).cell? ⟨w.heap.size, 4, none⟩ = some v4 := by simp [go_sem]
  have hsz : ((w.alloc (.cells #[.int .i32 pre, .int .i32 suc, .bool np, .bool qp, v4, v5, v6] 33)).alloc (.cells #[.int .u64 0, .int .u64 0, .int .u64 0, .int .i32 0, .int .u64 0, .int .u64 0, .int .u64 0, .int .i32 0, .bool false, .bool false, .slice none 0 0] 50)).heap.size = w.heap.size + 2 := by simp
  generalize (w.alloc (.cells #[.int .i32 pre, .int .i32 suc, .bool np, .bool qp, v4, v5, v6] 33)).alloc (.cells #[.int .u64 0, .int .u64 0, .int .u64 0, .int .i32 0, .int .u64 0, .int .u64 0, .int .u64 0, .int .i32 0, .bool false, .bool false, .slice none 0 0] 50) = W at *
  have hlt : w.heap.size < W.heap.size := by omega
  have hth := there_new W C 47
  have hel := Elems.made (p := isPeer) (w := W) (C := C) (e := 47) (n := fn) (size := 4) rfl hC2 ⟨0, rfl⟩
  rw [hsz] at hth hel
  rw [hC1] at hth
  have hA := hr.alloc (.cells C 47)
  exact ⟨⟨by rw [World.cell?_alloc_lt _ _ _ hlt]; exact h0, by rw [World.cell?_alloc_lt _ _ _ hlt]; exact h1, by rw [World.cell?_alloc_lt _ _ _ hlt]; exact h2, by rw [World.cell?_alloc_lt _ _ _ hlt]; exact h3,
    hA.1, fun _ => ⟨rfl, hel⟩, hA.2.2.1, hA.2.2.2⟩, by rw [World.cell?_alloc_lt _ _ _ hlt]; exact h4, hth, by simp; omega⟩
theorem loopW_step {w : World} {pre suc : Int} {np qp : Bool} {v4 : Value} {fn : Nat} {wx : World} (h : LoopW w pre suc np qp v4 fn wx) {i : Nat} (hi : i < fn) (x : Int) (o : Obj) :
    LoopW w pre suc np qp v4 fn ((wx.alloc o).setCells (w.heap.size + 2) (i * 4) [.int .u64 0, .int .u64 0, .int .u64 0, .int .i32 x]) := by
  obtain ⟨⟨h0, h1, h2, h3, hr⟩, h4, hth, hsz⟩ := h
  have hlt : w.heap.size < wx.heap.size := by omega
  have hc : ∀ j, ((wx.alloc o).setCells (w.heap.size + 2) (i * 4) [.int .u64 0, .int .u64 0, .int .u64 0, .int .i32 x]).cell? ⟨w.heap.size, j, none⟩ = wx.cell? ⟨w.heap.size, j, none⟩ := fun j => by
    rw [World.cell?_setCells_out _ _ _ _ ⟨w.heap.size, j, none⟩ (fun hb _ => absurd hb (by simp)), World.cell?_alloc_lt _ _ _ hlt]
  have hA := hr.alloc o
  have hel := (hA.2.1 (show 0 < fn by omega)).2
  have hth' := World.there_alloc hth o
  refine ⟨⟨by rw [hc]; exact h0, by rw [hc]; exact h1, by rw [hc]; exact h2, by rw [hc]; exact h3, World.there_setCells hA.1 _ _ _, fun _ => ⟨rfl, ?_⟩, below_setCells hA.2.2.1 (by omega) _ _, by rw [size_setCells]; exact hA.2.2.2⟩, by rw [hc]; exact h4, World.there_setCells hth' _ _ _, by rw [size_setCells]; simp; omega⟩
  have := hel.set hth' hi (vs := [.int .u64 0, .int .u64 0, .int .u64 0, .int .i32 x]) rfl ⟨x, rfl⟩
  simpa using this

set_option maxHeartbeats 2000000 in
set_option maxRecDepth 100000 in
theorem nb_any (t : ZT) (w : World) (hl : t.fol.n ≤ 1048576) (hf : Rd1 w t.fol) (hnil : t.fol.a = none → t.fol.n = 0) :
    Calls Try.prog 38 #[.agg #[.int .i32 t.pre, .int .i32 t.suc, .bool t.np, .bool t.qp, .slice t.fol.a t.fol.n t.fol.c, .slice t.fwd.a t.fwd.n t.fwd.c, .slice t.bck.a t.bck.n t.bck.c]] w (NbPost t w) := by
  obtain ⟨pre, suc, np, qp, ⟨fa, fn, fc⟩, fwd, bck⟩ := t
  dsimp only at hl hf hnil ⊢
  cases fa with
  | none =>
    clear hf hnil
    go_enter Try.func38, Try.ntmps38
    go_wp2
    have hS : NbS w.heap.size pre suc np qp (Rest w ⟨none, 0, 0⟩) ((w.alloc (.cells #[.int .i32 pre, .int .i32 suc, .bool np, .bool qp, .slice none fn fc, .slice fwd.a fwd.n fwd.c, .slice bck.a bck.n bck.c] 33)).alloc (.cells #[.int .u64 0, .int .u64 0, .int .u64 0, .int .i32 0, .int .u64 0, .int .u64 0, .int .u64 0, .int .i32 0, .bool false, .bool false, .slice none 0 0] 50)) := nbS_start _ _ _ _ _ _ _ _ _ (fun h => by simp at h)
    generalize (w.alloc (.cells #[.int .i32 pre, .int .i32 suc, .bool np, .bool qp, .slice none fn fc, .slice fwd.a fwd.n fwd.c, .slice bck.a bck.n bck.c] 33)).alloc (.cells #[.int .u64 0, .int .u64 0, .int .u64 0, .int .i32 0, .int .u64 0, .int .u64 0, .int .u64 0, .int .i32 0, .bool false, .bool false, .slice none 0 0] 50) = W at *
    refine wp_region_held_drew (S := fun w' => w'.cell? ⟨w.heap.size, 0, none⟩ = some (.int .i32 pre) ∧ w'.cell? ⟨w.heap.size, 1, none⟩ = some (.int .i32 suc) ∧ w'.cell? ⟨w.heap.size, 2, none⟩ = some (.bool np) ∧ w'.cell? ⟨w.heap.size, 3, none⟩ = some (.bool qp) ∧ Rest w ⟨none, 0, 0⟩ w') (by kernel_rfl) ⟨hS.1, hS.2.1, hS.2.2.1, hS.2.2.2.1, hS.2.2.2.2.drew⟩ (fun hHeld => ?_)
    refine wpAnyH_take (i := 0) (v := ?_) rfl (by kernel_rfl) (by kernel_rfl) (by kernel_rfl) (fun _ _ _ h => h) (Or.inl ⟨by rfl, ?_⟩) hHeld ?_
    rotate_left
    · (intro wS hSw; (try dsimp only at hSw); go_simp; try with_reducible rfl)
    try simp only [Act.put, List.getElem_toArray, List.getElem_cons_zero, List.getElem_cons_succ, List.setIfInBounds_toArray, List.set_cons_zero, List.set_cons_succ]
    refine wpAnyH_take (i := 1) (v := ?_) rfl (by kernel_rfl) (by kernel_rfl) (by kernel_rfl) (fun _ _ _ h => h) (Or.inl ⟨by rfl, ?_⟩) hHeld ?_
    rotate_left
    · (intro wS hSw; (try dsimp only at hSw); go_simp; try with_reducible rfl)
    try simp only [Act.put, List.getElem_toArray, List.getElem_cons_zero, List.getElem_cons_succ, List.setIfInBounds_toArray, List.set_cons_zero, List.set_cons_succ]
    refine wpAnyH_take (i := 3) (v := ?_) rfl (by kernel_rfl) (by kernel_rfl) (by kernel_rfl) (fun _ _ _ h => h) (Or.inl ⟨by rfl, ?_⟩) hHeld ?_
    rotate_left
    · (intro wS hSw; (try dsimp only at hSw); go_simp; try with_reducible rfl)
    try simp only [Act.put, List.getElem_toArray, List.getElem_cons_zero, List.getElem_cons_succ, List.setIfInBounds_toArray, List.set_cons_zero, List.set_cons_succ]
    refine wpAnyH_take (i := 4) (v := ?_) rfl (by kernel_rfl) (by kernel_rfl) (by kernel_rfl) (fun _ _ _ h => h) (Or.inl ⟨by rfl, ?_⟩) hHeld ?_
    rotate_left
    · (intro wS hSw; (try dsimp only at hSw); go_simp; try with_reducible rfl)
    try simp only [Act.put, List.getElem_toArray, List.getElem_cons_zero, List.getElem_cons_succ, List.setIfInBounds_toArray, List.set_cons_zero, List.set_cons_succ]
    refine wpAnyH_take (i := 6) (v := ?_) rfl (by kernel_rfl) (by kernel_rfl) (by kernel_rfl) (fun _ _ _ h => h) (Or.inl ⟨by rfl, ?_⟩) hHeld ?_
    rotate_left
    · (intro wS hSw; (try dsimp only at hSw); go_simp; try with_reducible rfl)
    try simp only [Act.put, List.getElem_toArray, List.getElem_cons_zero, List.getElem_cons_succ, List.setIfInBounds_toArray, List.set_cons_zero, List.set_cons_succ]
    refine wpAnyH_take (i := 7) (v := ?_) rfl (by kernel_rfl) (by kernel_rfl) (by kernel_rfl) (fun _ _ _ h => h) (Or.inl ⟨by rfl, ?_⟩) hHeld ?_
    rotate_left
    · (intro wS hSw; (try dsimp only at hSw); go_simp; try with_reducible rfl)
    try simp only [Act.put, List.getElem_toArray, List.getElem_cons_zero, List.getElem_cons_succ, List.setIfInBounds_toArray, List.set_cons_zero, List.set_cons_succ]
    refine wpAnyH_take (i := 8) (v := ?_) rfl (by kernel_rfl) (by kernel_rfl) (by kernel_rfl) (fun _ _ _ h => h) (Or.inl ⟨by rfl, ?_⟩) hHeld ?_
    rotate_left
    · (intro wS hSw; (try dsimp only at hSw); go_simp; try with_reducible rfl)
    try simp only [Act.put, List.getElem_toArray, List.getElem_cons_zero, List.getElem_cons_succ, List.setIfInBounds_toArray, List.set_cons_zero, List.set_cons_succ]
    refine wpAnyH_take (i := 9) (v := ?_) rfl (by kernel_rfl) (by kernel_rfl) (by kernel_rfl) (fun _ _ _ h => h) (Or.inl ⟨by rfl, ?_⟩) hHeld ?_
    rotate_left
    · (intro wS hSw; (try dsimp only at hSw); go_simp; try with_reducible rfl)
    try simp only [Act.put, List.getElem_toArray, List.getElem_cons_zero, List.getElem_cons_succ, List.setIfInBounds_toArray, List.set_cons_zero, List.set_cons_succ]
    refine wpAnyH_take (i := 10) (v := ?_) rfl (by kernel_rfl) (by kernel_rfl) (by kernel_rfl) (fun _ _ _ h => h) (Or.inl ⟨by rfl, ?_⟩) hHeld ?_
    rotate_left
    · (intro wS hSw; (try dsimp only at hSw); go_simp; try with_reducible rfl)
    try simp only [Act.put, List.getElem_toArray, List.getElem_cons_zero, List.getElem_cons_succ, List.setIfInBounds_toArray, List.set_cons_zero, List.set_cons_succ]
    refine wpAnyH_ready (rs := [2]) (by kernel_rfl) (by simp) ?_
    refine AllReadyH.cons rfl (fun K' hK => ?_) AllReadyH.nil
    go_simp
    refine (peer_any _ _).mono ?_
    rintro e w' ⟨rfl, rfl⟩
    dsimp only
    refine hK.out _ _ (keep_alloc hHeld _) (fun hHeld2 => ?_)
    clear hK
    try simp only [Act.put, List.getElem_toArray, List.getElem_cons_zero, List.getElem_cons_succ, List.setIfInBounds_toArray, List.set_cons_zero, List.set_cons_succ]
    clear hHeld
    refine wpAnyH_ready (rs := [5]) (by kernel_rfl) (by simp) ?_
    refine AllReadyH.cons rfl (fun K' hK => ?_) AllReadyH.nil
    go_simp
    refine (peer_any _ _).mono ?_
    rintro e w' ⟨rfl, rfl⟩
    dsimp only
    refine hK.out _ _ (keep_alloc hHeld2 _) (fun hHeld3 => ?_)
    clear hK
    try simp only [Act.put, List.getElem_toArray, List.getElem_cons_zero, List.getElem_cons_succ, List.setIfInBounds_toArray, List.set_cons_zero, List.set_cons_succ]
    clear hHeld2
    refine wpAnyH_take (i := 11) (v := ?_) rfl (by kernel_rfl) (by kernel_rfl) (by kernel_rfl) (fun _ _ _ h => h) (Or.inl ⟨by rfl, ?_⟩) hHeld3 ?_
    rotate_left
    · (intro wS hSw; (try dsimp only at hSw); go_simp; try with_reducible rfl)
    try simp only [Act.put, List.getElem_toArray, List.getElem_cons_zero, List.getElem_cons_succ, List.setIfInBounds_toArray, List.set_cons_zero, List.set_cons_succ]
    refine wpAnyH_ready (rs := [12]) (by kernel_rfl) (by simp) ?_
    refine AllReadyH.cons rfl (fun K' hK => ?_) AllReadyH.nil
    rw [if_pos (by rfl)]
    refine wp_store_mid 50 (.tmp 2) (.tmp 39) rfl (w.heap.size + 1) 0 #[.int .u64 0, .int .u64 0, .int .u64 0, .int .i32 pre, .int .u64 0, .int .u64 0, .int .u64 0, .int .i32 suc, .bool np, .bool qp, .slice none 0 0] rfl rfl hHeld3.2.2.2.2.1 size50 (one11 _ _ _ _ _ _ _) ?_
    refine hK.out _ _ (keep_store hHeld3 _) (fun hHeld4 => ?_)
    clear hK
    refine wpAnyH_done (by kernel_rfl) ?_ _
    have hrng := World.rangeAt_setCells_same _ _ _ (#[.int .u64 0, .int .u64 0, .int .u64 0, .int .i32 pre, .int .u64 0, .int .u64 0, .int .u64 0, .int .i32 suc, .bool np, .bool qp, .slice none 0 0] : Array Value).toList hHeld3.2.2.2.2.1
    generalize hWW : World.setCells _ (w.heap.size + 1) 0 (#[.int .u64 0, .int .u64 0, .int .u64 0, .int .i32 pre, .int .u64 0, .int .u64 0, .int .u64 0, .int .i32 suc, .bool np, .bool qp, .slice none 0 0] : Array Value).toList = WW at *
    clear hHeld3 hWW
    go_wp2
    refine bodyPost_ret (v := .agg #[.int .u64 0, .int .u64 0, .int .u64 0, .int .i32 pre, .int .u64 0, .int .u64 0, .int .u64 0, .int .i32 suc, .bool np, .bool qp, .slice none 0 0]) ?_ rfl ⟨⟨none, 0, 0⟩, rfl, by dsimp only; omega, ?_, hHeld4.2.2.2.2.2.2.1⟩
    · exact results_cell_mid (p := 2) (ty := 50) rfl _ _ (w.heap.size + 1) 0 _ _ rfl hrng Try.underlying50 rfl size50
    · exact fun h => absurd h (Nat.lt_irrefl 0)
  | some ad =>
    have HF : Hid (Rd1 w ⟨some ad, fn, fc⟩) := hf
    clear hf hnil
    go_enter Try.func38, Try.ntmps38
    go_wp2_with (at_make; refine wpList_makeN rfl (.tmp 10) (.tmp 10) 48 rfl 47 _ 4 32 Try.underlying48 info47 rfl fn rfl rfl (by omega) (by omega) ?_; intro C hC1 hC2)
    have HW := loopW_start w pre suc np qp (.slice (some ad) fn fc) (.slice fwd.a fwd.n fwd.c) (.slice bck.a bck.n bck.c) fn C hC1 hC2
    clear hC1 hC2
    go_loopg [4] fn (fun g s4 wx => ∃ i : Nat, i + g = fn ∧ s4 = .int .i64 i ∧ LoopW w pre suc np qp (.slice (some ad) fn fc) fn wx)
    case atStart => exact ⟨0, by omega, rfl, HW⟩
    case round =>
      clear HW
      obtain ⟨i, hig, rfl, hW⟩ := hrel
      cases gk with
      | zero =>
        obtain rfl : fn = i := by omega
        have hc4 := hW.2.1
        go_wp2
        have hS := hW.1
        clear hc4 hW
        generalize hwr : wr = W at *
        clear hwr
        refine wp_region_held_drew (S := fun w' => w'.cell? ⟨w.heap.size, 0, none⟩ = some (.int .i32 pre) ∧ w'.cell? ⟨w.heap.size, 1, none⟩ = some (.int .i32 suc) ∧ w'.cell? ⟨w.heap.size, 2, none⟩ = some (.bool np) ∧ w'.cell? ⟨w.heap.size, 3, none⟩ = some (.bool qp) ∧ Rest w ⟨some ⟨w.heap.size + 2, 0, none⟩, fn, fn⟩ w') (by kernel_rfl) ⟨hS.1, hS.2.1, hS.2.2.1, hS.2.2.2.1, hS.2.2.2.2.drew⟩ (fun hHeld => ?_)
        refine wpAnyH_take (i := 0) (v := ?_) rfl (by kernel_rfl) (by kernel_rfl) (by kernel_rfl) (fun _ _ _ h => h) (Or.inl ⟨by rfl, ?_⟩) hHeld ?_
        rotate_left
        · (intro wS hSw; (try dsimp only at hSw); go_simp; try with_reducible rfl)
        try simp only [Act.put, List.getElem_toArray, List.getElem_cons_zero, List.getElem_cons_succ, List.setIfInBounds_toArray, List.set_cons_zero, List.set_cons_succ]
        refine wpAnyH_take (i := 1) (v := ?_) rfl (by kernel_rfl) (by kernel_rfl) (by kernel_rfl) (fun _ _ _ h => h) (Or.inl ⟨by rfl, ?_⟩) hHeld ?_
        rotate_left
        · (intro wS hSw; (try dsimp only at hSw); go_simp; try with_reducible rfl)
        try simp only [Act.put, List.getElem_toArray, List.getElem_cons_zero, List.getElem_cons_succ, List.setIfInBounds_toArray, List.set_cons_zero, List.set_cons_succ]
        refine wpAnyH_take (i := 3) (v := ?_) rfl (by kernel_rfl) (by kernel_rfl) (by kernel_rfl) (fun _ _ _ h => h) (Or.inl ⟨by rfl, ?_⟩) hHeld ?_
        rotate_left
        · (intro wS hSw; (try dsimp only at hSw); go_simp; try with_reducible rfl)
        try simp only [Act.put, List.getElem_toArray, List.getElem_cons_zero, List.getElem_cons_succ, List.setIfInBounds_toArray, List.set_cons_zero, List.set_cons_succ]
        refine wpAnyH_take (i := 4) (v := ?_) rfl (by kernel_rfl) (by kernel_rfl) (by kernel_rfl) (fun _ _ _ h => h) (Or.inl ⟨by rfl, ?_⟩) hHeld ?_
        rotate_left
        · (intro wS hSw; (try dsimp only at hSw); go_simp; try with_reducible rfl)
        try simp only [Act.put, List.getElem_toArray, List.getElem_cons_zero, List.getElem_cons_succ, List.setIfInBounds_toArray, List.set_cons_zero, List.set_cons_succ]
        refine wpAnyH_take (i := 6) (v := ?_) rfl (by kernel_rfl) (by kernel_rfl) (by kernel_rfl) (fun _ _ _ h => h) (Or.inl ⟨by rfl, ?_⟩) hHeld ?_
        rotate_left
        · (intro wS hSw; (try dsimp only at hSw); go_simp; try with_reducible rfl)
        try simp only [Act.put, List.getElem_toArray, List.getElem_cons_zero, List.getElem_cons_succ, List.setIfInBounds_toArray, List.set_cons_zero, List.set_cons_succ]
        refine wpAnyH_take (i := 7) (v := ?_) rfl (by kernel_rfl) (by kernel_rfl) (by kernel_rfl) (fun _ _ _ h => h) (Or.inl ⟨by rfl, ?_⟩) hHeld ?_
        rotate_left
        · (intro wS hSw; (try dsimp only at hSw); go_simp; try with_reducible rfl)
        try simp only [Act.put, List.getElem_toArray, List.getElem_cons_zero, List.getElem_cons_succ, List.setIfInBounds_toArray, List.set_cons_zero, List.set_cons_succ]
        refine wpAnyH_take (i := 8) (v := ?_) rfl (by kernel_rfl) (by kernel_rfl) (by kernel_rfl) (fun _ _ _ h => h) (Or.inl ⟨by rfl, ?_⟩) hHeld ?_
        rotate_left
        · (intro wS hSw; (try dsimp only at hSw); go_simp; try with_reducible rfl)
        try simp only [Act.put, List.getElem_toArray, List.getElem_cons_zero, List.getElem_cons_succ, List.setIfInBounds_toArray, List.set_cons_zero, List.set_cons_succ]
        refine wpAnyH_take (i := 9) (v := ?_) rfl (by kernel_rfl) (by kernel_rfl) (by kernel_rfl) (fun _ _ _ h => h) (Or.inl ⟨by rfl, ?_⟩) hHeld ?_
        rotate_left
        · (intro wS hSw; (try dsimp only at hSw); go_simp; try with_reducible rfl)
        try simp only [Act.put, List.getElem_toArray, List.getElem_cons_zero, List.getElem_cons_succ, List.setIfInBounds_toArray, List.set_cons_zero, List.set_cons_succ]
        refine wpAnyH_take (i := 10) (v := ?_) rfl (by kernel_rfl) (by kernel_rfl) (by kernel_rfl) (fun _ _ _ h => h) (Or.inl ⟨by rfl, ?_⟩) hHeld ?_
        rotate_left
        · (intro wS hSw; (try dsimp only at hSw); go_simp; try with_reducible rfl)
        try simp only [Act.put, List.getElem_toArray, List.getElem_cons_zero, List.getElem_cons_succ, List.setIfInBounds_toArray, List.set_cons_zero, List.set_cons_succ]
        refine wpAnyH_ready (rs := [2]) (by kernel_rfl) (by simp) ?_
        refine AllReadyH.cons rfl (fun K' hK => ?_) AllReadyH.nil
        go_simp
        refine (peer_any _ _).mono ?_
        rintro e w' ⟨rfl, rfl⟩
        dsimp only
        refine hK.out _ _ (keep_alloc hHeld _) (fun hHeld2 => ?_)
        clear hK
        try simp only [Act.put, List.getElem_toArray, List.getElem_cons_zero, List.getElem_cons_succ, List.setIfInBounds_toArray, List.set_cons_zero, List.set_cons_succ]
        clear hHeld
        refine wpAnyH_ready (rs := [5]) (by kernel_rfl) (by simp) ?_
        refine AllReadyH.cons rfl (fun K' hK => ?_) AllReadyH.nil
        go_simp
        refine (peer_any _ _).mono ?_
        rintro e w' ⟨rfl, rfl⟩
        dsimp only
        refine hK.out _ _ (keep_alloc hHeld2 _) (fun hHeld3 => ?_)
        clear hK
        try simp only [Act.put, List.getElem_toArray, List.getElem_cons_zero, List.getElem_cons_succ, List.setIfInBounds_toArray, List.set_cons_zero, List.set_cons_succ]
        clear hHeld2
        refine wpAnyH_take (i := 11) (v := ?_) rfl (by kernel_rfl) (by kernel_rfl) (by kernel_rfl) (fun _ _ _ h => h) (Or.inl ⟨by rfl, ?_⟩) hHeld3 ?_
        rotate_left
        · (intro wS hSw; (try dsimp only at hSw); go_simp; try with_reducible rfl)
        try simp only [Act.put, List.getElem_toArray, List.getElem_cons_zero, List.getElem_cons_succ, List.setIfInBounds_toArray, List.set_cons_zero, List.set_cons_succ]
        refine wpAnyH_ready (rs := [12]) (by kernel_rfl) (by simp) ?_
        refine AllReadyH.cons rfl (fun K' hK => ?_) AllReadyH.nil
        rw [if_pos (by rfl)]
        refine wp_store_mid 50 (.tmp 2) (.tmp 39) rfl (w.heap.size + 1) 0 #[.int .u64 0, .int .u64 0, .int .u64 0, .int .i32 pre, .int .u64 0, .int .u64 0, .int .u64 0, .int .i32 suc, .bool np, .bool qp, .slice (some ⟨w.heap.size + 2, 0, none⟩) fn fn] rfl rfl hHeld3.2.2.2.2.1 size50 (one11 _ _ _ _ _ _ _) ?_
        refine hK.out _ _ (keep_store hHeld3 _) (fun hHeld4 => ?_)
        clear hK
        refine wpAnyH_done (by kernel_rfl) ?_ _
        have hrng := World.rangeAt_setCells_same _ _ _ (#[.int .u64 0, .int .u64 0, .int .u64 0, .int .i32 pre, .int .u64 0, .int .u64 0, .int .u64 0, .int .i32 suc, .bool np, .bool qp, .slice (some ⟨w.heap.size + 2, 0, none⟩) fn fn] : Array Value).toList hHeld3.2.2.2.2.1
        generalize hWW : World.setCells _ (w.heap.size + 1) 0 (#[.int .u64 0, .int .u64 0, .int .u64 0, .int .i32 pre, .int .u64 0, .int .u64 0, .int .u64 0, .int .i32 suc, .bool np, .bool qp, .slice (some ⟨w.heap.size + 2, 0, none⟩) fn fn] : Array Value).toList = WW at *
        clear hHeld3 hWW
        go_wp2
        refine bodyPost_ret (v := .agg #[.int .u64 0, .int .u64 0, .int .u64 0, .int .i32 pre, .int .u64 0, .int .u64 0, .int .u64 0, .int .i32 suc, .bool np, .bool qp, .slice (some ⟨w.heap.size + 2, 0, none⟩) fn fn]) ?_ rfl ⟨⟨some ⟨w.heap.size + 2, 0, none⟩, fn, fn⟩, rfl, by dsimp only; omega, ?_, hHeld4.2.2.2.2.2.2.1⟩
        · exact results_cell_mid (p := 2) (ty := 50) rfl _ _ (w.heap.size + 1) 0 _ _ rfl hrng Try.underlying50 rfl size50
        · exact fun hn => ⟨_, _, rfl, by omega, ((hHeld4.2.2.2.2.2.1) hn).2⟩
      | succ g =>
        have hi : i < fn := by omega
        have hi1 : (i : Int) < (fn : Int) := by omega
        have hc4 := hW.2.1
        obtain ⟨b, o, hab, hel⟩ := HF.out.below hW.1.2.2.2.2.2.2.1 (show 0 < fn by omega)
        obtain ⟨x, hx⟩ := hel i hi
        dsimp only at hab
        obtain rfl := Option.some.inj hab
        have HWx : Hid _ := hW
        have hth : ∀ ob, (wr.alloc ob).there (w.heap.size + 1 + 1) (i * 4) 4 := fun ob => World.there_alloc (there_part hW.2.2.1 (by omega) (by omega)) ob
        clear hW hel hab
        go_wp2_with (first
          | (go_at_call 41; refine (peer_any _ _).mono ?_; rintro e w' ⟨rfl, rfl⟩)
          | (refine wpList_storeN rfl 47 (.tmp 27) (.tmp 26) rfl _ _ _ 4 rfl rfl rfl ?_ size47 (one4 x) ?_; exact hth _))
        go_roundg g
        case measure => omega
        case rel => exact ⟨i + 1, by omega, by go_num, loopW_step HWx.out hi x _⟩
end Go.Proofs.Qxb6600017a
