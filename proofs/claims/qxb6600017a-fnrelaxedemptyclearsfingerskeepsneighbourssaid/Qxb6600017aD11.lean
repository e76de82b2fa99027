/-
  THE LAW's WALK.
-/
import Derived.Test.Qxb6600017aD10
namespace Go.Proofs.Qxb6600017a
open Go.RowKit
set_option linter.unusedSimpArgs false

def LawPost (w : World) (e : Ending) (w' : World) : Prop := e = .returned (.bool true) ∧ Below w.heap.size w w'

theorem bytes_any' (b off n c : Nat) (t : Nat → ZT) (node : Int) (w : World) (hn : n ≤ 9223372036854775807) (hT : Tabs w b off n t) :
    Calls Try.prog 30 #[.slice (some ⟨b, off, none⟩) n c, .int .i64 node] w (fun e w' => ∃ r : Bool, e = .returned (.bool r) ∧ (r = true → n + tot t n ≤ 1048576) ∧ w' = w) :=
  (bytes_any b off n c t node w hn hT).mono fun e w' ⟨h, hw⟩ => by
    rcases h with rfl | ⟨rfl, h⟩
    · exact ⟨false, rfl, (fun h => by simp at h), hw⟩
    · exact ⟨true, rfl, fun _ => h, hw⟩
theorem fit_any' (b off n c : Nat) (t : Nat → ZT) (w : World) (hn : n + tot t n ≤ 1048576) (hT : Tabs w b off n t) :
    Calls Try.prog 11 #[.slice (some ⟨b, off, none⟩) n c] w (fun e w' => ∃ r : Bool, e = .returned (.bool r) ∧ Below w.heap.size w w') :=
  (fit_any b off n c t w hn hT).mono fun e w' ⟨h, hw⟩ => by
    rcases h with rfl | rfl
    · exact ⟨false, rfl, hw⟩
    · exact ⟨true, rfl, hw⟩

set_option maxHeartbeats 2000000 in
set_option maxRecDepth 100000 in
theorem law_out (b off n c : Nat) (t : Nat → ZT) (node : Int) (w : World) (hn : n ≤ 9223372036854775807) (hT : Tabs w b off n t) (hnode : node < 0 ∨ (n : Int) ≤ node) :
    Calls Try.prog 8 #[.slice (some ⟨b, off, none⟩) n c, .int .i64 node] w (LawPost w) := by
  have HT : Hid (Tabs w b off n t) := hT
  clear hT
  go_enter Try.func8, Try.ntmps8
  go_upto_if 16 with (go_at_call 30; refine (bytes_any' b off n c t node w hn HT.out).mono ?_; rintro e w0 ⟨r, rfl, htot, rfl⟩)
  cases r with
  | false =>
    go_wp2
    go_ret
    exact ⟨rfl, Below.refl _ _⟩
  | true =>
    go_upto_if 19 with (go_at_call 11; refine (fit_any' b off n c t w0 (htot rfl) HT.out).mono ?_; rintro e w1 ⟨r, rfl, hb1⟩)
    cases r with
    | false =>
      go_wp2
      go_ret
      exact ⟨rfl, hb1⟩
    | true =>
      by_cases h0 : node < 0
      · go_wp2
        go_ret
        exact ⟨rfl, hb1⟩
      · have h1 : (n : Int) ≤ node := by omega
        go_wp2
        go_ret
        exact ⟨rfl, hb1⟩


theorem Side.fg {A N : Nat} {a : Option Addr} {l : Nat} {w : World} (h : Side A N a l) (he : Elems isFinger w A 0 5 N) : Fg w a l false := fun hl => by
  obtain ⟨o, e, hN⟩ := h hl
  refine ⟨A, o * 5, e, fun k hk => ?_⟩
  obtain ⟨cs, h1, h2, h3⟩ := he (o + k) (by omega)
  refine ⟨cs, h1, ⟨h2, fun h => by cases h⟩, ?_⟩
  rwa [show 0 + (o + k) * 5 = o * 5 + k * 5 by omega] at h3

/-- The tables behind zzRelaxedTablesShared. -/
theorem vin_sh {w : World} {A N node : Nat} {t : ZT} {s : Sl} {fa ba : Option Addr} (hs : s.n ≤ 1048576) (hrs : RdP (A + 2) w s) (hsf : Side A N fa t.fwd.n) (hsb : Side A N ba t.bck.n) (hel : Elems isFinger w A 0 5 N) (hr : w.rangeAt (A + 1) (node * 16) (rowCells t s fa ba))
    (lf : t.fwd.n ≤ 1048576) (lb : t.bck.n ≤ 1048576) (p1 : -2147483648 ≤ t.pre) (p2 : t.pre ≤ 2147483647) (p3 : -2147483648 ≤ t.suc) (p4 : t.suc ≤ 2147483647) :
    VIn w (A + 1) (node * 16) t.pre t.suc t.np s fa ba t.fwd.n t.bck.n false :=
  ⟨hr 6 _ rfl, hr 10 _ rfl, hr 11 _ rfl, hr 13 _ rfl, hr 14 _ rfl, hr 15 _ rfl, hsf.fg hel, hsb.fg hel, hrs.mono (Nat.zero_le _), hs, lf, lb, p1, p2, p3, p4⟩
/-- The tables behind 'empty'. -/
theorem vin_em {w : World} {A node : Nat} {t : ZT} {fa ba : Option Addr} (hzf : Zd A w fa t.fwd.n) (hzb : Zd A w ba t.bck.n) (hr : w.rangeAt (A + 1) (node * 16) (rowCells t ⟨none, 0, 0⟩ fa ba))
    (lf : t.fwd.n ≤ 1048576) (lb : t.bck.n ≤ 1048576) (p1 : -2147483648 ≤ t.pre) (p2 : t.pre ≤ 2147483647) (p3 : -2147483648 ≤ t.suc) (p4 : t.suc ≤ 2147483647) :
    VIn w (A + 1) (node * 16) t.pre t.suc t.np ⟨none, 0, 0⟩ fa ba t.fwd.n t.bck.n true :=
  ⟨hr 6 _ rfl, hr 10 _ rfl, hr 11 _ rfl, hr 13 _ rfl, hr 14 _ rfl, hr 15 _ rfl, hzf.fg, hzb.fg, fun h => absurd h (Nat.lt_irrefl 0), by decide, lf, lb, p1, p2, p3, p4⟩

def box33 (t : ZT) : Array Value := #[.int .i32 t.pre, .int .i32 t.suc, .bool t.np, .bool t.qp, .slice t.fol.a t.fol.n t.fol.c, .slice t.fwd.a t.fwd.n t.fwd.c, .slice t.bck.a t.bck.n t.bck.c]
/-- The world ahead of the tables. -/
structure Pre (w W : World) (b off n : Nat) (t : Nat → ZT) (node g : Nat) : Prop where
  bel : Below w.heap.size w W
  lt : g + 1 < W.heap.size
  b5 : W.heap[g]? = some (.cells #[.int .i64 0, .int .u64 0, .int .u64 0, .int .u64 0] 29 (0, 0))
  b6 : W.heap[g + 1]? = some (.cells (box33 (t node)) 33 (0, 0))
  tabs : Tabs W b off n t
theorem pre_mk {w w1 : World} {b off n : Nat} {t : Nat → ZT} {node : Nat} (hT : Tabs w b off n t) (hb : Below w.heap.size w w1) :
    Pre w ((w1.alloc (.cells #[.int .i64 0, .int .u64 0, .int .u64 0, .int .u64 0] 29)).alloc (.cells (box33 (t node)) 33)) b off n t node w1.heap.size := by
  have hb' : Below w.heap.size w ((w1.alloc (.cells #[.int .i64 0, .int .u64 0, .int .u64 0, .int .u64 0] 29)).alloc (.cells (box33 (t node)) 33)) := (hb.alloc hb.size _).alloc (by have := hb.size; simp; omega) _
  refine ⟨hb', by simp, ?_, heap_alloc2_new w1 _ _, hT.below hb'⟩
  rw [Below.heap_alloc _ _ _ (by simp)]; exact heap_alloc_new w1 _
/-- Behind the first view. -/
structure Mid (w W w5 : World) (n N : Nat) (t : ZT) (node g A G8 : Nat) (s : Sl) (fa ba : Option Addr) (pr : Int) (v1 v2 v3 : Sl) : Prop where
  bel : Below w.heap.size w w5
  sz : A + 2 ≤ w5.heap.size
  b5 : w5.heap[g]? = some (.cells #[.int .i64 0, .int .u64 0, .int .u64 0, .int .u64 0] 29 (0, 0))
  b6 : w5.heap[g + 1]? = some (.cells (box33 t) 33 (0, 0))
  b8 : w5.heap[G8]? = some (.cells #[.int .i64 t.suc, .int .i64 pr, .slice v1.a v1.n v1.c, .slice v2.a v2.n v2.c, .slice v3.a v3.n v3.c] 37 (0, 0))
  l8 : A + 2 ≤ G8
  h8 : G8 < w5.heap.size
  la : g + 1 < A
  wa : w.heap.size ≤ A
  thA : w5.there A 0 (N * 5)
  thT : w5.there (A + 1) 0 (n * 16)
  row : w5.rangeAt (A + 1) (node * 16) (rowCells t s fa ba)
/-- Behind 'empty', and behind the load of the table. -/
structure Aft (w w7 : World) (t : ZT) (node g A G8 G9 : Nat) (fa ba : Option Addr) (pr : Int) (v1 v2 v3 : Sl) : Prop where
  bel : Below w.heap.size w w7
  b6 : w7.heap[g + 1]? = some (.cells (box33 t) 33 (0, 0))
  b8 : w7.heap[G8]? = some (.cells #[.int .i64 t.suc, .int .i64 pr, .slice v1.a v1.n v1.c, .slice v2.a v2.n v2.c, .slice v3.a v3.n v3.c] 37 (0, 0))
  b9 : w7.heap[G9]? = some (.cells (rowCells t ⟨none, 0, 0⟩ fa ba).toArray 60 (0, 0))
  row : w7.rangeAt (A + 1) (node * 16) (rowCells t ⟨none, 0, 0⟩ fa ba)
  zf : Zd A w7 fa t.fwd.n
  zb : Zd A w7 ba t.bck.n
theorem heap_lt {w : World} {k : Nat} {o : Obj} (h : w.heap[k]? = some o) : k < w.heap.size := by
  by_cases e : k < w.heap.size
  · exact e
  · rw [Array.getElem?_eq_none (by omega)] at h; cases h
theorem aft_mk {w W w5 w6 : World} {n N : Nat} {t : ZT} {node g A G8 : Nat} {s : Sl} {fa ba : Option Addr} {pr : Int} {v1 v2 v3 : Sl} (hM : Mid w W w5 n N t node g A G8 s fa ba pr v1 v2 v3) (hE : EmPost w5 A n N t node fa ba (.returned (.tuple #[])) w6) :
    Aft w (w6.alloc (.cells (rowCells t ⟨none, 0, 0⟩ fa ba).toArray 60)) t node g A G8 w6.heap.size fa ba pr v1 v2 v3 := by
  obtain ⟨_, h2, h3, h4, h5, h6, h7⟩ := hE
  have hs := h7.size
  have hsz := hM.sz
  have hla := hM.la
  have hwa := hM.wa
  have h8 := hM.h8
  have h8' := hM.l8
  have hb6 : Below w.heap.size w w6 := ⟨h7.os.trans hM.bel.os, h7.tape.trans hM.bel.tape, h7.output.trans hM.bel.output, by have := hM.bel.size; omega, fun k hk => by rw [h7.other k (by omega) (by omega) (by omega)]; exact hM.bel.block k hk⟩
  refine ⟨hb6.alloc hb6.size _, ?_, ?_, heap_alloc_new w6 _, ?_, ?_, ?_⟩
  · rw [Below.heap_alloc _ _ _ (by omega), h7.other _ (by omega) (by omega) (by omega)]; exact hM.b6
  · rw [Below.heap_alloc _ _ _ (by omega), h7.other _ (by omega) (by omega) (by omega)]; exact hM.b8
  · exact World.rangeAt_alloc h2 _
  · exact h3.same (Below.heap_alloc _ _ _ (by omega))
  · exact h4.same (Below.heap_alloc _ _ _ (by omega))

theorem mid_mk {w W w3 w4 : World} {b off n N : Nat} {t : Nat → ZT} {node g : Nat} {s : Sl} {fa ba : Option Addr} {pr : Int} {v1 v2 v3 : Sl} (hP : Pre w W b off n t node g)
    (hA : w3.there W.heap.size 0 (N * 5)) (hTh : w3.there (W.heap.size + 1) 0 (n * 16)) (hr : w3.rangeAt (W.heap.size + 1) (node * 16) (rowCells (t node) s fa ba)) (hbl : Below W.heap.size W w3) (hsz : W.heap.size + 2 ≤ w3.heap.size) (hb4 : Below w3.heap.size w3 w4) :
    Mid w W (w4.alloc (.cells #[.int .i64 (t node).suc, .int .i64 pr, .slice v1.a v1.n v1.c, .slice v2.a v2.n v2.c, .slice v3.a v3.n v3.c] 37)) n N (t node) node g W.heap.size w4.heap.size s fa ba pr v1 v2 v3 := by
  have hs4 := hb4.size
  have hlt := hP.lt
  have hb5 : Below w3.heap.size w3 (w4.alloc (.cells #[.int .i64 (t node).suc, .int .i64 pr, .slice v1.a v1.n v1.c, .slice v2.a v2.n v2.c, .slice v3.a v3.n v3.c] 37)) := hb4.alloc hs4 _
  have hbW := hbl.trans (hb5.mono (by omega : W.heap.size ≤ w3.heap.size))
  exact ⟨hP.bel.trans (hbW.mono hP.bel.size), by simp; omega, by rw [hbW.block _ (by omega)]; exact hP.b5, by rw [hbW.block _ (by omega)]; exact hP.b6, heap_alloc_new w4 _, by omega, by simp, by omega, hP.bel.size,
    there_below hb5 (by omega) hA, there_below hb5 (by omega) hTh, range_below hb5 (by omega) hr⟩

set_option maxHeartbeats 4000000 in
set_option maxRecDepth 100000 in
theorem law_in (b off n c : Nat) (t : Nat → ZT) (node : Nat) (w : World) (hn : n ≤ 9223372036854775807) (hT : Tabs w b off n t) (hnode : node < n) :
    Calls Try.prog 8 #[.slice (some ⟨b, off, none⟩) n c, .int .i64 node] w (LawPost w) := by
  have HT : Hid (Tabs w b off n t) := hT
  clear hT
  have hno : (node : Int) < (n : Int) := by omega
  go_enter Try.func8, Try.ntmps8
  go_upto_if 16 with (go_at_call 30; refine (bytes_any' b off n c t node w hn HT.out).mono ?_; rintro e w0 ⟨r, rfl, htot, rfl⟩)
  cases r with
  | false =>
    go_wp2
    go_ret
    exact ⟨rfl, Below.refl _ _⟩
  | true =>
    go_upto_if 19 with (go_at_call 11; refine (fit_any' b off n c t w0 (htot rfl) HT.out).mono ?_; rintro e w1 ⟨r, rfl, hb1⟩)
    cases r with
    | false =>
      go_wp2
      go_ret
      exact ⟨rfl, hb1⟩
    | true =>
      have hN : n + tot t n ≤ 1048576 := htot (by simp)
      obtain ⟨c0, c1, c2, c3, c4, c5, c6, hf1, hf2, hf3, p1, p2, p3, p4, l1, l2, l3⟩ := (HT.out node hnode).below hb1
      have hrow : Hid (∀ ob, Row (w1.alloc ob) b (off + node * 7) (t node)) := fun ob => ((HT.out node hnode).below hb1).below ((Below.refl _ _).alloc (Nat.le_refl _) _)
      have hti : (t node).fol.n + (t node).fwd.n + (t node).bck.n ≤ tot t n := tot_le hnode
      have lf : (t node).fwd.n ≤ 1048576 := by omega
      have lb : (t node).bck.n ≤ 1048576 := by omega
      clear hf1 hf2 hf3 l1 l2 l3 htot hti
      by_cases h0 : (t node).fwd.n = 0
      · go_wp2
        go_ret
        exact ⟨rfl, hb1⟩
      · clear c0 c1 c2 c3 c4 c6
        have d0 := fun ob => (hrow.out ob).c0
        have d1 := fun ob => (hrow.out ob).c1
        have d2 := fun ob => (hrow.out ob).c2
        have d3 := fun ob => (hrow.out ob).c3
        have d4 := fun ob => (hrow.out ob).c4
        have d5 := fun ob => (hrow.out ob).c5
        have d6 := fun ob => (hrow.out ob).c6
        go_upto_region 11 with fail
        clear d0 d1 d2 d3 d4 d5 d6 c5 hrow
        have hP := pre_mk (node := node) HT.out hb1
        unfold box33 at hP
        generalize (w1.alloc (.cells #[.int .i64 0, .int .u64 0, .int .u64 0, .int .u64 0] 29)).alloc _ = W at *
        generalize w1.heap.size = g at *
        clear hb1 HT
        have HP : Hid (Pre w0 W b off n t node g) := hP
        clear hP
        go_upto_region 12 with (go_at_call 31; refine (shared_any b off n c t node W hN HP.out.tabs).mono ?_; rintro e w3 ⟨rfl, hSh⟩)
        obtain ⟨hA, hel, hTh, hrw, hbl, hsz⟩ := hSh
        obtain ⟨s, fa, ba, hs, hrs, hsf, hsb, hr⟩ := hrw hnode
        have HV : Hid (VIn w3 (W.heap.size + 1) (node * 16) (t node).pre (t node).suc (t node).np s fa ba (t node).fwd.n (t node).bck.n false) := vin_sh hs hrs hsf hsb hel hr lf lb p1 p2 p3 p4
        obtain ⟨pr, hpr⟩ : ∃ pr, (if (t node).np = true then -1 else (t node).pre) = pr := ⟨_, rfl⟩
        have HPR : Hid ((if (t node).np = true then -1 else (t node).pre) = pr) := hpr
        have HM0 : Hid (∀ w4 v1 v2 v3, Below w3.heap.size w3 w4 → Mid w0 W (w4.alloc (.cells #[.int .i64 (t node).suc, .int .i64 pr, .slice v1.a v1.n v1.c, .slice v2.a v2.n v2.c, .slice v3.a v3.n v3.c] 37)) n (fin t n) (t node) node g W.heap.size w4.heap.size s fa ba pr v1 v2 v3) := fun w4 v1 v2 v3 hb4 => mid_mk HP.out hA hTh hr hbl hsz hb4
        have HSF : Hid (Side W.heap.size (fin t n) fa (t node).fwd.n) := hsf
        have HSB : Hid (Side W.heap.size (fin t n) ba (t node).bck.n) := hsb
        clear hA hel hTh hrw hbl hsz hs hrs hsf hsb hr hpr HP
        go_upto_region 13 with (go_at_call 23; refine (rview_any (W.heap.size + 1) n n node _ _ _ s fa ba _ _ false w3 hnode pr HPR.out HV.out).mono ?_; rintro e w4 ⟨v1, v2, v3, rfl, -, hb4⟩)
        have hM := HM0.out w4 v1 v2 v3 hb4
        clear HM0 HV hb4
        generalize w4.alloc _ = w5 at *
        generalize w4.heap.size = G8 at *
        generalize W.heap.size = A at *
        have e0 : w5.cell? ⟨g, 0, none⟩ = some (.int .i64 0) := cell_of_row w5 g 0 _ _ _ hM.b5
        have e1 : w5.cell? ⟨g, 1, none⟩ = some (.int .u64 0) := cell_of_row w5 g 1 _ _ _ hM.b5
        have e2 : w5.cell? ⟨g, 2, none⟩ = some (.int .u64 0) := cell_of_row w5 g 2 _ _ _ hM.b5
        have e3 : w5.cell? ⟨g, 3, none⟩ = some (.int .u64 0) := cell_of_row w5 g 3 _ _ _ hM.b5
        have HM : Hid (Mid w0 W w5 n (fin t n) (t node) node g A G8 s fa ba pr v1 v2 v3) := hM
        clear hM
        go_upto_region 14 with (go_at_call 32; refine (rempty_any A n n (fin t n) node (t node) s fa ba w5 hnode (by omega) HM.out.sz HM.out.thA HM.out.thT HM.out.row HSF.out HSB.out).mono ?_; rintro e w6 ⟨rfl, hE⟩)
        clear e0 e1 e2 e3
        have r0 : w6.cell? ⟨A + 1, node * 16, none⟩ = some (.int .u64 0) := hE.1 0 _ rfl
        have r1 : w6.cell? ⟨A + 1, node * 16 + 1, none⟩ = some (.int .u64 0) := hE.1 1 _ rfl
        have r2 : w6.cell? ⟨A + 1, node * 16 + 2, none⟩ = some (.int .u64 0) := hE.1 2 _ rfl
        have r3 : w6.cell? ⟨A + 1, node * 16 + 3, none⟩ = some (.int .u64 0) := hE.1 3 _ rfl
        have r4 : w6.cell? ⟨A + 1, node * 16 + 4, none⟩ = some (.int .u64 0) := hE.1 4 _ rfl
        have r5 : w6.cell? ⟨A + 1, node * 16 + 5, none⟩ = some (.int .u64 0) := hE.1 5 _ rfl
        have r6 : w6.cell? ⟨A + 1, node * 16 + 6, none⟩ = some (.int .i32 (t node).pre) := hE.1 6 _ rfl
        have r7 : w6.cell? ⟨A + 1, node * 16 + 7, none⟩ = some (.int .u64 0) := hE.1 7 _ rfl
        have r8 : w6.cell? ⟨A + 1, node * 16 + 8, none⟩ = some (.int .u64 0) := hE.1 8 _ rfl
        have r9 : w6.cell? ⟨A + 1, node * 16 + 9, none⟩ = some (.int .u64 0) := hE.1 9 _ rfl
        have r10 : w6.cell? ⟨A + 1, node * 16 + 10, none⟩ = some (.int .i32 (t node).suc) := hE.1 10 _ rfl
        have r11 : w6.cell? ⟨A + 1, node * 16 + 11, none⟩ = some (.bool (t node).np) := hE.1 11 _ rfl
        have r12 : w6.cell? ⟨A + 1, node * 16 + 12, none⟩ = some (.bool (t node).qp) := hE.1 12 _ rfl
        have r13 : w6.cell? ⟨A + 1, node * 16 + 13, none⟩ = some (.slice none 0 0) := hE.1 13 _ rfl
        have r14 : w6.cell? ⟨A + 1, node * 16 + 14, none⟩ = some (.slice fa (t node).fwd.n (t node).fwd.n) := hE.1 14 _ rfl
        have r15 : w6.cell? ⟨A + 1, node * 16 + 15, none⟩ = some (.slice ba (t node).bck.n (t node).bck.n) := hE.1 15 _ rfl
        have HE : Hid (EmPost w5 A n (fin t n) (t node) node fa ba (.returned (.tuple #[])) w6) := ⟨rfl, hE⟩
        clear hE
        go_upto_region 15 with fail
        clear r0 r1 r2 r3 r4 r5 r6 r7 r8 r9 r10 r11 r12 r13 r14 r15
        have hF := aft_mk HM.out HE.out
        dsimp only [rowCells] at hF
        generalize w6.alloc _ = w7 at *
        generalize w6.heap.size = G9 at *
        have HF : Hid (Aft w0 w7 (t node) node g A G8 G9 fa ba pr v1 v2 v3) := hF
        clear hF HM HE HSF HSB
        have m6 : w7.cell? ⟨G9, 6, none⟩ = some (.int .i32 (t node).pre) := cell_of_row w7 G9 6 _ _ _ HF.out.b9
        have m10 : w7.cell? ⟨G9, 10, none⟩ = some (.int .i32 (t node).suc) := cell_of_row w7 G9 10 _ _ _ HF.out.b9
        have m11 : w7.cell? ⟨G9, 11, none⟩ = some (.bool (t node).np) := cell_of_row w7 G9 11 _ _ _ HF.out.b9
        have m12 : w7.cell? ⟨G9, 12, none⟩ = some (.bool (t node).qp) := cell_of_row w7 G9 12 _ _ _ HF.out.b9
        have m13 : w7.cell? ⟨G9, 13, none⟩ = some (.slice none 0 0) := cell_of_row w7 G9 13 _ _ _ HF.out.b9
        have m14 : w7.cell? ⟨G9, 14, none⟩ = some (.slice fa (t node).fwd.n (t node).fwd.n) := cell_of_row w7 G9 14 _ _ _ HF.out.b9
        have m15 : w7.cell? ⟨G9, 15, none⟩ = some (.slice ba (t node).bck.n (t node).bck.n) := cell_of_row w7 G9 15 _ _ _ HF.out.b9
        have x0 : w7.cell? ⟨g + 1, 0, none⟩ = some (.int .i32 (t node).pre) := cell_of_row w7 (g + 1) 0 _ _ _ HF.out.b6
        have x1 : w7.cell? ⟨g + 1, 1, none⟩ = some (.int .i32 (t node).suc) := cell_of_row w7 (g + 1) 1 _ _ _ HF.out.b6
        have x2 : w7.cell? ⟨g + 1, 2, none⟩ = some (.bool (t node).np) := cell_of_row w7 (g + 1) 2 _ _ _ HF.out.b6
        have x3 : w7.cell? ⟨g + 1, 3, none⟩ = some (.bool (t node).qp) := cell_of_row w7 (g + 1) 3 _ _ _ HF.out.b6
        have x5 : w7.cell? ⟨g + 1, 5, none⟩ = some (.slice (t node).fwd.a (t node).fwd.n (t node).fwd.c) := cell_of_row w7 (g + 1) 5 _ _ _ HF.out.b6
        have x6 : w7.cell? ⟨g + 1, 6, none⟩ = some (.slice (t node).bck.a (t node).bck.n (t node).bck.c) := cell_of_row w7 (g + 1) 6 _ _ _ HF.out.b6
        go_wp2
        go_loopg [10] (t node).fwd.n (fun gh s0 wx => ∃ i : Nat, i + gh = (t node).fwd.n ∧ s0 = .int .i64 i ∧ wx = w7)
        case atStart => exact ⟨0, by omega, rfl, rfl⟩
        case round =>
          obtain ⟨i, hig, rfl, hwr⟩ := hrel
          subst hwr
          cases gk with
          | succ gh =>
            have hi : i < (t node).fwd.n := by omega
            have hi1 : (i : Int) < ((t node).fwd.n : Int) := by omega
            obtain ⟨o, hfa, hz⟩ := HF.out.zf (by omega)
            have hq := hz (o + i) (by omega) (by omega)
            rw [show (o + i) * 5 = o * 5 + i * 5 by omega] at hq
            have k0 : wr.cell? ⟨A, o * 5 + i * 5, none⟩ = some (.int .u64 0) := hq 0 _ rfl
            have k1 : wr.cell? ⟨A, o * 5 + i * 5 + 1, none⟩ = some (.int .u64 0) := hq 1 _ rfl
            have k2 : wr.cell? ⟨A, o * 5 + i * 5 + 2, none⟩ = some (.int .u64 0) := hq 2 _ rfl
            have k3 : wr.cell? ⟨A, o * 5 + i * 5 + 3, none⟩ = some (.int .i32 0) := hq 3 _ rfl
            have k4 : wr.cell? ⟨A, o * 5 + i * 5 + 4, none⟩ = some (.bool false) := hq 4 _ rfl
            clear hz hq HF
            subst hfa
            go_wp2
            go_roundg gh
            case measure => omega
            case rel => exact ⟨i + 1, by omega, by go_num, rfl⟩
          | zero =>
            obtain rfl : i = (t node).fwd.n := by omega
            go_wp2
            go_loopg [11] (t node).bck.n (fun gh s0 wx => ∃ i : Nat, i + gh = (t node).bck.n ∧ s0 = .int .i64 i ∧ wx = wr)
            case atStart => exact ⟨0, by omega, rfl, rfl⟩
            case round =>
              obtain ⟨i, hig, rfl, hwr⟩ := hrel
              subst hwr
              cases gk with
              | succ gh =>
                have hi : i < (t node).bck.n := by omega
                have hi1 : (i : Int) < ((t node).bck.n : Int) := by omega
                obtain ⟨o, hfa, hz⟩ := HF.out.zb (by omega)
                have hq := hz (o + i) (by omega) (by omega)
                rw [show (o + i) * 5 = o * 5 + i * 5 by omega] at hq
                have k0 : wr.cell? ⟨A, o * 5 + i * 5, none⟩ = some (.int .u64 0) := hq 0 _ rfl
                have k1 : wr.cell? ⟨A, o * 5 + i * 5 + 1, none⟩ = some (.int .u64 0) := hq 1 _ rfl
                have k2 : wr.cell? ⟨A, o * 5 + i * 5 + 2, none⟩ = some (.int .u64 0) := hq 2 _ rfl
                have k3 : wr.cell? ⟨A, o * 5 + i * 5 + 3, none⟩ = some (.int .i32 0) := hq 3 _ rfl
                have k4 : wr.cell? ⟨A, o * 5 + i * 5 + 4, none⟩ = some (.bool false) := hq 4 _ rfl
                clear hz hq HF
                subst hfa
                go_wp2
                go_roundg gh
                case measure => omega
                case rel => exact ⟨i + 1, by omega, by go_num, rfl⟩
              | zero =>
                obtain rfl : i = (t node).bck.n := by omega
                go_upto_region 33 with fail
                have HVa : Hid (VIn wr (A + 1) (node * 16) (t node).pre (t node).suc (t node).np ⟨none, 0, 0⟩ fa ba (t node).fwd.n (t node).bck.n true) := vin_em HF.out.zf HF.out.zb HF.out.row lf lb p1 p2 p3 p4
                have hG8 : G8 < wr.heap.size := heap_lt HF.out.b8
                go_upto_region 34 with (go_at_call 23; refine (rview_any (A + 1) n n node _ _ _ ⟨none, 0, 0⟩ fa ba _ _ true wr hnode pr HPR.out HVa.out).mono ?_; rintro e w8 ⟨u1, u2, u3, rfl, hz, hb8⟩)
                have hs8 := hb8.size
                have y0 : ∀ ob, (w8.alloc ob).cell? ⟨G8, 0, none⟩ = some (.int .i64 (t node).suc) := fun ob => by
                  rw [cell_of_row (w8.alloc ob) G8 0 _ _ _ ((Below.heap_alloc _ _ _ (by omega)).trans ((hb8.block _ hG8).trans HF.out.b8))]; rfl
                have y1 : ∀ ob, (w8.alloc ob).cell? ⟨G8, 1, none⟩ = some (.int .i64 pr) := fun ob => by
                  rw [cell_of_row (w8.alloc ob) G8 1 _ _ _ ((Below.heap_alloc _ _ _ (by omega)).trans ((hb8.block _ hG8).trans HF.out.b8))]; rfl
                obtain ⟨z1, z2, z3⟩ := hz rfl
                have HB : Hid (∀ ob, Below w0.heap.size w0 (w8.alloc ob)) := fun ob => by
                  have h := HF.out.bel
                  exact (h.trans (hb8.mono h.size)).alloc (by have := h.size; omega) _
                clear m6 m10 m11 m12 m13 m14 m15 x0 x1 x2 x3 x5 x6 HF HVa hz hb8
                go_wp2
                go_ret
                exact ⟨rfl, HB.out _⟩
end Go.Proofs.Qxb6600017a
