/-
  THE LAW, STAGE BY STAGE.
-/
import Derived.Test.Qxb6600159aE17
namespace Go.Proofs.Qxb6600159a
open Go.RowKit Plain Go.Maps Go.WideMaps
set_option linter.unusedSimpArgs false

def LawPost (w : World) (e : Ending) (w' : World) : Prop := e = .returned (.bool true) ∧ Below w.heap.size w w'
theorem RdB.mono {B B' : Nat} {w : World} (hB : B ≤ B') {s : Sl} {K : Nat → ByteArray} (h : RdB B w s K) : RdB B' w s K := fun hn => by
  obtain ⟨b, o, e, hb, hc⟩ := h hn
  exact ⟨b, o, e, by omega, hc⟩
theorem RdS.mono {B B' : Nat} {w : World} (hB : B ≤ B') {s : Sl} {L : Nat → Sl} (h : RdS B w s L) : RdS B' w s L := fun hn => by
  obtain ⟨b, o, e, hb, hc⟩ := h hn
  exact ⟨b, o, e, by omega, hc⟩
theorem pair_num (x y : Nat) (w : World) : Calls Try.prog 27 #[.int .i64 x, .int .i64 y] w (fun e w' => ∃ m : Nat, e = .returned (.int .i64 m) ∧ Hid (m ≤ x ∧ m ≤ y) ∧ w' = w) :=
  (pair_any x y w).mono (fun _ _ h => ⟨min x y, h.1, (⟨Nat.min_le_left _ _, Nat.min_le_right _ _⟩ : min x y ≤ x ∧ min x y ≤ y), h.2⟩)
theorem sum_eq {f : Nat → List Int} {L : Nat → Sl} {n : Nat} (h : ∀ k, k < n → (L k).n = (f k).length) : sum f n = sumL L n := by
  induction n with
  | zero => rfl
  | succ n ih => unfold sum sumL; rw [ih (fun k hk => h k (by omega)), h n (by omega)]

/-- Behind the clones. -/
structure Cl (w0 w : World) (Bc : Nat) (ta tk tl : Sl) (A : List Int) (K : Nat → ByteArray) (L : Nat → Sl) (f : Nat → List Int) : Prop where
  a : RdI Bc w ta A
  k : RdB Bc w tk K
  l : RdS Bc w tl L
  fs : ∀ k, k < tl.n → RdI Bc w (L k) (f k) ∧ Asc (f k)
  aA : Asc A
  ks : ∀ k, k < tk.n → (K k).size ≤ 1048576
  nk : tk.n ≤ 1048576
  nl : tl.n ≤ 1048576
  tot : ta.n + sumL L tl.n ≤ 1048576
  le : Bc ≤ w.heap.size
  bel : Below w0.heap.size w0 w
  b0 : w0.heap.size ≤ Bc
/-- Behind buildMap. -/
structure Mp (w0 w : World) (Bc m : Nat) (pm : Option Nat) (ta tl : Sl) (A : List Int) (K : Nat → ByteArray) (L : Nat → Sl) (f : Nat → List Int) : Prop where
  a : RdI Bc w ta A
  l : RdS Bc w tl L
  fs : ∀ k, k < m → RdI Bc w (L k) (f k) ∧ Asc (f k)
  aA : Asc A
  nil : pm = none → m = 0
  map : ∀ M, pm = some M → M < w.heap.size ∧ w.ownsMap Try.prog 9 Rh M m (Dm K L m)
  nl : tl.n ≤ 1048576
  tot : ta.n + sumL L tl.n ≤ 1048576
  ful : A.length + sum f m ≤ ta.n + sumL L tl.n
  le : Bc ≤ w.heap.size
  bel : Below w0.heap.size w0 w
  b0 : w0.heap.size ≤ Bc
theorem Cl.build {w0 w : World} {Bc m : Nat} {ta tk tl : Sl} {A : List Int} {K : Nat → ByteArray} {L : Nat → Sl} {f : Nat → List Int} (h : Cl w0 w Bc ta tk tl A K L f) (hm : m ≤ tk.n ∧ m ≤ tl.n) :
    Calls Try.prog 28 #[.slice tk.a tk.n tk.c, .slice tl.a tl.n tl.c, .int .i64 m] w (fun e w' => ∃ pm, e = .returned (.map pm) ∧ Hid (Mp w0 w' Bc m pm ta tl A K L f)) := by
  have hful : A.length + sum f m ≤ ta.n + sumL L tl.n := by
    have h1 := sum_eq (f := f) (L := L) (n := m) (fun k hk => (h.fs k (by omega)).1.1)
    have h2 := sumL_mono (L := L) hm.2
    have h3 := h.a.1
    omega
  refine (build_any tk tl K L m w hm.1 hm.2 (by have := h.nk; omega) h.ks (h.k.mono h.le) (h.l.mono h.le)).mono (fun e w' hp => ?_)
  rcases hp with ⟨h0, he, rfl⟩ | ⟨h0, he, hI⟩
  · exact ⟨none, he, (⟨h.a, h.l, fun k hk => h.fs k (by omega), h.aA, fun _ => h0, fun M hM => (by cases hM), h.nl, h.tot, hful, h.le, h.bel, h.b0⟩ : Mp _ _ _ _ _ _ _ _ _ _ _)⟩
  · have hb := hI.2.mono h.le
    refine ⟨some w.heap.size, he, (⟨h.a.below hb, h.l.below hb, fun k hk => ⟨(h.fs k (by omega)).1.below hb, (h.fs k (by omega)).2⟩, h.aA, fun h => (by cases h), fun M hM => ?_, h.nl, h.tot, hful, Nat.le_trans h.le hb.size, h.bel.trans (hb.mono h.b0), h.b0⟩ : Mp _ _ _ _ _ _ _ _ _ _ _)⟩
    cases hM
    refine ⟨?_, hI.1⟩
    obtain ⟨es, clock, hb, _⟩ := hI.1
    exact heap_lt' hb
/-- Behind ZZMakeHostRules. -/
structure Ho (w0 w : World) (Bc Hb m : Nat) (pm : Option Nat) (ta tl : Sl) (A : List Int) (K : Nat → ByteArray) (L : Nat → Sl) (f : Nat → List Int) : Prop where
  host : Host w Hb w.heap.size pm ta K L m
  a : RdI Bc w ta A
  l : RdS Bc w tl L
  fs : ∀ k, k < m → RdI Bc w (L k) (f k) ∧ Asc (f k)
  aA : Asc A
  nl : tl.n ≤ 1048576
  tot : ta.n + sumL L tl.n ≤ 1048576
  ful : A.length + sum f m ≤ ta.n + sumL L tl.n
  le : Bc ≤ Hb
  bel : Below w0.heap.size w0 w
  b0 : w0.heap.size ≤ Bc
theorem ownsMap_below {B n M : Nat} {w w' : World} {D : DataW Value} (hb : Below B w w') (hM : M < B) (h : w.ownsMap Try.prog 9 Rh M n D) : w'.ownsMap Try.prog 9 Rh M n D := by
  obtain ⟨es, clock, hb', F, hs, hD⟩ := h
  exact ⟨es, clock, by rw [hb.block M hM]; exact hb', F, hs, hD⟩
theorem Mp.host {w0 w : World} {Bc m : Nat} {pm : Option Nat} {ta tl : Sl} {A : List Int} {K : Nat → ByteArray} {L : Nat → Sl} {f : Nat → List Int} (h : Mp w0 w Bc m pm ta tl A K L f) :
    Calls Try.prog 29 #[.map pm, .map none, .slice ta.a ta.n ta.c] w (fun e w' => ∃ Hb, e = .returned (.pointer (some ⟨Hb, 0, none⟩)) ∧ Hid (Ho w0 w' Bc Hb m pm ta tl A K L f)) := by
  refine (host_any pm ta w).mono (fun e w' hp => ?_)
  obtain ⟨he, hbox, hb⟩ := hp
  have hb' := hb.mono h.le
  have hsz := heap_lt' hbox
  exact ⟨w.heap.size, he, (⟨⟨hbox, hsz, h.nil, fun M hM => ⟨by have := (h.map M hM).1; omega, ownsMap_below hb (h.map M hM).1 (h.map M hM).2⟩⟩, h.a.below hb', h.l.below hb', fun k hk => ⟨(h.fs k hk).1.below hb', (h.fs k hk).2⟩, h.aA, h.nl, h.tot, h.ful, h.le, h.bel.trans (hb'.mono h.b0), h.b0⟩ : Ho _ _ _ _ _ _ _ _ _ _ _ _)⟩
theorem Ho.total {w0 w : World} {Bc Hb m : Nat} {pm : Option Nat} {ta tl : Sl} {A : List Int} {K : Nat → ByteArray} {L : Nat → Sl} {f : Nat → List Int} (h : Ho w0 w Bc Hb m pm ta tl A K L f) :
    Calls Try.prog 14 #[.slice tl.a tl.n tl.c] w (fun e w' => ∃ t : Nat, e = .returned (.int .i64 t) ∧ t ≤ 1048576 ∧ Hid (t = sumL L tl.n) ∧ w' = w) :=
  (total_any tl L Bc w h.nl (by have := h.tot; omega) h.l).mono (fun _ _ hp => ⟨sumL L tl.n, hp.1, by have := h.tot; omega, rfl, hp.2⟩)

/-- A fresh struct of candidates. -/
def zz18 : Array Value := #[.slice none 0 0, .slice none 0 0, .slice none 0 0, .slice none 0 0, .slice none 0 0, .slice none 0 0, .slice none 0 0, .slice none 0 0, .slice none 0 0, .slice none 0 0, .slice none 0 0, .slice none 0 0, .slice none 0 0, .slice none 0 0, .slice none 0 0, .slice none 0 0, .int .i64 0, .slice none 0 0]
theorem cand_new {w : World} {C : Nat} {t : TypeId} (hb : w.heap[C]? = some (.cells zz18 t (0, 0))) (L0 : Nat → Sl) : Cand w C w.heap.size 0 L0 := by
  have hc : ∀ k, w.cell? ⟨C, k, none⟩ = zz18[k]? := fun k => cell_of_row _ _ k _ _ _ hb
  refine ⟨fun j hj => ?_, fun k _ h => absurd h (by omega), fun k hk => ⟨⟨none, 0, 0⟩, ?_⟩, by rw [hc]; rfl, ⟨.slice none 0 0, by rw [hc]; rfl, World.ownsRow_nil _ _ _ _⟩, heap_lt' hb, Nat.le_refl _⟩
  · rw [Nat.zero_add]
    exact ⟨by rw [hc, Array.getElem?_eq_getElem (show j < zz18.size from hj)]; rfl, frozen_of_row w C j _ _ hb⟩
  · rw [hc]
    obtain rfl | rfl | rfl | rfl | rfl | rfl | rfl | rfl | rfl | rfl | rfl | rfl | rfl | rfl | rfl | rfl : k = 0 ∨ k = 1 ∨ k = 2 ∨ k = 3 ∨ k = 4 ∨ k = 5 ∨ k = 6 ∨ k = 7 ∨ k = 8 ∨ k = 9 ∨ k = 10 ∨ k = 11 ∨ k = 12 ∨ k = 13 ∨ k = 14 ∨ k = 15 := by omega
    all_goals rfl

/-- Behind the two structs. -/
structure Two (w0 w : World) (Bc Hb C1 m T : Nat) (pm : Option Nat) (ta : Sl) (A : List Int) (K : Nat → ByteArray) (L : Nat → Sl) (f : Nat → List Int) : Prop where
  host : Host w Hb C1 pm ta K L m
  b1 : ∃ t, w.heap[C1]? = some (.cells zz18 t (0, 0))
  b2 : ∃ t, w.heap[C1 + 1]? = some (.cells zz18 t (0, 0))
  a : RdI Bc w ta A
  fs : ∀ k, k < m → RdI Bc w (L k) (f k) ∧ Asc (f k)
  aA : Asc A
  ful : A.length + sum f m ≤ T
  le : Bc ≤ Hb
  bel : Below w0.heap.size w0 w
  b0 : w0.heap.size ≤ Bc
theorem Ho.two {w0 w w' : World} {Bc Hb m : Nat} {pm : Option Nat} {ta tl : Sl} {A : List Int} {K : Nat → ByteArray} {L : Nat → Sl} {f : Nat → List Int} (h : Ho w0 w Bc Hb m pm ta tl A K L f)
    (hb : Below w.heap.size w w') {t1 t2 : TypeId} (h1 : w'.heap[w.heap.size]? = some (.cells zz18 t1 (0, 0))) (h2 : w'.heap[w.heap.size + 1]? = some (.cells zz18 t2 (0, 0))) :
    Two w0 w' Bc Hb w.heap.size m (ta.n + sumL L tl.n) pm ta A K L f := by
  have hlt := h.host.lt
  have hb' : Below Bc w w' := hb.mono (by have := h.le; omega)
  exact ⟨⟨by rw [hb.block _ hlt]; exact h.host.box, hlt, h.host.nil, fun M hM => ⟨(h.host.map M hM).1, ownsMap_below hb (h.host.map M hM).1 (h.host.map M hM).2⟩⟩, ⟨t1, h1⟩, ⟨t2, h2⟩, h.a.below hb', fun k hk => ⟨(h.fs k hk).1.below hb', (h.fs k hk).2⟩, h.aA, h.ful, h.le, h.bel.trans (hb'.mono h.b0), h.b0⟩

theorem Ho.two2 {w0 w : World} {Bc Hb m t T : Nat} {pm : Option Nat} {ta tl : Sl} {A : List Int} {K : Nat → ByteArray} {L : Nat → Sl} {f : Nat → List Int} (h : Ho w0 w Bc Hb m pm ta tl A K L f) (hT : T = ta.n + t) (ht : t = sumL L tl.n) (t1 t2 : TypeId) :
    Two w0 ((w.alloc (.cells zz18 t1)).alloc (.cells zz18 t2)) Bc Hb w.heap.size m T pm ta A K L f := by
  subst hT
  subst ht
  refine h.two (((Below.refl _ w).alloc (Nat.le_refl _) _).alloc (by simp) _) (t1 := t1) (t2 := t2) ?_ ?_
  · rw [Below.heap_alloc _ _ _ (by simp)]; exact heap_alloc_new w _
  · have := heap_alloc_new (w.alloc (.cells zz18 t1)) (.cells zz18 t2)
    rwa [World.size_alloc] at this

/-- The candidates of a path. -/
def In (A : List Int) (K : Nat → ByteArray) (f : Nat → List Int) (m : Nat) (p : ByteArray) (v : Int) : Prop := v ∈ A ∨ ∃ i, Stop p i ∧ v ∈ ctJ f (lastJ K (p.extract 0 i) m)
/-- A struct that is ready to be drained. -/
structure Full (w : World) (Bc C g N T : Nat) (I : Int → Prop) (F : Nat → List Int) : Prop where
  rd : ∃ sm Ls, Dr w C g N sm Ls ∧ ∀ k, k < N → RdI Bc w (Ls k) (F k) ∧ Asc (F k)
  mem : ∀ v, Mem F N v ↔ I v
  sum : sum F N ≤ T
  num : N ≤ 2097152
  bc : Bc ≤ g
theorem Full.keep {w w' : World} {Bc C g N T : Nat} {I : Int → Prop} {F : Nat → List Int} (h : Full w Bc C g N T I F) (hb : Below Bc w w') (hC : w'.heap[C]? = w.heap[C]?) (hg : 16 < N → w'.heap[g]? = w.heap[g]?) : Full w' Bc C g N T I F := by
  obtain ⟨⟨sm, Ls, hD, hR⟩, h2, h3, h4, h5⟩ := h
  exact ⟨⟨sm, Ls, hD.keep hb.size hC hg, fun k hk => ⟨(hR k hk).1.below hb, (hR k hk).2⟩⟩, h2, h3, h4, h5⟩
theorem Full.glt {w : World} {Bc C g N T : Nat} {I : Int → Prop} {F : Nat → List Int} (h : Full w Bc C g N T I F) : g < w.heap.size ∧ C < w.heap.size ∧ C ≠ g := by
  obtain ⟨sm, Ls, hD, _⟩ := h.rd
  exact ⟨hD.gt, hD.lt, hD.ne.2⟩
/-- Behind the first ZZCandidatesOf. -/
structure Sh (w0 w : World) (Bc Hb C1 m T : Nat) (pm : Option Nat) (ta : Sl) (A : List Int) (K : Nat → ByteArray) (L : Nat → Sl) (f : Nat → List Int) (p : ByteArray) : Prop where
  host : Host w Hb (C1 + 1) pm ta K L m
  hc : Hb < C1
  b2 : ∃ t, w.heap[C1 + 1]? = some (.cells zz18 t (0, 0))
  a : RdI Bc w ta A
  fs : ∀ k, k < m → RdI Bc w (L k) (f k) ∧ Asc (f k)
  aA : Asc A
  ful : A.length + sum f m ≤ T
  le : Bc ≤ Hb
  bel : Below w0.heap.size w0 w
  b0 : w0.heap.size ≤ Bc
  sh : ∃ g N F, Full w Bc C1 g N T (In A K f m p) F ∧ g ≠ C1 + 1
theorem Two.short {w0 w : World} {Bc Hb C1 m T : Nat} {pm : Option Nat} {ta : Sl} {A : List Int} {K : Nat → ByteArray} {L : Nat → Sl} {f : Nat → List Int} {p : ByteArray} (h : Two w0 w Bc Hb C1 m T pm ta A K L f) (hp : p.size ≤ 2097150) :
    Calls Try.prog 30 #[.pointer (some ⟨Hb, 0, none⟩), .pointer (some ⟨C1, 0, none⟩), .string p] w (fun e w' => e = .returned (.tuple #[]) ∧ Hid (Sh w0 w' Bc Hb C1 m T pm ta A K L f p)) := by
  obtain ⟨t1, h1⟩ := h.b1
  obtain ⟨t2, h2⟩ := h.b2
  have hlt := h.host.lt
  have hle := h.le
  have hsz := heap_lt' h2
  refine (zzcand_any Hb C1 w.heap.size Bc m pm ta A K L L f p w h.host (by omega) (cand_new h1 L) h.a h.aA h.fs hp).mono (fun e w' hq => ?_)
  obtain ⟨he, hF, N, Ls, F, ⟨hC, hR⟩, hmem, hsum, hN⟩ := hq
  have hb : Below Bc w w' := hF.below (by omega) (by omega)
  obtain ⟨g, sm, hg, hD⟩ := hC.dr (by omega)
  have hb0 := h.b0
  have hful := h.ful
  have hH := h.host.fr hF (by omega)
  exact ⟨he, (⟨⟨hH.box, by omega, hH.nil, fun M hM => ⟨by have := (hH.map M hM).1; omega, (hH.map M hM).2⟩⟩, hlt, ⟨t2, by rw [hF.block _ hsz (by omega)]; exact h2⟩, h.a.below hb, fun k hk => ⟨(h.fs k hk).1.below hb, (h.fs k hk).2⟩, h.aA, h.ful, h.le, h.bel.trans (hb.mono h.b0), h.b0, ⟨g, N, F, ⟨⟨sm, Ls, hD, hR⟩, hmem, by omega, by omega, by omega⟩, by omega⟩⟩ : Sh _ _ _ _ _ _ _ _ _ _ _ _ _ _)⟩
/-- Behind the second. -/
structure Dp (w0 w : World) (Bc C1 T : Nat) (I J : Int → Prop) : Prop where
  bc : Bc < C1
  bel : Below w0.heap.size w0 w
  b0 : w0.heap.size ≤ Bc
  sh : ∃ g1 N1 F1 g2 N2 F2, Full w Bc C1 g1 N1 T I F1 ∧ Full w Bc (C1 + 1) g2 N2 T J F2 ∧ g1 ≠ C1 + 1 ∧ (16 < N2 → g2 ≠ C1 ∧ g2 ≠ g1)
theorem Sh.deep {w0 w : World} {Bc Hb C1 m T : Nat} {pm : Option Nat} {ta : Sl} {A : List Int} {K : Nat → ByteArray} {L : Nat → Sl} {f : Nat → List Int} {p q : ByteArray} (h : Sh w0 w Bc Hb C1 m T pm ta A K L f p) (hp : q.size ≤ 2097150) :
    Calls Try.prog 30 #[.pointer (some ⟨Hb, 0, none⟩), .pointer (some ⟨C1 + 1, 0, none⟩), .string q] w (fun e w' => e = .returned (.tuple #[]) ∧ Hid (Dp w0 w' Bc C1 T (In A K f m p) (In A K f m q))) := by
  obtain ⟨t2, h2⟩ := h.b2
  obtain ⟨g1, N1, F1, hf1, hg1⟩ := h.sh
  obtain ⟨hgl, hcl, hne⟩ := hf1.glt
  have hlt := h.hc
  have hle := h.le
  have hsz := heap_lt' h2
  refine (zzcand_any Hb (C1 + 1) w.heap.size Bc m pm ta A K L L f q w h.host (by omega) (cand_new h2 L) h.a h.aA h.fs hp).mono (fun e w' hq => ?_)
  obtain ⟨he, hF, N, Ls, F, ⟨hC, hR⟩, hmem, hsum, hN⟩ := hq
  have hb : Below Bc w w' := hF.below (by omega) (by omega)
  obtain ⟨g, sm, hg, hD⟩ := hC.dr (by omega)
  have hful := h.ful
  exact ⟨he, (⟨by omega, h.bel.trans (hb.mono h.b0), h.b0, g1, N1, F1, g, N, F, hf1.keep hb (hF.block _ hcl (by omega)) (fun _ => hF.block _ hgl hg1), ⟨⟨sm, Ls, hD, hR⟩, hmem, by omega, by omega, by omega⟩, hg1, fun _ => ⟨by omega, by omega⟩⟩ : Dp _ _ _ _ _ _ _)⟩
/-- Behind the first drain. -/
structure D1 (w0 w : World) (Bc C1 T : Nat) (I J : Int → Prop) (s : Sl) : Prop where
  bc : Bc < C1
  bel : Below w0.heap.size w0 w
  b0 : w0.heap.size ≤ Bc
  out : ∃ xs, RdI w.heap.size w s xs ∧ Asc xs ∧ (∀ v, I v ↔ v ∈ xs) ∧ xs.length ≤ T ∧ ∃ g2 N2 F2, Full w Bc (C1 + 1) g2 N2 T J F2 ∧ Lo (max g2 (C1 + 1) + 1) s
theorem Dp.drain {w0 w : World} {Bc C1 T : Nat} {I J : Int → Prop} (h : Dp w0 w Bc C1 T I J) (hT : T ≤ 1048576) :
    Calls Try.prog 13 #[.pointer (some ⟨C1, 0, none⟩), .int .i64 T] w (fun e w' => ∃ s : Sl, e = .returned (.tuple #[.slice s.a s.n s.c, .bool true]) ∧ Hid (D1 w0 w' Bc C1 T I J s)) := by
  obtain ⟨g1, N1, F1, g2, N2, F2, hf1, hf2, hg1, hg2⟩ := h.sh
  obtain ⟨sm, Ls, hD, hR⟩ := hf1.rd
  obtain ⟨hgl1, hcl1, hne1⟩ := hf1.glt
  obtain ⟨hgl2, hcl2, hne2⟩ := hf2.glt
  have hbc := h.bc
  have hb1 := hf1.bc
  refine (drain_any C1 g1 N1 Bc T sm Ls F1 w hD hf1.num hR h.bc hf1.sum (by omega)).mono (fun e w' hq => ?_)
  obtain ⟨s, out, he, hS, hlo, hasc, hmem, hlen, hF⟩ := hq
  have hb : Below Bc w w' := hF.below (by omega) (by omega) (by omega)
  have hsum := hf1.sum
  exact ⟨s, he, (⟨h.bc, h.bel.trans (hb.mono h.b0), h.b0, out, hS, hasc, fun v => (hf1.mem v).symm.trans (hmem v), by omega, g2, N2, F2, hf2.keep hb (hF.block _ hcl2 (by omega) (by omega)) (fun h16 => hF.block _ hgl2 (hg2 h16).1 (hg2 h16).2), fun hn ad ha => by have := hlo hn ad ha; omega⟩ : D1 _ _ _ _ _ _ _ _)⟩
/-- Behind the second drain. -/
structure D2 (w0 w : World) (s t : Sl) : Prop where
  bel : Below w0.heap.size w0 w
  b0 : w0.heap.size ≤ w.heap.size
  out : ∃ xs ys, RdI w.heap.size w s xs ∧ RdI w.heap.size w t ys ∧ Asc xs ∧ Asc ys ∧ Sub xs ys ∧ xs.length ≤ 1048576 ∧ ys.length ≤ 1048576
theorem RdI.fr2 {w w' : World} {C g : Nat} {s : Sl} {xs : List Int} (h : RdI w.heap.size w s xs) (hf : Fr2 C g w w') (hlo : Lo (max g C + 1) s) : RdI w'.heap.size w' s xs := ⟨h.1, h.2.1, fun hn => by
  obtain ⟨b, o, e, hB, hc⟩ := h.2.2 hn
  have hb := hlo hn _ e
  dsimp only at hb
  refine ⟨b, o, e, Nat.lt_of_lt_of_le hB hf.size, fun k v hv => ?_⟩
  rw [World.cell?_of_block (w := w) (hf.block b hB (by omega) (by omega))]
  exact hc k v hv⟩
theorem D1.drain {w0 w : World} {Bc C1 T : Nat} {I J : Int → Prop} {s : Sl} (h : D1 w0 w Bc C1 T I J s) (hT : T ≤ 1048576) (hIJ : ∀ v, I v → J v) :
    Calls Try.prog 13 #[.pointer (some ⟨C1 + 1, 0, none⟩), .int .i64 T] w (fun e w' => ∃ t : Sl, e = .returned (.tuple #[.slice t.a t.n t.c, .bool true]) ∧ Hid (D2 w0 w' s t)) := by
  obtain ⟨xs, hS, ax, hI, hxl, g2, N2, F2, hf2, hlo⟩ := h.out
  obtain ⟨sm, Ls, hD, hR⟩ := hf2.rd
  obtain ⟨hgl2, hcl2, hne2⟩ := hf2.glt
  have hbc := h.bc
  have hb1 := hf2.bc
  refine (drain_any (C1 + 1) g2 N2 Bc T sm Ls F2 w hD hf2.num hR (by omega) hf2.sum (by omega)).mono (fun e w' hq => ?_)
  obtain ⟨t, out, he, hS', hlo', hasc, hmem, hlen, hF⟩ := hq
  have hb : Below Bc w w' := hF.below (by omega) (by omega) (by omega)
  have hsum := hf2.sum
  have hbel := h.bel.trans (hb.mono h.b0)
  exact ⟨t, he, (⟨hbel, hbel.size, xs, out, hS.fr2 hF hlo, hS', ax, hasc, fun v hv => (hmem v).1 ((hf2.mem v).2 (hIJ v ((hI v).2 hv))), by omega, by omega⟩ : D2 _ _ _ _)⟩
theorem D2.sub {w0 w : World} {s t : Sl} (h : D2 w0 w s t) : Calls Try.prog 34 #[.slice s.a s.n s.c, .slice t.a t.n t.c] w (fun e w' => e = .returned (.bool true) ∧ Hid (Below w0.heap.size w0 w')) := by
  obtain ⟨xs, ys, hX, hY, ax, ay, hs, h1, h2⟩ := h.out
  exact (subset_any s t xs ys w (by have := hX.1; omega) (by have := hY.1; omega) hX hY ax ay hs).mono (fun _ _ hq => ⟨hq.1, (h.bel.trans (hq.2.mono h.b0) : Below _ _ _)⟩)
end Go.Proofs.Qxb6600159a
