/-
  THE WALKS: cloneList, cloneStrings, cloneLists.
-/
import Derived.Test.Qxb6600159aE4
import Derived.Deep.MidRow
import Derived.WalkLawsBesides
import Derived.Lib.LazyBuf
namespace Go.Proofs.Qxb6600159a
open Go.RowKit Plain
set_option linter.unusedSimpArgs false

/-- 'make([]T, n)', of which only the size is kept. -/
theorem wpList_makeS {P : Program} {w : World} {ops : Array Oper} {rest : List Oper} {o : Oper} {a : Act} {Q : Exit → Act → World → Prop}
    (hg : o.guard = none) (l c : Operand) (t : TypeId) (hop : o.op = Op.makeSlice t l c) (e : TypeId) (z : Value) (size bytes : Nat)
    (h1 : P.underlying t = some (.slice e)) (h2 : (P.info? e).map (fun i => (i.zero, i.size, i.bytes)) = some (some z, size, bytes))
    (n : Nat) (hl : a.eval l = .int .i64 (n : Nat)) (hc : a.eval c = .int .i64 (n : Nat)) (b2 : bytes * n ≤ 281474976710656) (b3 : n ≤ 9223372036854775807)
    (hK : ∀ C : Array Value, C.size = n * size → wpList P ops Q rest (a.put o.dst (.slice (some ⟨w.heap.size, 0, none⟩) n n)) (w.alloc (.cells C e))) :
    wpList P ops Q (o :: rest) a w := by
  obtain ⟨i, hi, hz, hs, hb⟩ := info_parts h2
  refine wpList_plain hg fun K hK' => ?_
  have hb' : (i.bytes : Int) * (n : Int) ≤ 281474976710656 := by
    rw [hb]
    have h : ((bytes * n : Nat) : Int) ≤ 281474976710656 := by omega
    rwa [Int.natCast_mul] at h
  have hrun := run_make (P := P) w t e i z h1 hi hz .i64 .i64 n n (by omega) (Int.le_refl _) hb' (by omega)
  simp only [Int.toNat_natCast] at hrun
  rw [hs] at hrun
  unfold Oper.wp
  simp [execOp, hop, hl, hc, hrun, Result.andThen]
  exact hK' _ _ (hK _ (size_madeCells _ _))
theorem there_new (w : World) (C : Array Value) (e : TypeId) : (w.alloc (.cells C e)).there w.heap.size 0 C.size := fun j hj => by
  refine ⟨?_, frozen_of_row _ _ _ C e (heap_alloc_new w _)⟩
  rw [cell_of_row _ _ _ C e (0, 0) (heap_alloc_new w _), Nat.zero_add, Array.getElem?_eq_getElem hj]; rfl
theorem there_below {B : Nat} {w w' : World} (h : Below B w w') {b o n : Nat} (hb : b < B) (hr : w.there b o n) : w'.there b o n := fun j hj => by
  rw [h.cell (p := ⟨b, o + j, none⟩) hb, h.frozen (p := ⟨b, o + j, none⟩) hb]; exact hr j hj

/-- A row of n cells in the block g = w.heap.size, of which the first i are V. -/
def FlV (w : World) (n : Nat) (V : Nat → Value) (i : Nat) (wx : World) : Prop :=
  Below w.heap.size w wx ∧ wx.there w.heap.size 0 n ∧ w.heap.size < wx.heap.size ∧ ∀ k, k < i → wx.cell? ⟨w.heap.size, k, none⟩ = some (V k)
theorem FlV.start (w : World) (C : Array Value) (e : TypeId) (n : Nat) (V : Nat → Value) (h : C.size = n) : FlV w n V 0 (w.alloc (.cells C e)) := by
  have := there_new w C e
  rw [h] at this
  exact ⟨(Below.refl _ _).alloc (Nat.le_refl _) _, this, by simp, fun k hk => absurd hk (by omega)⟩
theorem FlV.put {w wx : World} {n i : Nat} {V : Nat → Value} (h : FlV w n V i wx) (hi : i < n) : FlV w n V (i + 1) (wx.setCell ⟨w.heap.size, i, none⟩ (V i)) := by
  obtain ⟨h1, h2, h3, h4⟩ := h
  have hth : wx.there w.heap.size i 1 := fun j hj => by
    have := h2 (i + j) (by omega)
    rwa [Nat.zero_add] at this
  refine ⟨h1.setCell (p := ⟨w.heap.size, i, none⟩) (Nat.le_refl _) _, World.there_setCells h2 w.heap.size i [V i], by simpa [World.setCell] using h3, fun k hk => ?_⟩
  by_cases e : k = i
  · subst e
    exact World.rangeAt_setCells_same wx w.heap.size k [V k] hth 0 _ rfl
  · have h0 : wx.rangeAt w.heap.size k [V k] := fun j u hu => by
      match j, hu with
      | 0, hu => simp at hu; subst hu; exact h4 k (by omega)
      | j + 1, hu => simp at hu
    exact World.rangeAt_setCells_apart h0 w.heap.size i [V i] (.inr (by simp; omega)) 0 _ rfl
theorem FlV.next {w wx w1 : World} {n i : Nat} {V : Nat → Value} (h : FlV w n V i wx) (hb : Below wx.heap.size wx w1) : FlV w n V i w1 := by
  obtain ⟨h1, h2, h3, h4⟩ := h
  exact ⟨h1.trans (hb.mono (by omega)), there_below hb h3 h2, by have := hb.size; omega, fun k hk => by rw [hb.cell (p := ⟨w.heap.size, k, none⟩) h3]; exact h4 k hk⟩
theorem FlV.cell {w wx : World} {n i : Nat} {V : Nat → Value} (h : FlV w n V i wx) {k : Nat} (hk : k < n) : (∃ u, wx.cell? ⟨w.heap.size, k, none⟩ = some u) ∧ wx.frozen? ⟨w.heap.size, k, none⟩ = false := by
  obtain ⟨t1, t2⟩ := h.2.1 k hk
  rw [Nat.zero_add] at t1 t2
  exact ⟨Option.isSome_iff_exists.1 t1, t2⟩

def Lo (lo : Nat) (s : Sl) : Prop := 0 < s.n → ∀ ad, s.a = some ad → lo ≤ ad.block
def ClPost (w : World) (xs : List Int) (e : Ending) (w' : World) : Prop := ∃ s : Sl, e = .returned (.slice s.a s.n s.c) ∧ RdI w'.heap.size w' s xs ∧ Lo w.heap.size s ∧ Below w.heap.size w w'

theorem nil26 (w : World) (a : Option Addr) (n c : Nat) : (binOp .eql 26 (.slice a n c) (.slice none 0 0)).run Try.prog w = .ok (.bool a.isNone) w := run_eql_slice_nil w 26 21 a n c Try.underlying26
theorem nil38 (w : World) (a : Option Addr) (n c : Nat) : (binOp .eql 38 (.slice a n c) (.slice none 0 0)).run Try.prog w = .ok (.bool a.isNone) w := run_eql_slice_nil w 38 9 a n c Try.underlying38
theorem nil22 (w : World) (a : Option Addr) (n c : Nat) : (binOp .eql 22 (.slice a n c) (.slice none 0 0)).run Try.prog w = .ok (.bool a.isNone) w := run_eql_slice_nil w 22 26 a n c Try.underlying22
theorem info21 : (Try.prog.info? 21).map (fun i => (i.zero, i.size, i.bytes)) = some (some (.int .i32 0), 1, 4) := by kernel_rfl
theorem info9 : (Try.prog.info? 9).map (fun i => (i.zero, i.size, i.bytes)) = some (some (.string ⟨#[]⟩), 1, 16) := by kernel_rfl
theorem info26 : (Try.prog.info? 26).map (fun i => (i.zero, i.size, i.bytes)) = some (some (.slice none 0 0), 1, 24) := by kernel_rfl

set_option maxHeartbeats 2000000 in
set_option maxRecDepth 100000 in
theorem clone_any (s : Sl) (xs : List Int) (w : World) (hn : s.n ≤ 1048576) (hR : RdI w.heap.size w s xs) : Calls Try.prog 25 #[.slice s.a s.n s.c] w (ClPost w xs) := by
  obtain ⟨a, n, c⟩ := s
  dsimp only at hn ⊢
  cases a with
  | none =>
    have hn0 : n = 0 := by
      by_cases e : 0 < n
      · obtain ⟨b, o, e, _⟩ := hR.2.2 e; cases e
      · omega
    subst hn0
    have HX : Hid (xs = []) := by have := hR.1; dsimp only at this; exact List.length_eq_zero_iff.1 this.symm
    clear hR
    go_enter Try.func25, Try.ntmps25
    go_wp2_with (simp only [nil26, Option.isNone])
    go_ret
    rw [HX.out]
    exact ⟨⟨none, 0, 0⟩, rfl, ⟨rfl, ⟨Nat.le_refl _, fun _ h => absurd h (by simp)⟩, fun h => absurd h (Nat.lt_irrefl 0)⟩, fun h => absurd h (Nat.lt_irrefl 0), Below.refl _ _⟩
  | some a0 =>
    have HR : Hid (RdI w.heap.size w ⟨some a0, n, c⟩ xs) := hR
    have HLn : Hid (n = xs.length) := hR.1
    clear hR
    go_enter Try.func25, Try.ntmps25
    go_wp2_with (first | (at_make; refine wpList_makeS rfl (.tmp 8) (.tmp 8) 26 rfl 21 (.int .i32 0) 1 4 Try.underlying26 info21 n rfl rfl (by omega) (by omega) ?_; intro C hC) | simp only [nil26, Option.isNone])
    have hW := FlV.start w C 21 n (fun k => .int .i32 (xs.getD k 0)) (by omega)
    generalize w.alloc (.cells C 21) = W0 at *
    go_loopg [4] n (fun g s4 wx => ∃ i : Nat, i + g = n ∧ s4 = .int .i64 i ∧ FlV w n (fun k => .int .i32 (xs.getD k 0)) i wx)
    case atStart => exact ⟨0, by omega, rfl, hW⟩
    case round =>
      obtain ⟨i, hig, rfl, hI⟩ := hrel
      have HI : Hid (FlV w n (fun k => .int .i32 (xs.getD k 0)) i wr) := hI
      clear hI hW
      cases gk with
      | zero =>
        obtain rfl : n = i := by omega
        go_wp2
        go_ret
        refine ⟨⟨some ⟨w.heap.size, 0, none⟩, n, n⟩, rfl, ⟨HLn.out, ⟨Nat.le_refl _, HR.out.2.1.2⟩, fun _ => ⟨w.heap.size, 0, rfl, HI.out.2.2.1, fun k v hv => ?_⟩⟩, fun _ ad h => by cases h; exact Nat.le_refl _, HI.out.1⟩
        have hk : k < n := by have := (List.getElem?_eq_some_iff.1 hv).1; have := HLn.out; omega
        have h := HI.out.2.2.2 k hk
        simp only [List.getD_eq_getElem?_getD, hv, Option.getD_some] at h
        rwa [Nat.zero_add]
      | succ g =>
        have hi : i < n := by omega
        have hi1 : (i : Int) < (n : Int) := by omega
        obtain ⟨b, o, hab, _, hc⟩ := (HR.out.below HI.out.1).2.2 (by dsimp only; omega)
        obtain rfl : a0 = ⟨b, o, none⟩ := Option.some.inj hab
        obtain ⟨v, hv⟩ : ∃ v, xs[i]? = some v := ⟨_, List.getElem?_eq_getElem (by have := HLn.out; omega)⟩
        have k0 := hc i v hv
        obtain ⟨⟨u, t1⟩, t2⟩ := HI.out.cell hi
        have hP0 : FlV w n (fun k => .int .i32 (xs.getD k 0)) (i + 1) (wr.setCell ⟨w.heap.size, i, none⟩ (.int .i32 v)) := by
          have h := HI.out.put hi
          simp only [List.getD_eq_getElem?_getD, hv, Option.getD_some] at h
          simpa only [List.getD_eq_getElem?_getD] using h
        have HP : Hid (FlV w n (fun k => .int .i32 (xs.getD k 0)) (i + 1) (wr.setCell ⟨w.heap.size, i, none⟩ (.int .i32 v))) := hP0
        clear hc hv hP0
        go_wp2
        go_roundg g
        case measure => omega
        case rel => exact ⟨i + 1, by omega, by go_num, HP.out⟩

def CsPost (w : World) (n : Nat) (K : Nat → ByteArray) (e : Ending) (w' : World) : Prop := ∃ s : Sl, e = .returned (.slice s.a s.n s.c) ∧ s.n = n ∧ RdB w'.heap.size w' s K ∧ Below w.heap.size w w'

set_option maxHeartbeats 2000000 in
set_option maxRecDepth 100000 in
theorem cloneS_any (s : Sl) (K : Nat → ByteArray) (w : World) (hn : s.n ≤ 1048576) (hR : RdB w.heap.size w s K) : Calls Try.prog 26 #[.slice s.a s.n s.c] w (CsPost w s.n K) := by
  obtain ⟨a, n, c⟩ := s
  dsimp only at hn ⊢
  cases a with
  | none =>
    have hn0 : n = 0 := by
      by_cases e : 0 < n
      · obtain ⟨b, o, e, _⟩ := hR e; cases e
      · omega
    subst hn0
    clear hR
    go_enter Try.func26, Try.ntmps26
    go_wp2_with (simp only [nil38, Option.isNone])
    go_ret
    exact ⟨⟨none, 0, 0⟩, rfl, rfl, fun h => absurd h (Nat.lt_irrefl 0), Below.refl _ _⟩
  | some a0 =>
    have HR : Hid (RdB w.heap.size w ⟨some a0, n, c⟩ K) := hR
    clear hR
    go_enter Try.func26, Try.ntmps26
    go_wp2_with (first | (at_make; refine wpList_makeS rfl (.tmp 8) (.tmp 8) 38 rfl 9 (.string ⟨#[]⟩) 1 16 Try.underlying38 info9 n rfl rfl (by omega) (by omega) ?_; intro C hC) | simp only [nil38, Option.isNone])
    have hW := FlV.start w C 9 n (fun k => .string (K k)) (by omega)
    generalize w.alloc (.cells C 9) = W0 at *
    go_loopg [4] n (fun g s4 wx => ∃ i : Nat, i + g = n ∧ s4 = .int .i64 i ∧ FlV w n (fun k => .string (K k)) i wx)
    case atStart => exact ⟨0, by omega, rfl, hW⟩
    case round =>
      obtain ⟨i, hig, rfl, hI⟩ := hrel
      have HI : Hid (FlV w n (fun k => .string (K k)) i wr) := hI
      clear hI hW
      cases gk with
      | zero =>
        obtain rfl : n = i := by omega
        go_wp2
        go_ret
        refine ⟨⟨some ⟨w.heap.size, 0, none⟩, n, n⟩, rfl, rfl, fun _ => ⟨w.heap.size, 0, rfl, HI.out.2.2.1, fun k hk => ?_⟩, HI.out.1⟩
        have h := HI.out.2.2.2 k hk
        rwa [Nat.zero_add]
      | succ g =>
        have hi : i < n := by omega
        have hi1 : (i : Int) < (n : Int) := by omega
        obtain ⟨b, o, hab, _, hc⟩ := (HR.out.below HI.out.1) (by dsimp only; omega)
        obtain rfl : a0 = ⟨b, o, none⟩ := Option.some.inj hab
        have k0 := hc i hi
        obtain ⟨⟨u, t1⟩, t2⟩ := HI.out.cell hi
        have HP : Hid (FlV w n (fun k => .string (K k)) (i + 1) (wr.setCell ⟨w.heap.size, i, none⟩ (.string (K i)))) := HI.out.put hi
        clear hc
        go_wp2
        go_roundg g
        case measure => omega
        case rel => exact ⟨i + 1, by omega, by go_num, HP.out⟩

theorem RdI.setCell {B : Nat} {w : World} {s : Sl} {xs : List Int} (h : RdI B w s xs) {g : Nat} (hlo : Lo (g + 1) s) (o' : Nat) (x : Value) : RdI B (w.setCell ⟨g, o', none⟩ x) s xs := ⟨h.1, h.2.1, fun hn => by
  obtain ⟨b, o, e, hB, hc⟩ := h.2.2 hn
  have hb : g + 1 ≤ b := hlo hn _ e
  exact ⟨b, o, e, hB, fun k v hv => by rw [World.cell?_of_block (w := w) (Below.heap_setCell _ _ _ _ (by show b ≠ g; omega))]; exact hc k v hv⟩⟩
/-- What cloneLists has made: a row of slices, each with its contents. -/
def ClI (w : World) (n : Nat) (f : Nat → List Int) (i : Nat) (wx : World) : Prop :=
  ∃ L : Nat → Sl, FlV w n (fun k => .slice (L k).a (L k).n (L k).c) i wx ∧ ∀ k, k < i → RdI wx.heap.size wx (L k) (f k) ∧ Lo (w.heap.size + 1) (L k)
theorem ClI.put {w wr w1 : World} {n i : Nat} {f : Nat → List Int} (h : ClI w n f i wr) (hi : i < n) {s : Sl} (hb : Below wr.heap.size wr w1) (hs : RdI w1.heap.size w1 s (f i)) (hl : Lo wr.heap.size s) :
    ClI w n f (i + 1) (w1.setCell ⟨w.heap.size, i, none⟩ (.slice s.a s.n s.c)) := by
  obtain ⟨L, hF, hL⟩ := h
  have hsz := hF.2.2.1
  have hF1 : FlV w n (fun k => .slice ((fun k => if k = i then s else L k) k).a ((fun k => if k = i then s else L k) k).n ((fun k => if k = i then s else L k) k).c) i w1 := by
    obtain ⟨q1, q2, q3, q4⟩ := hF.next hb
    exact ⟨q1, q2, q3, fun k hk => by have := q4 k hk; simpa [show k ≠ i by omega] using this⟩
  have hp := hF1.put hi
  simp only [if_true] at hp
  have hlo : Lo (w.heap.size + 1) s := fun h0 ad e => by have := hl h0 ad e; omega
  refine ⟨fun k => if k = i then s else L k, hp, fun k hk => ?_⟩
  have esz : (w1.setCell ⟨w.heap.size, i, none⟩ (.slice s.a s.n s.c)).heap.size = w1.heap.size := by simp [World.setCell]
  rw [esz]
  by_cases e : k = i
  · subst e
    simp only [if_true]
    exact ⟨hs.setCell hlo _ _, hlo⟩
  · simp only [if_neg e]
    obtain ⟨g1, g2⟩ := hL k (by omega)
    exact ⟨((g1.below hb).mono hb.size).setCell g2 _ _, g2⟩
def CsLPost (w : World) (n : Nat) (f : Nat → List Int) (e : Ending) (w' : World) : Prop :=
  ∃ (s : Sl) (L : Nat → Sl), e = .returned (.slice s.a s.n s.c) ∧ s.n = n ∧ RdS w'.heap.size w' s L ∧ (∀ k, k < n → RdI w'.heap.size w' (L k) (f k)) ∧ Below w.heap.size w w'

set_option maxHeartbeats 2000000 in
set_option maxRecDepth 100000 in
theorem cloneL_any (s : Sl) (L : Nat → Sl) (f : Nat → List Int) (w : World) (hn : s.n ≤ 1048576) (hl : ∀ k, k < s.n → (L k).n ≤ 1048576) (hS : RdS w.heap.size w s L) (hI : ∀ k, k < s.n → RdI w.heap.size w (L k) (f k)) :
    Calls Try.prog 11 #[.slice s.a s.n s.c] w (CsLPost w s.n f) := by
  obtain ⟨a, n, c⟩ := s
  dsimp only at hn hl hI ⊢
  cases a with
  | none =>
    have hn0 : n = 0 := by
      by_cases e : 0 < n
      · obtain ⟨b, o, e, _⟩ := hS e; cases e
      · omega
    subst hn0
    clear hS hI hl
    go_enter Try.func11, Try.ntmps11
    go_wp2_with (simp only [nil22, Option.isNone])
    go_ret
    exact ⟨⟨none, 0, 0⟩, fun _ => ⟨none, 0, 0⟩, rfl, rfl, fun h => absurd h (Nat.lt_irrefl 0), fun k hk => absurd hk (by omega), Below.refl _ _⟩
  | some a0 =>
    have HS : Hid (RdS w.heap.size w ⟨some a0, n, c⟩ L) := hS
    have HI : Hid (∀ k, k < n → RdI w.heap.size w (L k) (f k)) := hI
    have HL : Hid (∀ k, k < n → (L k).n ≤ 1048576) := hl
    clear hS hI hl
    go_enter Try.func11, Try.ntmps11
    go_wp2_with (first | (at_make; refine wpList_makeS rfl (.tmp 8) (.tmp 8) 22 rfl 26 (.slice none 0 0) 1 24 Try.underlying22 info26 n rfl rfl (by omega) (by omega) ?_; intro C hC) | simp only [nil22, Option.isNone])
    have hW : ClI w n f 0 (w.alloc (.cells C 26)) := ⟨L, FlV.start w C 26 n _ (by omega), fun k hk => absurd hk (by omega)⟩
    generalize w.alloc (.cells C 26) = W0 at *
    go_loopg [4] n (fun g s4 wx => ∃ i : Nat, i + g = n ∧ s4 = .int .i64 i ∧ ClI w n f i wx)
    case atStart => exact ⟨0, by omega, rfl, hW⟩
    case round =>
      obtain ⟨i, hig, rfl, hC2⟩ := hrel
      have HC2 : Hid (ClI w n f i wr) := hC2
      clear hC2 hW
      cases gk with
      | zero =>
        obtain rfl : n = i := by omega
        go_wp2
        go_ret
        obtain ⟨L', hF, hL'⟩ := HC2.out
        refine ⟨⟨some ⟨w.heap.size, 0, none⟩, n, n⟩, L', rfl, rfl, fun _ => ⟨w.heap.size, 0, rfl, hF.2.2.1, fun k hk => ?_⟩, fun k hk => (hL' k hk).1, hF.1⟩
        have h := hF.2.2.2 k hk
        rwa [Nat.zero_add]
      | succ g =>
        have hi : i < n := by omega
        have hi1 : (i : Int) < (n : Int) := by omega
        obtain ⟨L', hF, hL'⟩ := HC2.out
        have hb := hF.1
        obtain ⟨b, o, hab, _, hc⟩ := (HS.out.below hb) (by dsimp only; omega)
        obtain rfl : a0 = ⟨b, o, none⟩ := Option.some.inj hab
        have k0 := hc i hi
        have HCa : Hid (Calls Try.prog 25 #[.slice (L i).a (L i).n (L i).c] wr (ClPost wr (f i))) := clone_any (L i) (f i) wr (HL.out i hi) (((HI.out i hi).below hb).mono hb.size)
        have HF : Hid (FlV w n (fun k => .slice (L' k).a (L' k).n (L' k).c) i wr) := hF
        clear hc hF hL' hb
        go_wp2_with (go_at_call 25; refine Calls.mono HCa.out ?_; rintro e w1 ⟨s', rfl, hs', hlo', hb1⟩; obtain ⟨⟨u, t1⟩, t2⟩ := (HF.out.next hb1).cell hi)
        go_roundg g
        case measure => omega
        case rel => exact ⟨i + 1, by omega, by go_num, HC2.out.put hi hb1 hs' hlo'⟩
end Go.Proofs.Qxb6600159a
