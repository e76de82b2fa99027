/-
  WHAT CAME IN: the tables, as the walks are told of them.
-/
import Derived.Test.Qxb6600017aRows
import Derived.WalkKit
import Derived.WalkSpells
import Derived.Deep.LoopGhost
import Derived.Deep.QuietTactic
import Derived.BigQuiet
namespace Go.Proofs.Qxb6600017a
open Go.RowKit

/-- A slice value. -/
structure Sl where
  a : Option Addr
  n : Nat
  c : Nat
def Sl.val (s : Sl) : Value := .slice s.a s.n s.c
/-- A table that came in. -/
structure ZT where
  pre : Int
  suc : Int
  np : Bool
  qp : Bool
  fol : Sl
  fwd : Sl
  bck : Sl

/-- A slice of int32 can be read. -/
def Rd1 (w : World) (s : Sl) : Prop := 0 < s.n → ∃ b o, s.a = some ⟨b, o, none⟩ ∧ ∀ k, k < s.n → ∃ x : Int, w.cell? ⟨b, o + k, none⟩ = some (.int .i32 x)
/-- A slice of fingers can be read. -/
def Rd2 (w : World) (s : Sl) : Prop := 0 < s.n → ∃ b o, s.a = some ⟨b, o, none⟩ ∧ ∀ k, k < s.n → ∃ (x : Int) (v : Bool), w.cell? ⟨b, o + 2 * k, none⟩ = some (.int .i32 x) ∧ w.cell? ⟨b, o + 2 * k + 1, none⟩ = some (.bool v)

structure Row (w : World) (b o : Nat) (t : ZT) : Prop where
  c0 : w.cell? ⟨b, o, none⟩ = some (.int .i32 t.pre)
  c1 : w.cell? ⟨b, o + 1, none⟩ = some (.int .i32 t.suc)
  c2 : w.cell? ⟨b, o + 2, none⟩ = some (.bool t.np)
  c3 : w.cell? ⟨b, o + 3, none⟩ = some (.bool t.qp)
  c4 : w.cell? ⟨b, o + 4, none⟩ = some (.slice t.fol.a t.fol.n t.fol.c)
  c5 : w.cell? ⟨b, o + 5, none⟩ = some (.slice t.fwd.a t.fwd.n t.fwd.c)
  c6 : w.cell? ⟨b, o + 6, none⟩ = some (.slice t.bck.a t.bck.n t.bck.c)
  fol : Rd1 w t.fol
  fwd : Rd2 w t.fwd
  bck : Rd2 w t.bck
  pre_lo : -2147483648 ≤ t.pre
  pre_hi : t.pre ≤ 2147483647
  suc_lo : -2147483648 ≤ t.suc
  suc_hi : t.suc ≤ 2147483647
  lfol : t.fol.n ≤ 9223372036854775807
  lfwd : t.fwd.n ≤ 9223372036854775807
  lbck : t.bck.n ≤ 9223372036854775807

/-- The tables from ⟨b, off⟩ on. -/
def Tabs (w : World) (b off n : Nat) (t : Nat → ZT) : Prop := ∀ i, i < n → Row w b (off + i * 7) (t i)

def tot (t : Nat → ZT) : Nat → Nat
  | 0 => 0
  | i + 1 => tot t i + ((t i).fol.n + (t i).fwd.n + (t i).bck.n)

/-- What was there is there still. -/
theorem Rd1.below {w w' : World} (hb : Below w.heap.size w w') {s : Sl} (h : Rd1 w s) : Rd1 w' s := fun hn => by
  obtain ⟨b, o, e, hc⟩ := h hn
  refine ⟨b, o, e, fun k hk => ?_⟩
  obtain ⟨x, hx⟩ := hc k hk
  exact ⟨x, by rw [hb.cell (World.block_lt_of_cell? w _ hx)]; exact hx⟩
theorem Rd2.below {w w' : World} (hb : Below w.heap.size w w') {s : Sl} (h : Rd2 w s) : Rd2 w' s := fun hn => by
  obtain ⟨b, o, e, hc⟩ := h hn
  refine ⟨b, o, e, fun k hk => ?_⟩
  obtain ⟨x, v, hx, hv⟩ := hc k hk
  exact ⟨x, v, by rw [hb.cell (World.block_lt_of_cell? w _ hx)]; exact hx, by rw [hb.cell (World.block_lt_of_cell? w _ hv)]; exact hv⟩
theorem Row.below {w w' : World} (hb : Below w.heap.size w w') {b o : Nat} {t : ZT} (h : Row w b o t) : Row w' b o t := by
  have hlt : b < w.heap.size := World.block_lt_of_cell? w _ h.c0
  have hc : ∀ j, w'.cell? ⟨b, j, none⟩ = w.cell? ⟨b, j, none⟩ := fun j => hb.cell (p := ⟨b, j, none⟩) hlt
  exact ⟨by rw [hc]; exact h.c0, by rw [hc]; exact h.c1, by rw [hc]; exact h.c2, by rw [hc]; exact h.c3, by rw [hc]; exact h.c4, by rw [hc]; exact h.c5, by rw [hc]; exact h.c6,
    h.fol.below hb, h.fwd.below hb, h.bck.below hb, h.pre_lo, h.pre_hi, h.suc_lo, h.suc_hi, h.lfol, h.lfwd, h.lbck⟩
theorem Tabs.below {w w' : World} (hb : Below w.heap.size w w') {b off n : Nat} {t : Nat → ZT} (h : Tabs w b off n t) : Tabs w' b off n t := fun i hi => (h i hi).below hb

def BytesPost (n : Nat) (t : Nat → ZT) (w : World) (e : Ending) (w' : World) : Prop :=
  (e = .returned (.bool false) ∨ e = .returned (.bool true) ∧ n + tot t n ≤ 1048576) ∧ w' = w

set_option maxHeartbeats 1000000 in
set_option maxRecDepth 100000 in
theorem bytes_any (b off n c : Nat) (t : Nat → ZT) (node : Int) (w : World) (hn : n ≤ 9223372036854775807) (hT : Tabs w b off n t) :
    Calls Try.prog 30 #[.slice (some ⟨b, off, none⟩) n c, .int .i64 node] w (BytesPost n t w) := by
  by_cases hbig : 1048576 < n
  · go_enter Try.func30, Try.ntmps30
    go_wp2
    go_ret
    exact ⟨.inl rfl, rfl⟩
  · go_enter Try.func30, Try.ntmps30
    go_wp2
    go_loopg [5, 6] n (fun g s5 s6 wx => ∃ i : Nat, i + g = n ∧ s6 = .int .i64 i ∧ s5 = .int .i64 (n + tot t i : Nat) ∧ n + tot t i ≤ 1048576 ∧ wx = w)
    case atStart => exact ⟨0, by omega, rfl, rfl, by simp [tot]; omega, rfl⟩
    case round =>
      obtain ⟨i, hig, rfl, rfl, hle, rfl⟩ := hrel
      cases gk with
      | zero =>
        obtain rfl : i = n := by omega
        have HL : Hid (i + tot t i ≤ 1048576) := hle
        go_wp2
        go_ret
        exact ⟨.inr ⟨rfl, HL.out⟩, rfl⟩
      | succ g =>
        have hi : i < n := by omega
        have hi1 : (i : Int) < (n : Int) := by omega
        obtain ⟨c0, c1, c2, c3, c4, c5, c6, hf1, hf2, hf3, p1, p2, p3, p4, l1, l2, l3⟩ := hT i hi
        have HT : Hid _ := hT
        obtain ⟨T, hTe⟩ : ∃ T, tot t i = T := ⟨_, rfl⟩
        rw [hTe] at hle ⊢
        have HTE : Hid (tot t i = T) := hTe
        clear hT hTe c0 c1 c2 c3 hf1 hf2 hf3 p1 p2 p3 p4
        go_wp2
        iterate 6
          · go_ret
            exact ⟨.inl rfl, rfl⟩
        go_roundg g
        case measure => omega
        case rel =>
          refine ⟨i + 1, by omega, by go_num, ?_, ?_, rfl⟩
          · rw [tot, HTE.out]; go_num
          · rw [tot, HTE.out]; omega
end Go.Proofs.Qxb6600017a
