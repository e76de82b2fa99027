/-
  THE WALKS: zzTableBytes_b1, zzTablesFit_b1, zzPeer_b1.
-/
import Derived.Test.Qxb6600017aD0
namespace Go.Proofs.Qxb6600017a
open Go.RowKit

theorem tot_le {t : Nat → ZT} {n i : Nat} (hi : i < n) : (t i).fol.n + (t i).fwd.n + (t i).bck.n ≤ tot t n := by
  induction n with
  | zero => omega
  | succ n ih =>
    rw [tot]
    by_cases e : i = n
    · subst e; omega
    · have := ih (by omega); omega
theorem tot_mono {t : Nat → ZT} {n i : Nat} (hi : i ≤ n) : tot t i ≤ tot t n := by
  induction n with
  | zero => obtain rfl : i = 0 := by omega
            exact Nat.le_refl _
  | succ n ih =>
    by_cases e : i = n + 1
    · subst e; exact Nat.le_refl _
    · have := ih (by omega); rw [tot]; omega

def BPost (w : World) (e : Ending) (w' : World) : Prop := (∃ r : Nat, e = .returned (.int .i64 (r : Nat)) ∧ r ≤ 33554432) ∧ Below w.heap.size w w'

set_option maxHeartbeats 1000000 in
set_option maxRecDepth 100000 in
theorem tbytes_any (t : ZT) (w : World) (l1 : t.fol.n ≤ 1048576) (l2 : t.fwd.n ≤ 1048576) (l3 : t.bck.n ≤ 1048576) :
    Calls Try.prog 22 #[.agg #[.int .i32 t.pre, .int .i32 t.suc, .bool t.np, .bool t.qp, .slice t.fol.a t.fol.n t.fol.c, .slice t.fwd.a t.fwd.n t.fwd.c, .slice t.bck.a t.bck.n t.bck.c]] w (BPost w) := by
  obtain ⟨f, hf⟩ : ∃ k, t.fol.n = k := ⟨_, rfl⟩
  obtain ⟨g, hg⟩ : ∃ k, t.fwd.n = k := ⟨_, rfl⟩
  obtain ⟨h, hh⟩ : ∃ k, t.bck.n = k := ⟨_, rfl⟩
  rw [hf, hg, hh]
  rw [hf] at l1
  rw [hg] at l2
  rw [hh] at l3
  clear hf hg hh
  go_enter Try.func22, Try.ntmps22
  go_wp2
  go_ret
  exact ⟨⟨96 + 4 * f + 8 * g + 8 * h, by go_num, by omega⟩, (Below.refl _ _).alloc (Nat.le_refl _) _⟩

def FitPost (w : World) (e : Ending) (w' : World) : Prop := (e = .returned (.bool false) ∨ e = .returned (.bool true)) ∧ Below w.heap.size w w'

set_option maxHeartbeats 1000000 in
set_option maxRecDepth 100000 in
theorem fit_any (b off n c : Nat) (t : Nat → ZT) (w : World) (hn : n + tot t n ≤ 1048576) (hT : Tabs w b off n t) :
    Calls Try.prog 11 #[.slice (some ⟨b, off, none⟩) n c] w (FitPost w) := by
  have HN : Hid (n + tot t n ≤ 1048576) := hn
  have hn' : n ≤ 1048576 := by omega
  clear hn
  by_cases hbig : 65536 < n
  · go_enter Try.func11, Try.ntmps11
    go_wp2
    go_ret
    exact ⟨.inl rfl, Below.refl _ _⟩
  · go_enter Try.func11, Try.ntmps11
    go_wp2
    go_loopg [3, 4] n (fun g s3 s4 wx => ∃ i r : Nat, i + g = n ∧ s4 = .int .i64 i ∧ s3 = .int .i64 (r : Nat) ∧ r ≤ 1048576 ∧ Below w.heap.size w wx)
    case atStart => exact ⟨0, 0, by omega, rfl, rfl, by omega, Below.refl _ _⟩
    case round =>
      obtain ⟨i, r, hig, rfl, rfl, hr, hb⟩ := hrel
      cases gk with
      | zero =>
        obtain rfl : i = n := by omega
        go_wp2
        go_ret
        exact ⟨.inr rfl, hb⟩
      | succ g =>
        have hi : i < n := by omega
        have hi1 : (i : Int) < (n : Int) := by omega
        obtain ⟨c0, c1, c2, c3, c4, c5, c6, hf1, hf2, hf3, p1, p2, p3, p4, l1, l2, l3⟩ := (hT i hi).below hb
        have HT : Hid _ := hT
        have hti : (t i).fol.n + (t i).fwd.n + (t i).bck.n ≤ tot t n := tot_le hi
        have hN := HN.out
        have HC : Hid (∀ w, Calls Try.prog 22 #[.agg #[.int .i32 (t i).pre, .int .i32 (t i).suc, .bool (t i).np, .bool (t i).qp, .slice (t i).fol.a (t i).fol.n (t i).fol.c, .slice (t i).fwd.a (t i).fwd.n (t i).fwd.c, .slice (t i).bck.a (t i).bck.n (t i).bck.c]] w (BPost w)) :=
          fun w => tbytes_any (t i) w (by omega) (by omega) (by omega)
        clear hT hf1 hf2 hf3 p1 p2 p3 p4 l1 l2 l3 hti hN
        go_wp2_with (go_at_call 22; refine (HC.out _).mono ?_; rintro e w1 ⟨⟨r1, rfl, hr1⟩, hb1⟩)
        · go_ret
          exact ⟨.inl rfl, hb.trans (hb1.mono hb.size)⟩
        · go_roundg g
          case measure => omega
          case rel => exact ⟨i + 1, r + r1, by omega, by go_num, by go_num, by omega, hb.trans (hb1.mono hb.size)⟩

def peerV (x : Int) : Value := .agg #[.int .u64 0, .int .u64 0, .int .u64 0, .int .i32 x]
def PeerPost (x : Int) (w : World) (e : Ending) (w' : World) : Prop := e = .returned (.agg #[.int .u64 0, .int .u64 0, .int .u64 0, .int .i32 x]) ∧ w' = w.alloc (.cells #[.int .u64 0, .int .u64 0, .int .u64 0, .int .i32 x] 47)
set_option maxHeartbeats 1000000 in
set_option maxRecDepth 100000 in
theorem peer_any (x : Int) (w : World) : Calls Try.prog 41 #[.int .i32 x] w (PeerPost x w) := by
  go_enter Try.func41, Try.ntmps41
  go_wp2
  refine bodyPost_ret (v := .agg #[.int .u64 0, .int .u64 0, .int .u64 0, .int .i32 x]) (by simp [results, Try.results41, go_sem]) rfl ⟨rfl, rfl⟩
end Go.Proofs.Qxb6600017a
