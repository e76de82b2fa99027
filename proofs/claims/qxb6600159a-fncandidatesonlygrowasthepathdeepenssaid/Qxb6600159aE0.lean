/-
  SHAPES; THE WALKS: zzBytes, listBytes, strBytes, stringsBytes, listsBytes, pairCount.
-/
import Derived.Test.Qxb6600159aRows
import Derived.Test.Qxb6600159aPlain
import Derived.WalkKit
import Derived.WalkSpells
import Derived.Deep.LoopGhost
import Derived.Deep.QuietTactic
import Derived.Deep.CutRange
import Derived.BigQuiet
namespace Go.Proofs.Qxb6600159a
open Go.RowKit
set_option linter.unusedSimpArgs false

/-- A slice. -/
structure Sl where
  a : Option Addr
  n : Nat
  c : Nat
/-- A slice of int32 that lies below B, with its contents. -/
def RdI (B : Nat) (w : World) (s : Sl) (xs : List Int) : Prop := s.n = xs.length ∧ (s.n ≤ s.c ∧ ∀ v ∈ xs, -2147483648 ≤ v ∧ v ≤ 2147483647) ∧ (0 < s.n → ∃ b o, s.a = some ⟨b, o, none⟩ ∧ b < B ∧ ∀ k v, xs[k]? = some v → w.cell? ⟨b, o + k, none⟩ = some (.int .i32 v))
/-- A slice of slices. -/
def RdS (B : Nat) (w : World) (s : Sl) (L : Nat → Sl) : Prop := 0 < s.n → ∃ b o, s.a = some ⟨b, o, none⟩ ∧ b < B ∧ ∀ k, k < s.n → w.cell? ⟨b, o + k, none⟩ = some (.slice (L k).a (L k).n (L k).c)
/-- A slice of strings. -/
def RdB (B : Nat) (w : World) (s : Sl) (K : Nat → ByteArray) : Prop := 0 < s.n → ∃ b o, s.a = some ⟨b, o, none⟩ ∧ b < B ∧ ∀ k, k < s.n → w.cell? ⟨b, o + k, none⟩ = some (.string (K k))
theorem RdI.below {B : Nat} {w w' : World} (hb : Below B w w') {s : Sl} {xs : List Int} (h : RdI B w s xs) : RdI B w' s xs := ⟨h.1, h.2.1, fun hn => by
  obtain ⟨b, o, e, hB, hc⟩ := h.2.2 hn
  exact ⟨b, o, e, hB, fun k v hv => by rw [hb.cell (p := ⟨b, o + k, none⟩) hB]; exact hc k v hv⟩⟩
theorem RdI.mono {B B' : Nat} {w : World} (hB : B ≤ B') {s : Sl} {xs : List Int} (h : RdI B w s xs) : RdI B' w s xs := ⟨h.1, h.2.1, fun hn => by
  obtain ⟨b, o, e, hb, hc⟩ := h.2.2 hn
  exact ⟨b, o, e, by omega, hc⟩⟩
theorem RdS.below {B : Nat} {w w' : World} (hb : Below B w w') {s : Sl} {L : Nat → Sl} (h : RdS B w s L) : RdS B w' s L := fun hn => by
  obtain ⟨b, o, e, hB, hc⟩ := h hn
  exact ⟨b, o, e, hB, fun k hk => by rw [hb.cell (p := ⟨b, o + k, none⟩) hB]; exact hc k hk⟩
theorem RdB.below {B : Nat} {w w' : World} (hb : Below B w w') {s : Sl} {K : Nat → ByteArray} (h : RdB B w s K) : RdB B w' s K := fun hn => by
  obtain ⟨b, o, e, hB, hc⟩ := h hn
  exact ⟨b, o, e, hB, fun k hk => by rw [hb.cell (p := ⟨b, o + k, none⟩) hB]; exact hc k hk⟩

def sumK (K : Nat → ByteArray) : Nat → Nat
  | 0 => 0
  | i + 1 => sumK K i + (K i).size
def sumL (L : Nat → Sl) : Nat → Nat
  | 0 => 0
  | i + 1 => sumL L i + (L i).n
theorem sumK_le {K : Nat → ByteArray} {n i : Nat} (hi : i < n) : (K i).size ≤ sumK K n := by
  induction n with
  | zero => omega
  | succ n ih =>
    rw [sumK]
    by_cases e : i = n
    · subst e; omega
    · have := ih (by omega); omega
theorem sumL_le {L : Nat → Sl} {n i : Nat} (hi : i < n) : (L i).n ≤ sumL L n := by
  induction n with
  | zero => omega
  | succ n ih =>
    rw [sumL]
    by_cases e : i = n
    · subst e; omega
    · have := ih (by omega); omega

/-- A number of at most M. -/
def NumPost (M : Nat) (w : World) (e : Ending) (w' : World) : Prop := (∃ r : Nat, e = .returned (.int .i64 r) ∧ r ≤ M) ∧ w' = w

set_option maxHeartbeats 1000000 in
theorem listBytes_any (a : Option Addr) (n c : Nat) (w : World) (hn : n ≤ 1048576) : Calls Try.prog 21 #[.slice a n c] w (NumPost 4194304 w) := by
  go_enter Try.func21, Try.ntmps21
  go_wp2
  go_ret
  exact ⟨⟨4 * n, by go_num, by omega⟩, rfl⟩
set_option maxHeartbeats 1000000 in
theorem strBytes_any (s : ByteArray) (w : World) (hn : s.size ≤ 1048576) : Calls Try.prog 23 #[.string s] w (NumPost 4194304 w) := by
  go_enter Try.func23, Try.ntmps23
  go_wp2
  go_ret
  exact ⟨⟨s.size, rfl, by omega⟩, rfl⟩
set_option maxHeartbeats 1000000 in
theorem pair_any (x y : Nat) (w : World) : Calls Try.prog 27 #[.int .i64 x, .int .i64 y] w (fun e w' => e = .returned (.int .i64 (min x y : Nat)) ∧ w' = w) := by
  by_cases h : x < y
  · have h1 : (x : Int) < (y : Int) := by omega
    go_enter Try.func27, Try.ntmps27
    go_wp2
    go_ret
    exact ⟨by rw [Nat.min_eq_left (by omega)]; rfl, rfl⟩
  · have h1 : ¬ (x : Int) < (y : Int) := by omega
    go_enter Try.func27, Try.ntmps27
    go_wp2
    go_ret
    exact ⟨by rw [Nat.min_eq_right (by omega)]; rfl, rfl⟩

set_option maxHeartbeats 2000000 in
set_option maxRecDepth 100000 in
theorem stringsBytes_any (s : Sl) (K : Nat → ByteArray) (B : Nat) (w : World) (hn : s.n ≤ 1048576) (hs : ∀ k, k < s.n → (K k).size ≤ 1048576) (hR : RdB B w s K) : Calls Try.prog 22 #[.slice s.a s.n s.c] w (NumPost 33554432 w) := by
  obtain ⟨a, n, c⟩ := s
  dsimp only at hn hs ⊢
  have HR : Hid (RdB B w ⟨a, n, c⟩ K) := hR
  have HS : Hid (∀ k, k < n → (K k).size ≤ 1048576) := hs
  clear hR hs
  go_enter Try.func22, Try.ntmps22
  go_wp2
  go_loopg [3, 4] n (fun g s3 s4 wx => ∃ i r : Nat, i + g = n ∧ s4 = .int .i64 i ∧ s3 = .int .i64 (r : Nat) ∧ r ≤ 33554432 ∧ wx = w)
  case atStart => exact ⟨0, 16 * n, by omega, rfl, by go_num, by omega, rfl⟩
  case round =>
    obtain ⟨i, r, hig, rfl, rfl, hr, rfl⟩ := hrel
    cases gk with
    | zero =>
      obtain rfl : n = i := by omega
      by_cases hbig : 1048576 < r
      · go_wp2
        go_ret
        exact ⟨⟨1048577, rfl, by omega⟩, rfl⟩
      · go_wp2
        go_ret
        exact ⟨⟨r, rfl, by omega⟩, rfl⟩
    | succ g =>
      have hi : i < n := by omega
      have hi1 : (i : Int) < (n : Int) := by omega
      obtain ⟨b, o, hab, _, hc⟩ := HR.out (by dsimp only; omega)
      obtain rfl : a = some ⟨b, o, none⟩ := hab
      have k0 := hc i hi
      have k1 := HS.out i hi
      clear hc
      generalize K i = S at *
      by_cases hbig : 1048576 < r
      · go_wp2
        go_ret
        exact ⟨⟨1048577, rfl, by omega⟩, rfl⟩
      · go_wp2
        go_roundg g
        case measure => omega
        case rel => exact ⟨i + 1, r + S.size, by omega, by go_num, by go_num, by omega, rfl⟩
end Go.Proofs.Qxb6600159a
