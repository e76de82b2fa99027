/-
  THE WALKS: ZZNext, ZZCandidatesOf, drain.
-/
import Derived.Test.Qxb6600159aE14
namespace Go.Proofs.Qxb6600159a
open Go.RowKit Plain Go.Maps Go.WideMaps
set_option linter.unusedSimpArgs false

set_option maxHeartbeats 1000000 in
set_option maxRecDepth 100000 in
theorem zznext_any (C g N Bc : Nat) (sm : Sl) (Ls : Nat → Sl) (f : Nat → List Int) (w : World) (h : Dr w C g N sm Ls) (hN : N ≤ 2097152) (hR : ∀ k, k < N → RdI Bc w (Ls k) (f k) ∧ Asc (f k)) (hB : Bc < C) :
    Calls Try.prog 19 #[.pointer (some ⟨C, 0, none⟩)] w (NxPost w C g N Bc sm Ls f) := by
  have HC : Hid (Calls Try.prog 41 #[.pointer (some ⟨C, 0, none⟩)] w (NxPost w C g N Bc sm Ls f)) := next_any C g N Bc sm Ls f w h hN hR hB
  clear h hR
  go_enter Try.func19, Try.ntmps19
  go_wp2_with (go_at_call 41; refine Calls.mono HC.out ?_; rintro e w1 ⟨hF, (⟨hl, rfl, hD⟩ | ⟨hl, rfl, hD⟩)⟩)
  · go_ret2
    exact ⟨hF, .inl ⟨hl, rfl, hD⟩⟩
  · go_ret2
    exact ⟨hF, .inr ⟨hl, rfl, hD⟩⟩

set_option maxHeartbeats 1000000 in
set_option maxRecDepth 100000 in
theorem zzcand_any (Hb C B Bc np : Nat) (pm : Option Nat) (sA : Sl) (A : List Int) (K : Nat → ByteArray) (L L0 : Nat → Sl) (f : Nat → List Int) (p : ByteArray) (w : World) (hH : Host w Hb C pm sA K L np) (hC : Bc ≤ C) (h0 : Cand w C B 0 L0) (hA : RdI Bc w sA A) (aA : Asc A)
    (hL : ∀ j, j < np → RdI Bc w (L j) (f j) ∧ Asc (f j)) (hp : p.size ≤ 2097150) :
    Calls Try.prog 30 #[.pointer (some ⟨Hb, 0, none⟩), .pointer (some ⟨C, 0, none⟩), .string p] w (CdPost w C B Bc np A K f p) := by
  have HC : Hid (Calls Try.prog 42 #[.pointer (some ⟨Hb, 0, none⟩), .pointer (some ⟨C, 0, none⟩), .string p] w (CdPost w C B Bc np A K f p)) := cand_any Hb C B Bc np pm sA A K L L0 f p w hH hC h0 hA aA hL hp
  clear hH h0 hA hL
  go_enter Try.func30, Try.ntmps30
  go_wp2_with (go_at_call 42; refine Calls.mono HC.out ?_; rintro e w1 ⟨rfl, hP⟩)
  go_end0
  exact ⟨rfl, hP⟩
end Go.Proofs.Qxb6600159a
