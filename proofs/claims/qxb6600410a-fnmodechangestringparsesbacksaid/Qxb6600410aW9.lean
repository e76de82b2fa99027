/-
  THE WALKS: FnModeChangeStringParsesBack.
-/
import Derived.Test.Qxb6600410aW8
namespace Go.Proofs.Qxb6600410a
open Go.RowKit

set_option maxHeartbeats 1000000 in
set_option maxRecDepth 100000 in
theorem change_0 (s : ByteArray) (hs : Holds s []) (w : World) : Calls Try.prog 14 #[.string s] w (ChangePost 0 0 w) := by
  have hz : s.size = 0 := hs.size
  go_enter Try.func14, Try.ntmps14
  go_wp2
  go_ret3
  exact ⟨rfl, rfl⟩

theorem change_any (g l : Nat) (hg : g < 256) (hl : l < 256) (s : ByteArray) (hs : Holds s (chg g l)) (w : World) : Calls Try.prog 14 #[.string s] w (ChangePost g l w) := by
  unfold chg part1 part2 at hs
  by_cases h0 : g = 0
  · by_cases h1 : l = 0
    · rw [if_pos h0, if_pos h1] at hs
      subst h0 h1
      exact change_0 s hs w
    · rw [if_pos h0, if_neg h1] at hs
      subst h0
      exact change_r l hl h1 s hs w
  · by_cases h1 : l = 0
    · rw [if_neg h0, if_pos h1, List.append_nil] at hs
      subst h1
      exact change_l g hg h0 s hs w
    · rw [if_neg h0, if_neg h1] at hs
      exact change_b g l hg hl h0 h1 s hs w

set_option maxHeartbeats 1000000 in
set_option maxRecDepth 100000 in
theorem changeBack_any (g l : Nat) (hg : g < 256) (hl : l < 256) (w : World) : Calls Try.prog 6 #[.int .u8 g, .int .u8 l] w (LawPost w) := by
  obtain ⟨s, hs⟩ : ∃ s : ByteArray, ⟨(chg g l).toArray⟩ = s := ⟨_, rfl⟩
  have hS : Holds s (chg g l) := hs.symm
  have HS : Hid _ := hs
  clear hs
  go_enter Try.func6, Try.ntmps6
  go_wp2_with (first
    | (go_at_call 13; refine (chg_any g l hg hl _).mono ?_; rintro e w' ⟨rfl, hb⟩; rw [HS.out])
    | (go_at_call 14; refine (change_any g l hg hl s hS _).mono ?_; rintro e w'' ⟨rfl, rfl⟩))
  go_ret
  exact ⟨rfl, ((Below.refl _ _).alloc (Nat.le_refl _) _).trans (hb.mono (by simp))⟩
end Go.Proofs.Qxb6600410a
