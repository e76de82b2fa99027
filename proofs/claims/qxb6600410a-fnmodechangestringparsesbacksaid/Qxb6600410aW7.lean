/-
  THE WALKS: parseMode, FnModeStringParsesBack.
-/
import Derived.Test.Qxb6600410aW6
namespace Go.Proofs.Qxb6600410a
open Go.RowKit

theorem Holds.toList {s : ByteArray} {l : List UInt8} (h : Holds s l) : s.toList = l := by subst h; exact ByteArray.toList_mk l
theorem text_lets {m : Nat} (h : m ≠ 0) : Plain.text m = Plain.lets m 8 := if_neg h

set_option maxHeartbeats 1000000 in
set_option maxRecDepth 100000 in
theorem mode_any (m : Nat) (hm : m < 256) (s : ByteArray) (hs : Holds s (Plain.text m)) (w : World) :
    Calls Try.prog 10 #[.string s] w (ParsePost m w) := by
  by_cases h0 : m = 0
  · subst h0
    have ht : (s.toList == [78]) = true := by rw [hs.toList]; rfl
    go_enter Try.func10, Try.ntmps10
    go_wp2
    go_ret2
    exact ⟨rfl, rfl⟩
  · have ht : (s.toList == [78]) = false := by rw [hs.toList, beq_eq_false_iff_ne]; exact Plain.text_ne m hm h0
    have hz : s.size ≤ 8 := by rw [hs.size]; exact Plain.text_le m
    have hc := letters_any s (Plain.text m) 0 s.size m (by omega) (by rw [hs.size]; omega) (by rw [text_lets h0]; exact Plain.lets_ne m hm h0) (Nat.le_refl _)
      (fun j hj hp => by rw [hs.get]; simp) (by rw [text_lets h0]; exact Plain.parse_lets m hm)
    have HC : Hid (∀ w, Calls Try.prog 19 #[.string s, .int .i64 (0 : Nat), .int .i64 (s.size : Nat)] w (ParsePost m w)) := hc
    clear hc h0
    go_enter Try.func10, Try.ntmps10
    go_wp2_with (go_at_call 19; refine (HC.out _).mono ?_; rintro e w' ⟨rfl, rfl⟩)
    go_ret2
    exact ⟨rfl, rfl⟩

set_option maxHeartbeats 1000000 in
set_option maxRecDepth 100000 in
theorem back_any (m : Nat) (hm : m < 256) (w : World) : Calls Try.prog 3 #[.int .u8 m] w (LawPost w) := by
  obtain ⟨s, hs⟩ : ∃ s : ByteArray, ⟨(Plain.text m).toArray⟩ = s := ⟨_, rfl⟩
  have hS : Holds s (Plain.text m) := hs.symm
  have HS : Hid _ := hs
  clear hs
  go_enter Try.func3, Try.ntmps3
  go_wp2_with (first
    | (go_at_call 9; refine (str_any m hm _).mono ?_; rintro e w' ⟨rfl, hb⟩; rw [HS.out])
    | (go_at_call 10; refine (mode_any m hm s hS _).mono ?_; rintro e w'' ⟨rfl, rfl⟩))
  go_ret
  exact ⟨rfl, hb⟩
end Go.Proofs.Qxb6600410a
