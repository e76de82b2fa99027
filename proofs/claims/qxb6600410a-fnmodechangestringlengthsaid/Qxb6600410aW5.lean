/-
  THE WALKS: FnModeChangeStringLength.
-/
import Derived.Test.Qxb6600410aW4
namespace Go.Proofs.Qxb6600410a
open Go.RowKit

theorem len_part1 {g : Nat} (hg : g < 256) : (part1 g).length = if g = 0 then 0 else 1 + Plain.pop 8 g := by
  unfold part1
  split
  · rfl
  · rw [List.length_cons, text_len hg, if_neg ‹_›]; omega
theorem len_part2 {g : Nat} (hg : g < 256) : (part2 g).length = if g = 0 then 0 else 1 + Plain.pop 8 g := by
  unfold part2
  split
  · rfl
  · rw [List.length_cons, text_len hg, if_neg ‹_›]; omega

theorem head_is {s : ByteArray} {l : List UInt8} (h : Holds s l) {c : UInt8} {r : List UInt8} (e : l = c :: r) : ∃ h0 : 0 < s.size, s[0] = c := by
  subst h e
  exact ⟨by simp [ByteArray.size], rfl⟩

set_option maxHeartbeats 1000000 in
set_option maxRecDepth 100000 in
theorem length_any (g l : Nat) (hg : g < 256) (hl : l < 256) (w : World) : Calls Try.prog 7 #[.int .u8 g, .int .u8 l] w (LawPost w) := by
  have hp1 := Plain.pop_le g hg
  have hp2 := Plain.pop_le l hl
  obtain ⟨s, hs⟩ : ∃ s : ByteArray, ⟨(chg g l).toArray⟩ = s := ⟨_, rfl⟩
  have hS : Holds s (chg g l) := hs.symm
  have hsz : s.size = (if g = 0 then 0 else 1 + Plain.pop 8 g) + (if l = 0 then 0 else 1 + Plain.pop 8 l) := by
    rw [hS.size, chg, List.length_append, len_part1 hg, len_part2 hl]
  obtain ⟨pg, hpg⟩ : ∃ k, Plain.pop 8 g = k := ⟨_, rfl⟩
  obtain ⟨pl, hpl⟩ : ∃ k, Plain.pop 8 l = k := ⟨_, rfl⟩
  rw [hpg] at hp1 hsz
  rw [hpl] at hp2 hsz
  have HS : Hid _ := hs
  have HPG : Hid _ := hpg
  have HPL : Hid _ := hpl
  have HZ : Hid _ := hsz
  clear hs hpg hpl hsz
  by_cases h0 : g = 0
  · by_cases h1 : l = 0
    · have hz := HZ.out
      rw [if_pos h0, if_pos h1] at hz
      have h0' : ((g : Int) != 0) = false := by rw [h0]; rfl
      have h0'' : ((g : Int) == 0) = true := by rw [h0]; rfl
      have h1' : ((l : Int) != 0) = false := by rw [h1]; rfl
      clear h0 h1
      go_enter Try.func7, Try.ntmps7
      go_wp2_with (go_at_call 13; refine (chg_any g l hg hl _).mono ?_; rintro e w' ⟨rfl, hb⟩; rw [HS.out])
      go_ret
      exact ⟨rfl, ((Below.refl _ _).alloc (Nat.le_refl _) _).trans (hb.mono (by simp))⟩
    · have hz := HZ.out
      rw [if_pos h0, if_neg h1] at hz
      obtain ⟨hs0, hc⟩ := head_is hS (c := 45) (r := Plain.text l) (by rw [chg, part1, part2, if_pos h0, if_neg h1]; rfl)
      have hc' : (((s[0].toNat : Nat) : Int) != 45) = false := by rw [hc]; rfl
      have h0' : ((g : Int) != 0) = false := by rw [h0]; rfl
      have h0'' : ((g : Int) == 0) = true := by rw [h0]; rfl
      have h1' : ((l : Int) != 0) = true := by rw [bne_iff_ne]; omega
      have hs0' : (0 : Int) < (s.size : Int) := by omega
      have hne : (((s.size : Nat) : Int) != (1 + (pl : Int))) = false := by rw [bne_eq_false_iff_eq]; omega
      clear h0 h1 hz hc
      go_enter Try.func7, Try.ntmps7
      go_wp2_with (first
        | (go_at_call 13; refine (chg_any g l hg hl _).mono ?_; rintro e w' ⟨rfl, hb⟩; rw [HS.out])
        | (go_at_call 11; refine (pop_any l hl _).mono ?_; rintro e w'' ⟨rfl, rfl⟩; rw [HPL.out]))
      go_ret
      exact ⟨rfl, ((Below.refl _ _).alloc (Nat.le_refl _) _).trans (hb.mono (by simp))⟩
  · obtain ⟨hs0, hc⟩ := head_is hS (c := 43) (r := Plain.text g ++ part2 l) (by rw [chg, part1, if_neg h0]; rfl)
    have hc' : (((s[0].toNat : Nat) : Int) != 43) = false := by rw [hc]; rfl
    have h0' : ((g : Int) != 0) = true := by rw [bne_iff_ne]; omega
    have h0'' : ((g : Int) == 0) = false := by rw [beq_eq_false_iff_ne]; omega
    have hs0' : (0 : Int) < (s.size : Int) := by omega
    by_cases h1 : l = 0
    · have hz := HZ.out
      rw [if_neg h0, if_pos h1] at hz
      have hne : (((s.size : Nat) : Int) != (1 + (pg : Int))) = false := by rw [bne_eq_false_iff_eq]; omega
      have h1' : ((l : Int) != 0) = false := by rw [h1]; rfl
      clear h0 h1 hz hc
      go_enter Try.func7, Try.ntmps7
      go_wp2_with (first
        | (go_at_call 13; refine (chg_any g l hg hl _).mono ?_; rintro e w' ⟨rfl, hb⟩; rw [HS.out])
        | (go_at_call 11; refine (pop_any g hg _).mono ?_; rintro e w'' ⟨rfl, rfl⟩; rw [HPG.out]))
      go_ret
      exact ⟨rfl, ((Below.refl _ _).alloc (Nat.le_refl _) _).trans (hb.mono (by simp))⟩
    · have hz := HZ.out
      rw [if_neg h0, if_neg h1] at hz
      have hne : (((s.size : Nat) : Int) != (1 + (pg : Int) + (1 + (pl : Int)))) = false := by rw [bne_eq_false_iff_eq]; omega
      have h1' : ((l : Int) != 0) = true := by rw [bne_iff_ne]; omega
      clear h0 h1 hz hc
      go_enter Try.func7, Try.ntmps7
      go_wp2_with fail
      refine (chg_any g l hg hl _).mono ?_
      rintro e w' ⟨rfl, hb⟩
      rw [HS.out]
      go_wp2_with fail
      refine (pop_any g hg _).mono ?_
      rintro e w'' ⟨rfl, rfl⟩
      rw [HPG.out]
      go_wp2_with fail
      refine (pop_any l hl _).mono ?_
      rintro e w'' ⟨rfl, rfl⟩
      rw [HPL.out]
      go_wp2
      go_ret
      exact ⟨rfl, ((Below.refl _ _).alloc (Nat.le_refl _) _).trans (hb.mono (by simp))⟩
end Go.Proofs.Qxb6600410a
