/-
  THE WALKS: ModeChange.String; FnModeChangeStringLength.
-/
import Derived.Test.Qxb6600410aW3
namespace Go.Proofs.Qxb6600410a
open Go.RowKit

/-- What ModeChange.String writes. -/
def part1 (g : Nat) : List UInt8 := if g = 0 then [] else 43 :: Plain.text g
def part2 (l : Nat) : List UInt8 := if l = 0 then [] else 45 :: Plain.text l
def chg (g l : Nat) : List UInt8 := part1 g ++ part2 l

def ChgPost (g l : Nat) (w : World) (e : Ending) (w' : World) : Prop := e = .returned (.string ⟨(chg g l).toArray⟩) ∧ Below w.heap.size w w'

theorem ret_s {a b : ByteArray} (h : a = b) : Ending.returned (.string a) = .returned (.string b) := by rw [h]
theorem bytes_app (x y : List UInt8) : (⟨x.toArray⟩ : ByteArray) ++ ⟨y.toArray⟩ = ⟨(x ++ y).toArray⟩ := ByteArray.mk_append_mk x y
theorem chg_two {g l : Nat} {sa sb : ByteArray} (h0 : g ≠ 0) (h1 : l ≠ 0) (ha : Holds sa (Plain.text g)) (hb : Holds sb (Plain.text l)) :
    ((⟨#[43]⟩ : ByteArray) ++ sa) ++ ((⟨#[45]⟩ : ByteArray) ++ sb) = ⟨(chg g l).toArray⟩ := by
  subst ha hb
  have e1 : (⟨#[43]⟩ : ByteArray) = ⟨([43] : List UInt8).toArray⟩ := rfl
  have e2 : (⟨#[45]⟩ : ByteArray) = ⟨([45] : List UInt8).toArray⟩ := rfl
  rw [e1, e2, bytes_app, bytes_app, bytes_app, chg, part1, part2, if_neg h0, if_neg h1]; rfl
theorem chg_left {g l : Nat} {sa : ByteArray} (h0 : g ≠ 0) (h1 : l = 0) (ha : Holds sa (Plain.text g)) : (⟨#[43]⟩ : ByteArray) ++ sa = ⟨(chg g l).toArray⟩ := by
  subst ha
  have e1 : (⟨#[43]⟩ : ByteArray) = ⟨([43] : List UInt8).toArray⟩ := rfl
  rw [e1, bytes_app, chg, part1, part2, if_neg h0, if_pos h1, List.append_nil]; rfl
theorem chg_right {g l : Nat} {sb : ByteArray} (h0 : g = 0) (h1 : l ≠ 0) (hb : Holds sb (Plain.text l)) : (⟨#[]⟩ : ByteArray) ++ ((⟨#[45]⟩ : ByteArray) ++ sb) = ⟨(chg g l).toArray⟩ := by
  subst hb
  have e1 : (⟨#[]⟩ : ByteArray) = ⟨([] : List UInt8).toArray⟩ := rfl
  have e2 : (⟨#[45]⟩ : ByteArray) = ⟨([45] : List UInt8).toArray⟩ := rfl
  rw [e1, e2, bytes_app, bytes_app, chg, part1, part2, if_pos h0, if_neg h1]; rfl
theorem size43 (s : ByteArray) (h : s.size ≤ 8) : ((⟨#[43]⟩ : ByteArray) ++ s).size ≤ 9 := by rw [ByteArray.size_append]; show 1 + s.size ≤ 9; omega
theorem size45 (s : ByteArray) (h : s.size ≤ 8) : ((⟨#[45]⟩ : ByteArray) ++ s).size ≤ 9 := by rw [ByteArray.size_append]; show 1 + s.size ≤ 9; omega

set_option maxHeartbeats 1000000 in
set_option maxRecDepth 100000 in
theorem chg_any (g l : Nat) (hg : g < 256) (hl : l < 256) (w : World) : Calls Try.prog 13 #[.agg #[.int .u8 g, .int .u8 l]] w (ChgPost g l w) := by
  have hl1 := Plain.text_le g
  have hl2 := Plain.text_le l
  obtain ⟨sa, hsa⟩ : ∃ s : ByteArray, ⟨(Plain.text g).toArray⟩ = s := ⟨_, rfl⟩
  obtain ⟨sb, hsb⟩ : ∃ s : ByteArray, ⟨(Plain.text l).toArray⟩ = s := ⟨_, rfl⟩
  have hA : Holds sa (Plain.text g) := hsa.symm
  have hB : Holds sb (Plain.text l) := hsb.symm
  rw [← hA.size] at hl1
  rw [← hB.size] at hl2
  have HSA : Hid _ := hsa
  have HSB : Hid _ := hsb
  clear hsa hsb
  have z1 := size43 sa hl1
  have z2 := size45 sb hl2
  by_cases h0 : g = 0
  · by_cases h1 : l = 0
    · have h0' : ((g : Int) != 0) = false := by rw [h0]; rfl
      have h1' : ((l : Int) != 0) = false := by rw [h1]; rfl
      have HE : Hid (chg g l = []) := by show chg g l = []; rw [chg, part1, part2, if_pos h0, if_pos h1]; rfl
      clear h0 h1
      go_enter Try.func13, Try.ntmps13
      go_wp2
      go_ret
      exact ⟨by rw [HE.out]; rfl, (Below.refl _ _).alloc (Nat.le_refl _) _⟩
    · have HE : Hid _ := chg_right h0 h1 hB
      have h0' : ((g : Int) != 0) = false := by rw [h0]; rfl
      have h1' : ((l : Int) != 0) = true := by rw [bne_iff_ne]; omega
      clear h0 h1
      go_enter Try.func13, Try.ntmps13
      go_wp2_with fail
      refine (str_any l hl _).mono ?_
      rintro e w1 ⟨rfl, hb1⟩
      rw [HSB.out]
      go_wp2
      go_ret
      exact ⟨ret_s HE.out, ((Below.refl _ _).alloc (Nat.le_refl _) _).trans (hb1.mono (by simp))⟩
  · by_cases h1 : l = 0
    · have HE : Hid _ := chg_left h0 h1 hA
      have h0' : ((g : Int) != 0) = true := by rw [bne_iff_ne]; omega
      have h1' : ((l : Int) != 0) = false := by rw [h1]; rfl
      clear h0 h1
      go_enter Try.func13, Try.ntmps13
      go_wp2_with fail
      refine (str_any g hg _).mono ?_
      rintro e w1 ⟨rfl, hb1⟩
      rw [HSA.out]
      have hc : w1.cell? ⟨w.heap.size, 1, none⟩ = some (.int .u8 (l : Nat)) := by rw [hb1.cell (by simp)]; simp
      go_wp2
      go_ret
      exact ⟨ret_s HE.out, ((Below.refl _ _).alloc (Nat.le_refl _) _).trans (hb1.mono (by simp))⟩
    · have HE : Hid _ := chg_two h0 h1 hA hB
      have h0' : ((g : Int) != 0) = true := by rw [bne_iff_ne]; omega
      have h1' : ((l : Int) != 0) = true := by rw [bne_iff_ne]; omega
      clear h0 h1
      go_enter Try.func13, Try.ntmps13
      go_wp2_with fail
      refine (str_any g hg _).mono ?_
      rintro e w1 ⟨rfl, hb1⟩
      rw [HSA.out]
      have hc : w1.cell? ⟨w.heap.size, 1, none⟩ = some (.int .u8 (l : Nat)) := by rw [hb1.cell (by simp)]; simp
      go_wp2_with fail
      refine (str_any l hl _).mono ?_
      rintro e w2 ⟨rfl, hb2⟩
      rw [HSB.out]
      go_wp2
      go_ret
      exact ⟨ret_s HE.out, (((Below.refl _ _).alloc (Nat.le_refl _) _).trans (hb1.mono (by simp))).trans (hb2.mono (by have := hb1.size; simp at this; omega))⟩
end Go.Proofs.Qxb6600410a
