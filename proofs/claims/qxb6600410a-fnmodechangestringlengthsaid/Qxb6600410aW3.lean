/-
  THE WALKS: isSubsequence; FnModeStringSubsetIsSubsequence.
-/
import Derived.Test.Qxb6600410aW2
import Derived.Test.Qxb6600410aPlain2
namespace Go.Proofs.Qxb6600410a
open Go.RowKit

theorem u8_eq {a b : UInt8} (h : a = b) : (((a.toNat : Nat) : Int) == ((b.toNat : Nat) : Int)) = true := by subst h; simp

/-- The string's bytes as a list. -/
def Holds (s : ByteArray) (l : List UInt8) : Prop := s = ⟨l.toArray⟩
theorem Holds.size {s : ByteArray} {l : List UInt8} (h : Holds s l) : s.size = l.length := by subst h; exact size_text l
theorem Holds.get {s : ByteArray} {l : List UInt8} (h : Holds s l) (i : Nat) (hi : i < s.size) : s[i] = l[i]'(by rw [← h.size]; exact hi) := by subst h; rfl

def SubPost (w : World) (e : Ending) (w' : World) : Prop := e = .returned (.bool true) ∧ ∃ n, w' = w.drewN n

set_option maxHeartbeats 1000000 in
set_option maxRecDepth 100000 in
theorem sub_any (a b : ByteArray) (la lb : List UInt8) (ha : Holds a la) (hb : Holds b lb) (hla : a.size ≤ 8) (hlb : b.size ≤ 8) (hs : la.Sublist lb) (w : World) :
    Calls Try.prog 12 #[.string a, .string b] w (SubPost w) := by
  have HS : Hid ((la.drop 0).Sublist (lb.drop 0)) := hs
  clear hs
  go_enter Try.func12, Try.ntmps12
  go_wp2
  go_loopg [5, 6] b.size (fun g s5 s6 wx => ∃ i j n : Nat, i + g = b.size ∧ j ≤ a.size ∧ s5 = .int .i64 j ∧ s6 = .int .i64 i ∧ (la.drop j).Sublist (lb.drop i) ∧ wx = w.drewN n)
  case atStart => exact ⟨0, 0, 0, by omega, by omega, rfl, rfl, HS.out, rfl⟩
  case round =>
    clear HS
    obtain ⟨i, j, n, hig, hja, rfl, rfl, hsub, rfl⟩ := hrel
    have HS : Hid ((la.drop j).Sublist (lb.drop i)) := hsub
    clear hsub
    by_cases hj : j < a.size
    · cases gk with
      | zero =>
        exfalso
        have h1 := Plain.step_end (by rw [← hb.size]; omega) HS.out
        rw [← ha.size] at h1
        omega
      | succ g =>
        have hi : i < b.size := by omega
        have hi1 : (i : Int) < (b.size : Int) := by omega
        have hj1 : (j : Int) < (a.size : Int) := by omega
        by_cases he : b[i] = a[j]
        · have hd := u8_eq he
          have HS' : Hid ((la.drop (j + 1)).Sublist (lb.drop (i + 1))) := Plain.step_eq (by rw [← ha.size]; exact hj) (by rw [← hb.size]; exact hi) HS.out (by rw [← ha.get j hj, ← hb.get i hi]; exact he)
          clear he HS
          go_wp2
          go_quiet (fail)
          go_wp2
          go_roundg g
          case measure => omega
          case rel => exact ⟨i + 1, j + 1, _, by omega, by omega, by go_num, by go_num, HS'.out, rfl⟩
        · have hd := u8_ne he
          have HS' : Hid ((la.drop j).Sublist (lb.drop (i + 1))) := Plain.step_ne (by rw [← ha.size]; exact hj) (by rw [← hb.size]; exact hi) HS.out (by rw [← ha.get j hj, ← hb.get i hi]; exact he)
          clear he HS
          go_wp2
          go_quiet (fail)
          go_wp2
          go_roundg g
          case measure => omega
          case rel => exact ⟨i + 1, j, _, by omega, by omega, by go_num, by go_num, HS'.out, rfl⟩
    · obtain rfl : j = a.size := by omega
      go_wp2
      all_goals go_ret
      all_goals exact ⟨rfl, _, rfl⟩

set_option maxHeartbeats 1000000 in
set_option maxRecDepth 100000 in
theorem subset_any (a b : Nat) (ha : a < 256) (hb : b < 256) (w : World) : Calls Try.prog 5 #[.int .u8 a, .int .u8 b] w (LawPost w) := by
  have hn := u8_andNot_nat a b ha hb
  by_cases h1 : a &&& (255 - b) = 0
  · have hn' : (bits .andNot .u8 (a : Int) (b : Int) != 0) = false := by rw [hn, h1]; rfl
    clear hn
    by_cases h0 : a = 0
    · have h0' : ((a : Int) == 0) = true := by rw [h0]; rfl
      clear h0 h1
      go_enter Try.func5, Try.ntmps5
      go_wp2
      go_ret
      exact ⟨rfl, Below.refl _ _⟩
    · have h0' : ((a : Int) == 0) = false := by rw [beq_eq_false_iff_ne]; omega
      have hsub := Plain.text_sub ha hb h1 h0
      have hl1 := Plain.text_le a
      have hl2 := Plain.text_le b
      have hlt : a ≠ b → (Plain.text a).length < (Plain.text b).length := Plain.text_lt ha hb h1 h0
      obtain ⟨sa, hsa⟩ : ∃ s : ByteArray, ⟨(Plain.text a).toArray⟩ = s := ⟨_, rfl⟩
      obtain ⟨sb, hsb⟩ : ∃ s : ByteArray, ⟨(Plain.text b).toArray⟩ = s := ⟨_, rfl⟩
      have hA : Holds sa (Plain.text a) := hsa.symm
      have hB : Holds sb (Plain.text b) := hsb.symm
      rw [← hA.size] at hl1 hlt
      rw [← hB.size] at hl2 hlt
      have HSA : Hid _ := hsa
      have HSB : Hid _ := hsb
      have HSUB : Hid _ := hsub
      clear hsa hsb hsub h0 h1
      by_cases he : a = b
      · have he' : ((a : Int) != (b : Int)) = false := by rw [he]; simp
        clear he hlt
        go_enter Try.func5, Try.ntmps5
        go_wp2_with fail
        refine (str_any a ha _).mono ?_
        rintro e w1 ⟨rfl, hb1⟩
        rw [HSA.out]
        go_wp2_with fail
        refine (str_any b hb _).mono ?_
        rintro e w2 ⟨rfl, hb2⟩
        rw [HSB.out]
        go_wp2_with (go_at_call 12; refine (sub_any sa sb _ _ hA hB hl1 hl2 HSUB.out _).mono ?_; rintro e w3 ⟨rfl, n3, rfl⟩)
        go_ret
        exact ⟨rfl, below_drews (hb1.trans (hb2.mono hb1.size)) _⟩
      · have he' : ((a : Int) != (b : Int)) = true := by rw [bne_iff_ne]; omega
        have hlt' : ¬ ((sb.size : Int) ≤ (sa.size : Int)) := by have := hlt he; omega
        clear he hlt
        go_enter Try.func5, Try.ntmps5
        go_wp2_with fail
        refine (str_any a ha _).mono ?_
        rintro e w1 ⟨rfl, hb1⟩
        rw [HSA.out]
        go_wp2_with fail
        refine (str_any b hb _).mono ?_
        rintro e w2 ⟨rfl, hb2⟩
        rw [HSB.out]
        go_wp2_with (go_at_call 12; refine (sub_any sa sb _ _ hA hB hl1 hl2 HSUB.out _).mono ?_; rintro e w3 ⟨rfl, n3, rfl⟩)
        go_ret
        exact ⟨rfl, below_drews (hb1.trans (hb2.mono hb1.size)) _⟩
  · have hn' : (bits .andNot .u8 (a : Int) (b : Int) != 0) = true := by
      rw [hn, bne_iff_ne]; intro e; exact h1 (Int.natCast_eq_zero.1 e)
    clear hn h1
    go_enter Try.func5, Try.ntmps5
    go_wp2
    go_ret
    exact ⟨rfl, Below.refl _ _⟩
end Go.Proofs.Qxb6600410a
