/-
  THE WALKS: popcount8; FnModeStringLengthAndDistinct.
-/
import Derived.Test.Qxb6600410aW1
namespace Go.Proofs.Qxb6600410a
open Go.RowKit

theorem pop_zero (g : Nat) : Plain.pop g 0 = 0 := by
  induction g with
  | zero => rfl
  | succ g ih => simpa [Plain.pop] using ih
theorem and1_u8 (x : Nat) (hx : x < 256) : bits .and .u8 (x : Int) 1 = ((x % 2 : Nat) : Int) := by
  rw [← Nat.and_one_is_mod]; exact u8_and_nat x 1 hx (by decide)

def PopPost (m : Nat) (w : World) (e : Ending) (w' : World) : Prop := e = .returned (.int .i64 (Plain.pop 8 m : Nat)) ∧ w' = w

set_option maxHeartbeats 1000000 in
set_option maxRecDepth 100000 in
theorem pop_any (m : Nat) (hm : m < 256) (w : World) : Calls Try.prog 11 #[.int .u8 m] w (PopPost m w) := by
  go_enter Try.func11, Try.ntmps11
  go_wp2
  go_loopg [0, 3] 8 (fun g s0 s3 wx => ∃ x n : Nat, s0 = .int .u8 x ∧ s3 = .int .i64 n ∧ x < 2 ^ g ∧ x < 256 ∧ n ≤ 256 - g ∧ g ≤ 8 ∧ n + Plain.pop g x = Plain.pop 8 m ∧ wx = w)
  case atStart => exact ⟨m, 0, rfl, rfl, hm, hm, by omega, by omega, by simp, rfl⟩
  case round =>
    obtain ⟨x, n, rfl, rfl, hx, hx', hn, hg, hp, rfl⟩ := hrel
    by_cases h0 : x = 0
    · subst h0
      rw [pop_zero] at hp
      have HP : Hid (n = Plain.pop 8 m) := hp
      clear hp hx
      go_wp2
      go_ret
      exact ⟨ret_int (by rw [← HP.out]), rfl⟩
    · cases gk with
      | zero => exact absurd hx (by simp; omega)
      | succ g =>
        have hb := and1_u8 x hx'
        have h0' : ((x : Int) != 0) = true := by simpa using h0
        have HX : Hid (x < 2 ^ (g + 1)) := hx
        have HP : Hid (n + Plain.pop (g + 1) x = Plain.pop 8 m) := hp
        clear hx hp h0
        go_wp2
        go_roundg g
        case measure => omega
        case rel =>
          refine ⟨x / 2, n + x % 2, by go_num, by go_num, ?_, by omega, by omega, by omega, ?_, rfl⟩
          · have := HX.out; rw [Nat.pow_succ] at this; omega
          · have := HP.out; rw [Plain.pop] at this; omega

def LawPost (w : World) (e : Ending) (w' : World) : Prop := e = .returned (.bool true) ∧ Below w.heap.size w w'

theorem below_drews {B : Nat} {a w : World} (h : Below B a w) (n : Nat) : Below B a (w.drewN n) := h.trans ⟨rfl, rfl, rfl, Nat.le_refl _, fun _ _ => rfl⟩
theorem size_text (l : List UInt8) : (⟨l.toArray⟩ : ByteArray).size = l.length := by simp [ByteArray.size]
theorem get_text (l : List UInt8) (i : Nat) (_h : i < (⟨l.toArray⟩ : ByteArray).size) (h' : i < l.length) : (⟨l.toArray⟩ : ByteArray)[i] = l[i] := rfl

theorem u8_ne {a b : UInt8} (h : a ≠ b) : (((a.toNat : Nat) : Int) == ((b.toNat : Nat) : Int)) = false := by
  rw [beq_eq_false_iff_ne]
  intro e
  exact h (UInt8.toNat_inj.1 (by omega))

theorem text_len {m : Nat} (hm : m < 256) : (Plain.text m).length = if m = 0 then 1 else Plain.pop 8 m := by
  unfold Plain.text
  split
  · rfl
  · exact Plain.len_lets m hm

set_option maxHeartbeats 1000000 in
set_option maxRecDepth 100000 in
theorem distinct_any (m : Nat) (hm : m < 256) (w : World) : Calls Try.prog 4 #[.int .u8 m] w (LawPost w) := by
  have hlen := text_len hm
  have hnd := Plain.lets_nodup m hm
  have hpl := Plain.pop_le m hm
  obtain ⟨s, hs⟩ : ∃ s : ByteArray, ⟨(Plain.text m).toArray⟩ = s := ⟨_, rfl⟩
  have hsz : s.size = if m = 0 then 1 else Plain.pop 8 m := by rw [← hs, size_text, hlen]
  have hdist : ∀ i j, ∀ hi : i < s.size, ∀ hj : j < s.size, i < j → s[i] ≠ s[j] := by
    subst hs
    intro i j hi hj hij e
    have hi' : i < (Plain.text m).length := by rw [size_text] at hi; exact hi
    have hj' : j < (Plain.text m).length := by rw [size_text] at hj; exact hj
    rw [get_text _ i hi hi', get_text _ j hj hj'] at e
    have := (List.getElem_inj hnd).1 e
    omega
  have HD : Hid (∀ i j, ∀ hi : i < s.size, ∀ hj : j < s.size, i < j → s[i] ≠ s[j]) := hdist
  have HS : Hid _ := hs
  have hs9 : s.size ≤ 8 := by rw [hsz]; split <;> omega
  clear hlen hnd hdist hs
  obtain ⟨k, hk⟩ : ∃ k, Plain.pop 8 m = k := ⟨_, rfl⟩
  have HK : Hid _ := hk
  have HZ : Hid (s.size = if m = 0 then 1 else k) := by rw [← hk]; exact hsz
  clear hsz hpl hk
  by_cases h0 : m = 0
  · have hne : (((s.size : Nat) : Int) != 1) = false := by rw [bne_eq_false_iff_eq, HZ.out, if_pos h0]; rfl
    have h0' : ((m : Int) == 0) = true := by rw [h0]; rfl
    clear h0
    go_enter Try.func4, Try.ntmps4
    go_wp2_with (first
      | (go_at_call 9; refine (str_any m hm _).mono ?_; rintro e w' ⟨rfl, hb⟩; rw [HS.out])
      | (go_at_call 11; refine (pop_any m hm _).mono ?_; rintro e w' ⟨rfl, rfl⟩; rw [HK.out]))
    clear h0' hne
    go_loopg [5] s.size (fun g s5 wx => ∃ i : Nat, i + g = s.size ∧ s5 = .int .i64 i ∧ Below w.heap.size w wx)
    case atStart => exact ⟨0, by omega, rfl, hb⟩
    case round =>
      clear hb
      obtain ⟨i, hig, rfl, hb⟩ := hrel
      cases gk with
      | zero =>
        obtain rfl : i = s.size := by omega
        go_wp2
        go_ret
        exact ⟨rfl, hb⟩
      | succ gi =>
        have hi : i < s.size := by omega
        go_wp2
        go_loopg [6] (s.size - (i + 1)) (fun g s6 wx => ∃ j : Nat, j + g = s.size ∧ i < j ∧ s6 = .int .i64 j ∧ Below w.heap.size w wx)
        case atStart => exact ⟨i + 1, by omega, by omega, by go_num, hb⟩
        case round =>
          clear hb
          obtain ⟨j, hjg, hij, rfl, hb⟩ := hrel
          cases gk with
          | zero =>
            obtain rfl : j = s.size := by omega
            go_wp2
            go_roundg gi
            case measure => omega
            case rel => exact ⟨i + 1, by omega, by go_num, hb⟩
          | succ gj =>
            have hj : j < s.size := by omega
            have hi1 : (i : Int) < (s.size : Int) := by omega
            have hj1 : (j : Int) < (s.size : Int) := by omega
            have hd := u8_ne (HD.out i j hi hj hij)
            go_wp2
            go_quiet (fail)
            go_wp2
            go_roundg gj
            case measure => omega
            case rel => exact ⟨j + 1, by omega, by omega, by go_num, below_drews hb _⟩
  · have hne : (((s.size : Nat) : Int) != (k : Int)) = false := by rw [bne_eq_false_iff_eq, HZ.out, if_neg h0]
    have h0' : ((m : Int) == 0) = false := by rw [beq_eq_false_iff_ne]; omega
    clear h0
    go_enter Try.func4, Try.ntmps4
    go_wp2_with (first
      | (go_at_call 9; refine (str_any m hm _).mono ?_; rintro e w' ⟨rfl, hb⟩; rw [HS.out])
      | (go_at_call 11; refine (pop_any m hm _).mono ?_; rintro e w' ⟨rfl, rfl⟩; rw [HK.out]))
    clear h0' hne
    go_loopg [5] s.size (fun g s5 wx => ∃ i : Nat, i + g = s.size ∧ s5 = .int .i64 i ∧ Below w.heap.size w wx)
    case atStart => exact ⟨0, by omega, rfl, hb⟩
    case round =>
      clear hb
      obtain ⟨i, hig, rfl, hb⟩ := hrel
      cases gk with
      | zero =>
        obtain rfl : i = s.size := by omega
        go_wp2
        go_ret
        exact ⟨rfl, hb⟩
      | succ gi =>
        have hi : i < s.size := by omega
        go_wp2
        go_loopg [6] (s.size - (i + 1)) (fun g s6 wx => ∃ j : Nat, j + g = s.size ∧ i < j ∧ s6 = .int .i64 j ∧ Below w.heap.size w wx)
        case atStart => exact ⟨i + 1, by omega, by omega, by go_num, hb⟩
        case round =>
          clear hb
          obtain ⟨j, hjg, hij, rfl, hb⟩ := hrel
          cases gk with
          | zero =>
            obtain rfl : j = s.size := by omega
            go_wp2
            go_roundg gi
            case measure => omega
            case rel => exact ⟨i + 1, by omega, by go_num, hb⟩
          | succ gj =>
            have hj : j < s.size := by omega
            have hi1 : (i : Int) < (s.size : Int) := by omega
            have hj1 : (j : Int) < (s.size : Int) := by omega
            have hd := u8_ne (HD.out i j hi hj hij)
            go_wp2
            go_quiet (fail)
            go_wp2
            go_roundg gj
            case measure => omega
            case rel => exact ⟨j + 1, by omega, by omega, by go_num, below_drews hb _⟩
end Go.Proofs.Qxb6600410a
