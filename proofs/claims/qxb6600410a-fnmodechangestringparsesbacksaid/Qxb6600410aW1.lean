/-
  THE WALKS: Mode.String, letterIndex, popcount8.
-/
import Derived.Test.Qxb6600410aRows
import Derived.Test.Qxb6600410aShelf
import Derived.Test.Qxb6600410aPlain
import Derived.WalkKit
import Derived.WalkSpells
import Derived.Deep.LoopGhost
import Derived.Deep.QuietTactic
import Derived.BigQuiet
namespace Go.Proofs.Qxb6600410a
open Go.RowKit

theorem ret_int {k : IntKind} {a b : Int} (h : a = b) : Ending.returned (.int k a) = .returned (.int k b) := by rw [h]

theorem ret_str {l l' : List UInt8} (h : l' = l) : Ending.returned (.string ⟨l.toArray⟩) = .returned (.string ⟨l'.toArray⟩) := by rw [h]
def StrPost (m : Nat) (w : World) (e : Ending) (w' : World) : Prop := e = .returned (.string ⟨(Plain.text m).toArray⟩) ∧ Below w.heap.size w w'

theorem bit_and {m i : Nat} (hm : m < 256) (hi : i < 8) : (bits .and .u8 (m : Int) (2 ^ i % 256) != 0) = m.testBit i := by
  have h2 : (2 : Nat) ^ i ≤ 2 ^ 7 := Nat.pow_le_pow_right (by decide) (by omega)
  have e : (2 : Int) ^ i = ((2 ^ i : Nat) : Int) := by simp
  have e2 : (2 : Int) ^ i % 256 = ((2 ^ i : Nat) : Int) := by
    rw [e]
    generalize (2 : Nat) ^ i = X at *
    omega
  rw [e2, u8_and_nat _ _ hm (by omega), ← Plain.and_bit m hm i hi]
  generalize m &&& 2 ^ i = x
  cases x <;> rfl
theorem table_at (i : Nat) (hi : i < 8) : ((⟨#[74, 82, 87, 80, 65, 83, 68, 79]⟩ : ByteArray)[i]'hi) = Plain.letter i := by
  match i, hi with
  | 0, _ | 1, _ | 2, _ | 3, _ | 4, _ | 5, _ | 6, _ | 7, _ => rfl
theorem cells_on {m i : Nat} (h : m.testBit i = true) (hi : i < 8) : Lib.byteCells (Plain.lets m (i + 1)) = Lib.byteCells (Plain.lets m i) ++ [.int .u8 ((⟨#[74, 82, 87, 80, 65, 83, 68, 79]⟩ : ByteArray)[i]'hi).toNat] := by
  rw [table_at i hi, Plain.lets, h, if_pos rfl]; simp [Lib.byteCells]
theorem cells_off {m i : Nat} (h : m.testBit i = false) : Lib.byteCells (Plain.lets m (i + 1)) = Lib.byteCells (Plain.lets m i) := by
  rw [Plain.lets, h]; simp
theorem cells_len (m i : Nat) : (Lib.byteCells (Plain.lets m i)).length ≤ i := by
  have := Plain.lets_len m i; simpa [Lib.byteCells] using this

set_option maxHeartbeats 1000000 in
set_option maxRecDepth 100000 in
theorem str_any (m : Nat) (hm : m < 256) (w : World) : Calls Try.prog 9 #[.int .u8 m] w (StrPost m w) := by
  by_cases h0 : m = 0
  · subst h0
    go_enter Try.func9, Try.ntmps9
    go_wp2
    go_ret
    exact ⟨rfl, Below.refl _ _⟩
  · have h0' : ((m : Int) == 0) = false := by rw [beq_eq_false_iff_ne]; omega
    have HT : Hid (Plain.text m = Plain.lets m 8) := if_neg h0
    have HB := Lib.fresh_isBuilder 43 5 w
    clear h0
    go_enter Try.func9, Try.ntmps9
    go_wp2
    go_loopg [7] 8 (fun g s7 wx => ∃ i : Nat, i + g = 8 ∧ s7 = .int .i64 i ∧ Lib.IsBuilder 43 5 w.heap.size w.heap.size (Lib.byteCells (Plain.lets m i)) wx ∧ Below w.heap.size w wx)
    case atStart => exact ⟨0, by omega, rfl, HB, (Below.refl _ _).alloc (Nat.le_refl _) _⟩
    case round =>
      clear HB
      obtain ⟨i, hig, rfl, hI, hbel⟩ := hrel
      cases gk with
      | zero =>
        obtain rfl : i = 8 := by omega
        go_wp2_with (go_at_call 18; refine (Try.Builder_String_any _ _ _ _ hI hbel.size).mono ?_; rintro e w' ⟨rfl, hb⟩)
        go_ret
        exact ⟨ret_str HT.out, hbel.trans hb⟩
      | succ g =>
        have hi : i < 8 := by omega
        have hbit := bit_and hm hi
        have hlen := cells_len m i
        cases hb : m.testBit i with
        | true =>
          rw [hb] at hbit
          have HE : Hid _ := cells_on hb hi
          clear hb
          go_wp2_with (go_at_call 17; refine (Try.Builder_WriteByte _ _ _ _ _ hI (by omega) hbel.size).mono ?_; rintro e w' ⟨rfl, hI', hb'⟩)
          go_roundg g
          case measure => omega
          case rel => exact ⟨i + 1, by omega, by go_num, by rw [HE.out]; exact .inr hI', hbel.trans hb'⟩
        | false =>
          rw [hb] at hbit
          have HE : Hid _ := cells_off hb
          clear hb
          go_wp2
          go_roundg g
          case measure => omega
          case rel => exact ⟨i + 1, by omega, by go_num, by rw [HE.out]; exact hI, hbel⟩
end Go.Proofs.Qxb6600410a
