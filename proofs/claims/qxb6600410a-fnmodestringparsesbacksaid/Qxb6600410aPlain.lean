/-
  THE PLAIN FUNCTIONS AND LAWS: no Go in sight.
-/
namespace Go.Proofs.Qxb6600410a.Plain

/-- The letter of bit i. -/
def letter : Nat → UInt8
  | 0 => 74 | 1 => 82 | 2 => 87 | 3 => 80 | 4 => 65 | 5 => 83 | 6 => 68 | _ => 79
/-- The letters of the bits from k on, n of them. -/
def lets (m : Nat) : Nat → List UInt8
  | 0 => []
  | n + 1 => lets m n ++ (if m.testBit n then [letter n] else [])
/-- What Mode.String writes. -/
def text (m : Nat) : List UInt8 := if m = 0 then [78] else lets m 8

/-- letterIndex. -/
def idx (c : Nat) : Int :=
  if c = 74 then 0 else if c = 82 then 1 else if c = 87 then 2 else if c = 80 then 3 else if c = 65 then 4 else if c = 83 then 5 else if c = 68 then 6 else if c = 79 then 7 else -1

/-- parseLetters' loop. -/
def parse : List UInt8 → Nat → Int → Option Nat
  | [], m, _ => some m
  | c :: r, m, prev => if idx c.toNat < 0 ∨ idx c.toNat ≤ prev then none else parse r (m ||| 2 ^ (idx c.toNat).toNat) (idx c.toNat)

theorem and_bit : ∀ m, m < 256 → ∀ i, i < 8 → (m &&& 2 ^ i != 0) = m.testBit i := by decide +kernel
theorem parse_lets : ∀ m, m < 256 → parse (lets m 8) 0 (-1) = some m := by decide +kernel
theorem lets_ne : ∀ m, m < 256 → m ≠ 0 → lets m 8 ≠ [] := by decide +kernel
theorem text_ne : ∀ m, m < 256 → m ≠ 0 → text m ≠ [78] := by decide +kernel

def pop : Nat → Nat → Nat
  | 0, _ => 0
  | n + 1, x => x % 2 + pop n (x / 2)
theorem len_lets : ∀ m, m < 256 → (lets m 8).length = pop 8 m := by decide +kernel
theorem lets_nodup : ∀ m, m < 256 → (text m).Nodup := by decide +kernel
theorem pop_le : ∀ m, m < 256 → pop 8 m ≤ 8 := by decide +kernel

theorem lets_len (m n : Nat) : (lets m n).length ≤ n := by
  induction n with
  | zero => simp [lets]
  | succ n ih => simp only [lets, List.length_append]; split <;> simp <;> omega

theorem idx_bd (c : Nat) : -1 ≤ idx c ∧ idx c ≤ 7 := by
  unfold idx; repeat (split; · omega)
  omega

end Go.Proofs.Qxb6600410a.Plain
