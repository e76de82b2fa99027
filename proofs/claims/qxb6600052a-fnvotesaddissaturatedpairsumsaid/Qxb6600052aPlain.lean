/-
  THE PLAIN LAW: no Go in sight. Tables are functions Nat → Nat; a row's bits are read by 'Nat.testBit'.
-/
namespace Go.Proofs.Qxb6600052a.Plain

/-- The pair (a0, c0) of the old table and the pair p of s give the pair (j, c). -/
def Hit (f : Nat → Nat) (s n a0 c0 p j c : Nat) : Prop :=
  (f a0).testBit c0 = true ∧ s.testBit p = true ∧ min (a0 + p / 2) n = j ∧ min (c0 + p % 2) n = c

/-- Row a is well formed. -/
def Ok (f : Nat → Nat) (n a : Nat) : Prop := (n < a → f a = 0) ∧ (a ≤ n → f a / 2 ^ (n + 1) = 0)

def upOf (n r : Nat) : Nat := ((r * 2) ||| (r &&& 2 ^ n)) &&& (2 ^ (n + 1) - 1)

theorem lt_of_div {x k : Nat} (h : x / 2 ^ k = 0) : x < 2 ^ k := by
  have := (Nat.div_eq_zero_iff (a := x) (b := 2 ^ k)).1 h
  rcases this with h | h
  · exact absurd h (Nat.ne_of_gt (Nat.two_pow_pos k))
  · exact h

theorem bit_le {x n c : Nat} (hx : x < 2 ^ (n + 1)) (h : x.testBit c = true) : c ≤ n := by
  by_cases hc : c ≤ n
  · exact hc
  · have : x < 2 ^ c := Nat.lt_of_lt_of_le hx (Nat.pow_le_pow_right (by decide) (by omega))
    rw [Nat.testBit_lt_two_pow this] at h
    cases h

theorem dbl_bit (r c : Nat) : (r * 2).testBit c = true ↔ ∃ d, c = d + 1 ∧ r.testBit d = true := by
  cases c with
  | zero => simp [Nat.testBit_zero]
  | succ d =>
    rw [Nat.testBit_succ]
    simp

theorem up_bit {n r : Nat} (hr : r < 2 ^ (n + 1)) (c : Nat) : (upOf n r).testBit c = true ↔ ∃ c0, c0 ≤ n ∧ r.testBit c0 = true ∧ min (c0 + 1) n = c := by
  unfold upOf
  rw [Nat.testBit_and, Nat.testBit_or, Nat.testBit_and, Nat.testBit_two_pow_sub_one, Nat.testBit_two_pow]
  simp only [Bool.and_eq_true, Bool.or_eq_true, decide_eq_true_eq, dbl_bit]
  constructor
  · rintro ⟨⟨d, rfl, hd⟩ | ⟨h1, rfl⟩, h2⟩
    · exact ⟨d, by omega, hd, by omega⟩
    · exact ⟨n, by omega, h1, by omega⟩
  · rintro ⟨c0, h1, h2, h3⟩
    by_cases hc : c0 = n
    · subst hc
      exact ⟨.inr ⟨by rw [← h3]; rw [show min (c0 + 1) c0 = c0 by omega]; exact h2, by omega⟩, by omega⟩
    · exact ⟨.inl ⟨c0, by omega, h2⟩, by omega⟩

/-- What the row keeps, after p of the four pairs. -/
def stN (s r u : Nat) : Nat → Nat
  | 0 => 0
  | p + 1 => if s.testBit p = true ∧ p / 2 = 0 then stN s r u p ||| (if p % 2 = 1 then u else r) else stN s r u p
/-- What it passes up. -/
def riN (s r u : Nat) : Nat → Nat
  | 0 => 0
  | p + 1 => if s.testBit p = true ∧ ¬ p / 2 = 0 then riN s r u p ||| (if p % 2 = 1 then u else r) else riN s r u p

theorem or_ite (x y : Nat) (P : Prop) [Decidable P] (c : Nat) : (if P then x ||| y else x).testBit c = true ↔ x.testBit c = true ∨ (P ∧ y.testBit c = true) := by
  by_cases h : P <;> simp [h, Nat.testBit_or]

theorem stN_bit (s r u P c : Nat) : (stN s r u P).testBit c = true ↔ ∃ p, p < P ∧ s.testBit p = true ∧ p / 2 = 0 ∧ (if p % 2 = 1 then u else r).testBit c = true := by
  induction P with
  | zero => simp [stN]
  | succ P ih =>
    rw [stN, or_ite, ih]
    constructor
    · rintro (⟨p, h1, h2⟩ | ⟨⟨h1, h2⟩, h3⟩)
      · exact ⟨p, by omega, h2⟩
      · exact ⟨P, by omega, h1, h2, h3⟩
    · rintro ⟨p, h1, h2, h3, h4⟩
      by_cases hp : p = P
      · subst hp; exact .inr ⟨⟨h2, h3⟩, h4⟩
      · exact .inl ⟨p, by omega, h2, h3, h4⟩
theorem riN_bit (s r u P c : Nat) : (riN s r u P).testBit c = true ↔ ∃ p, p < P ∧ s.testBit p = true ∧ ¬ p / 2 = 0 ∧ (if p % 2 = 1 then u else r).testBit c = true := by
  induction P with
  | zero => simp [riN]
  | succ P ih =>
    rw [riN, or_ite, ih]
    constructor
    · rintro (⟨p, h1, h2⟩ | ⟨⟨h1, h2⟩, h3⟩)
      · exact ⟨p, by omega, h2⟩
      · exact ⟨P, by omega, h1, h2, h3⟩
    · rintro ⟨p, h1, h2, h3, h4⟩
      by_cases hp : p = P
      · subst hp; exact .inr ⟨⟨h2, h3⟩, h4⟩
      · exact .inl ⟨p, by omega, h2, h3, h4⟩

theorem pick_bit {n r : Nat} (hr : r < 2 ^ (n + 1)) (p c : Nat) : (if p % 2 = 1 then upOf n r else r).testBit c = true ↔ ∃ c0, c0 ≤ n ∧ r.testBit c0 = true ∧ min (c0 + p % 2) n = c := by
  by_cases h : p % 2 = 1
  · rw [if_pos h, h, up_bit hr]
  · rw [if_neg h, show p % 2 = 0 by omega]
    constructor
    · intro hb
      have := bit_le hr hb
      exact ⟨c, this, hb, by omega⟩
    · rintro ⟨c0, h1, h2, h3⟩
      rw [← h3, show min (c0 + 0) n = c0 by omega]; exact h2

theorem lt_two {x n : Nat} (h : ∀ c, x.testBit c = true → c ≤ n) : x < 2 ^ (n + 1) :=
  Nat.lt_pow_two_of_testBit _ fun i hi => by
    cases hb : x.testBit i with
    | false => rfl
    | true => have := h i hb; omega

theorem up_lt (n r : Nat) : upOf n r < 2 ^ (n + 1) := by
  unfold upOf
  have h : 0 < 2 ^ (n + 1) := Nat.two_pow_pos _
  exact Nat.lt_of_le_of_lt Nat.and_le_right (by omega)
theorem or_lt {x y n : Nat} (hx : x < 2 ^ n) (hy : y < 2 ^ n) : x ||| y < 2 ^ n := Nat.or_lt_two_pow hx hy
theorem stN_lt {s r u n : Nat} (hr : r < 2 ^ n) (hu : u < 2 ^ n) (P : Nat) : stN s r u P < 2 ^ n := by
  induction P with
  | zero => exact Nat.two_pow_pos _
  | succ P ih => rw [stN]; split <;> (try exact ih); exact or_lt ih (by split <;> assumption)
theorem riN_lt {s r u n : Nat} (hr : r < 2 ^ n) (hu : u < 2 ^ n) (P : Nat) : riN s r u P < 2 ^ n := by
  induction P with
  | zero => exact Nat.two_pow_pos _
  | succ P ih => rw [riN]; split <;> (try exact ih); exact or_lt ih (by split <;> assumption)

/-- Row k and above are done, the rows below stand. -/
def Inv (f : Nat → Nat) (s n k : Nat) (g : Nat → Nat) : Prop :=
  (∀ j, j < k → g j = f j) ∧ ∀ j, k ≤ j → ∀ c, (g j).testBit c = true ↔ ∃ a0, k ≤ a0 ∧ a0 ≤ n ∧ ∃ c0, c0 ≤ n ∧ ∃ p, p < 4 ∧ Hit f s n a0 c0 p j c

theorem inv_start (f : Nat → Nat) (s n : Nat) (hf : ∀ a, n < a → f a = 0) : Inv f s n (n + 1) f :=
  ⟨fun _ _ => rfl, fun j hj c => by
    rw [hf j (by omega)]
    simp only [Nat.zero_testBit, Bool.false_eq_true, false_iff]
    rintro ⟨a0, h1, h2, _⟩; omega⟩

theorem inv_lt {f : Nat → Nat} {s n k : Nat} {g : Nat → Nat} (hf : ∀ a, f a < 2 ^ (n + 1)) (h : Inv f s n k g) (j : Nat) : g j < 2 ^ (n + 1) := by
  by_cases hj : j < k
  · rw [h.1 j hj]; exact hf j
  · refine lt_two fun c hc => ?_
    obtain ⟨_, _, _, _, _, _, _, _, _, _, hc⟩ := (h.2 j (by omega) c).1 hc
    omega

/-- An empty row. -/
theorem inv_zero {f : Nat → Nat} {s n k : Nat} {g : Nat → Nat} (hk : k ≤ n) (h : Inv f s n (k + 1) g) (h0 : g k = 0) : Inv f s n k g := by
  have hk0 : f k = 0 := by rw [← h.1 k (by omega)]; exact h0
  refine ⟨fun j hj => h.1 j (by omega), fun j hj c => ?_⟩
  by_cases e : j = k
  · subst e
    rw [h0]
    simp only [Nat.zero_testBit, Bool.false_eq_true, false_iff]
    rintro ⟨a0, h1, h2, c0, h3, p, h4, h5, h6, h7, h8⟩
    by_cases e : a0 = j
    · subst e; rw [hk0] at h5; simp at h5
    · omega
  · rw [h.2 j (by omega) c]
    constructor
    · rintro ⟨a0, h1, h2, r⟩; exact ⟨a0, by omega, h2, r⟩
    · rintro ⟨a0, h1, h2, c0, h3, p, h4, h5, r⟩
      by_cases e : a0 = k
      · subst e; rw [hk0] at h5; simp at h5
      · exact ⟨a0, by omega, h2, c0, h3, p, h4, h5, r⟩

def upd (g : Nat → Nat) (k v : Nat) : Nat → Nat := fun j => if j = k then v else g j
theorem upd_same (g : Nat → Nat) (k v : Nat) : upd g k v k = v := by simp [upd]
theorem upd_other (g : Nat → Nat) (k v j : Nat) (h : j ≠ k) : upd g k v j = g j := by simp [upd, h]

/-- The topmost row. -/
theorem inv_top {f : Nat → Nat} {s n : Nat} {g : Nat → Nat} (hf : ∀ a, f a < 2 ^ (n + 1)) (h : Inv f s n (n + 1) g) :
    Inv f s n n (upd g n (stN s (g n) (upOf n (g n)) 4 ||| riN s (g n) (upOf n (g n)) 4)) := by
  have e : g n = f n := h.1 n (by omega)
  rw [e]
  refine ⟨fun j hj => by rw [upd_other _ _ _ _ (by omega)]; exact h.1 j (by omega), fun j hj c => ?_⟩
  by_cases e : j = n
  · subst e
    rw [upd_same, Nat.testBit_or, Bool.or_eq_true, stN_bit, riN_bit]
    simp only [pick_bit (hf j)]
    constructor
    · rintro (⟨p, h1, h2, h3, c0, h4, h5, h6⟩ | ⟨p, h1, h2, h3, c0, h4, h5, h6⟩)
      · exact ⟨j, by omega, by omega, c0, h4, p, h1, h5, h2, by omega, h6⟩
      · exact ⟨j, by omega, by omega, c0, h4, p, h1, h5, h2, by omega, h6⟩
    · rintro ⟨a0, h1, h2, c0, h3, p, h4, h5, h6, h7, h8⟩
      obtain rfl : a0 = j := by omega
      by_cases hp : p / 2 = 0
      · exact .inl ⟨p, h4, h6, hp, c0, h3, h5, h8⟩
      · exact .inr ⟨p, h4, h6, hp, c0, h3, h5, h8⟩
  · rw [upd_other _ _ _ _ e, h.2 j (by omega) c]
    constructor
    · rintro ⟨a0, h1, h2, _⟩; omega
    · rintro ⟨a0, h1, h2, c0, h3, p, h4, h5, h6, h7, h8⟩; omega

/-- A row below the topmost. -/
theorem inv_row {f : Nat → Nat} {s n k : Nat} {g : Nat → Nat} (hf : ∀ a, f a < 2 ^ (n + 1)) (hk : k < n) (h : Inv f s n (k + 1) g) :
    Inv f s n k (upd (upd g k (stN s (g k) (upOf n (g k)) 4)) (k + 1) (g (k + 1) ||| riN s (g k) (upOf n (g k)) 4)) := by
  have e : g k = f k := h.1 k (by omega)
  rw [e]
  refine ⟨fun j hj => by rw [upd_other _ _ _ _ (by omega), upd_other _ _ _ _ (by omega)]; exact h.1 j (by omega), fun j hj c => ?_⟩
  by_cases e1 : j = k
  · subst e1
    rw [upd_other _ _ _ _ (by omega), upd_same, stN_bit]
    simp only [pick_bit (hf j)]
    constructor
    · rintro ⟨p, h1, h2, h3, c0, h4, h5, h6⟩
      exact ⟨j, by omega, by omega, c0, h4, p, h1, h5, h2, by omega, h6⟩
    · rintro ⟨a0, h1, h2, c0, h3, p, h4, h5, h6, h7, h8⟩
      obtain rfl : a0 = j := by omega
      exact ⟨p, h4, h6, by omega, c0, h3, h5, h8⟩
  by_cases e2 : j = k + 1
  · subst e2
    rw [upd_same, Nat.testBit_or, Bool.or_eq_true, h.2 (k + 1) (by omega) c, riN_bit]
    simp only [pick_bit (hf k)]
    constructor
    · rintro (⟨a0, h1, h2, r⟩ | ⟨p, h1, h2, h3, c0, h4, h5, h6⟩)
      · exact ⟨a0, by omega, h2, r⟩
      · exact ⟨k, by omega, by omega, c0, h4, p, h1, h5, h2, by omega, h6⟩
    · rintro ⟨a0, h1, h2, c0, h3, p, h4, h5, h6, h7, h8⟩
      by_cases ea : a0 = k
      · subst ea
        exact .inr ⟨p, h4, h6, by omega, c0, h3, h5, h8⟩
      · exact .inl ⟨a0, by omega, h2, c0, h3, p, h4, h5, h6, h7, h8⟩
  · rw [upd_other _ _ _ _ e2, upd_other _ _ _ _ e1, h.2 j (by omega) c]
    constructor
    · rintro ⟨a0, h1, h2, r⟩; exact ⟨a0, by omega, h2, r⟩
    · rintro ⟨a0, h1, h2, c0, h3, p, h4, h5, h6, h7, h8⟩
      exact ⟨a0, by omega, h2, c0, h3, p, h4, h5, h6, h7, h8⟩

/-! ### The model -/
/-- Which triples have been taken before (A, C, P). -/
def Mod (f : Nat → Nat) (s n A C P : Nat) (g : Nat → Nat) : Prop :=
  ∀ j c, (g j).testBit c = true ↔ ∃ a0 c0 p, (a0 < A ∧ c0 ≤ n ∧ p < 4 ∨ a0 = A ∧ c0 < C ∧ p < 4 ∨ a0 = A ∧ c0 = C ∧ p < P) ∧ Hit f s n a0 c0 p j c

theorem mod_start (f : Nat → Nat) (s n : Nat) : Mod f s n 0 0 0 (fun _ => 0) := fun j c => by
  simp only [Nat.zero_testBit, Bool.false_eq_true, false_iff]
  rintro ⟨a0, c0, p, h, _⟩; omega

theorem mod_lt {f : Nat → Nat} {s n A C P : Nat} {g : Nat → Nat} (h : Mod f s n A C P g) (j : Nat) : g j < 2 ^ (n + 1) := by
  refine lt_two fun c hc => ?_
  obtain ⟨_, _, _, _, _, _, _, h⟩ := (h j c).1 hc
  omega

theorem mod_nextA {f : Nat → Nat} {s n A : Nat} {g : Nat → Nat} (h : Mod f s n A (n + 1) 0 g) : Mod f s n (A + 1) 0 0 g := fun j c => by
  rw [h j c]
  constructor
  · rintro ⟨a0, c0, p, h1, h2⟩; exact ⟨a0, c0, p, by omega, h2⟩
  · rintro ⟨a0, c0, p, h1, h2⟩; exact ⟨a0, c0, p, by omega, h2⟩
theorem mod_nextC {f : Nat → Nat} {s n A C : Nat} {g : Nat → Nat} (h : Mod f s n A C 4 g) : Mod f s n A (C + 1) 0 g := fun j c => by
  rw [h j c]
  constructor
  · rintro ⟨a0, c0, p, h1, h2⟩; exact ⟨a0, c0, p, by omega, h2⟩
  · rintro ⟨a0, c0, p, h1, h2⟩; exact ⟨a0, c0, p, by omega, h2⟩
theorem mod_skipC {f : Nat → Nat} {s n A C : Nat} {g : Nat → Nat} (hb : (f A).testBit C = false) (h : Mod f s n A C 0 g) : Mod f s n A (C + 1) 0 g := fun j c => by
  rw [h j c]
  constructor
  · rintro ⟨a0, c0, p, h1, h2⟩; exact ⟨a0, c0, p, by omega, h2⟩
  · rintro ⟨a0, c0, p, h1, h2⟩
    refine ⟨a0, c0, p, ?_, h2⟩
    by_cases e : a0 = A ∧ c0 = C
    · obtain ⟨rfl, rfl⟩ := e
      rw [h2.1] at hb; cases hb
    · omega
theorem mod_skipP {f : Nat → Nat} {s n A C P : Nat} {g : Nat → Nat} (hb : s.testBit P = false) (h : Mod f s n A C P g) : Mod f s n A C (P + 1) g := fun j c => by
  rw [h j c]
  constructor
  · rintro ⟨a0, c0, p, h1, h2⟩; exact ⟨a0, c0, p, by omega, h2⟩
  · rintro ⟨a0, c0, p, h1, h2⟩
    refine ⟨a0, c0, p, ?_, h2⟩
    by_cases e : p = P
    · subst e
      rw [h2.2.1] at hb; cases hb
    · omega
theorem mod_takeP {f : Nat → Nat} {s n A C P : Nat} {g : Nat → Nat} (hf : (f A).testBit C = true) (hb : s.testBit P = true) (h : Mod f s n A C P g) :
    Mod f s n A C (P + 1) (upd g (min (A + P / 2) n) (g (min (A + P / 2) n) ||| 2 ^ (min (C + P % 2) n))) := fun j c => by
  by_cases ej : j = min (A + P / 2) n
  · subst ej
    rw [upd_same, Nat.testBit_or, Bool.or_eq_true, h _ c, Nat.testBit_two_pow, decide_eq_true_eq]
    constructor
    · rintro (⟨a0, c0, p, h1, h2⟩ | h1)
      · exact ⟨a0, c0, p, by omega, h2⟩
      · exact ⟨A, C, P, by omega, hf, hb, rfl, h1⟩
    · rintro ⟨a0, c0, p, h1, h2⟩
      by_cases e : a0 = A ∧ c0 = C ∧ p = P
      · obtain ⟨rfl, rfl, rfl⟩ := e
        exact .inr h2.2.2.2
      · exact .inl ⟨a0, c0, p, by omega, h2⟩
  · rw [upd_other _ _ _ _ ej, h j c]
    constructor
    · rintro ⟨a0, c0, p, h1, h2⟩; exact ⟨a0, c0, p, by omega, h2⟩
    · rintro ⟨a0, c0, p, h1, h2⟩
      by_cases e : a0 = A ∧ c0 = C ∧ p = P
      · obtain ⟨rfl, rfl, rfl⟩ := e
        exact absurd h2.2.2.1.symm ej
      · exact ⟨a0, c0, p, by omega, h2⟩

/-- THE LAW: both tables are one. -/
theorem same {f : Nat → Nat} {s n : Nat} {g g' : Nat → Nat} (h : Inv f s n 0 g) (h' : Mod f s n (n + 1) 0 0 g') : g = g' := by
  funext j
  refine Nat.eq_of_testBit_eq fun c => ?_
  rw [Bool.eq_iff_iff, h.2 j (Nat.zero_le _) c, h' j c]
  constructor
  · rintro ⟨a0, _, h2, c0, h3, p, h4, h5⟩; exact ⟨a0, c0, p, by omega, h5⟩
  · rintro ⟨a0, c0, p, h1, h2⟩; exact ⟨a0, by omega, by omega, c0, by omega, p, by omega, h2⟩

end Go.Proofs.Qxb6600052a.Plain
