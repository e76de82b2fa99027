/-
  THE PLAIN LAW: the merge of ascending lists. No Go in sight.
-/
import Derived.KernelRfl
namespace Go.Proofs.Qxb6600159a.Plain

/-- Strictly ascending, none below 0. -/
def Asc (xs : List Int) : Prop := xs.Pairwise (· < ·) ∧ ∀ x ∈ xs, 0 ≤ x
theorem Asc.nil : Asc [] := ⟨List.Pairwise.nil, fun _ h => absurd h (by simp)⟩
theorem Asc.tail {x : Int} {xs : List Int} (h : Asc (x :: xs)) : Asc xs := ⟨(List.pairwise_cons.1 h.1).2, fun y hy => h.2 y (by simp [hy])⟩
theorem Asc.head {x : Int} {xs : List Int} (h : Asc (x :: xs)) : ∀ y ∈ xs, x < y := (List.pairwise_cons.1 h.1).1

/-- The first N lists hold v. -/
def Mem (f : Nat → List Int) (N : Nat) (v : Int) : Prop := ∃ k, k < N ∧ v ∈ f k
def sum (f : Nat → List Int) : Nat → Nat
  | 0 => 0
  | N + 1 => sum f N + (f N).length
/-- The least head of the first N lists; -1: they are all empty. -/
def least (f : Nat → List Int) : Nat → Int
  | 0 => -1
  | N + 1 => match f N with
    | [] => least f N
    | x :: _ => if least f N < 0 ∨ x < least f N then x else least f N
def drop1 (m : Int) : List Int → List Int
  | [] => []
  | x :: r => if x = m then r else x :: r

theorem least_ge (f : Nat → List Int) (N : Nat) (h : ∀ k, k < N → Asc (f k)) : -1 ≤ least f N := by
  induction N with
  | zero => simp [least]
  | succ N ih =>
    have := ih (fun k hk => h k (by omega))
    unfold least
    have hN := h N (by omega)
    split
    · exact this
    · rename_i x r e
      have hx : 0 ≤ x := hN.2 x (by rw [e]; simp)
      split <;> omega
theorem least_none {f : Nat → List Int} {N : Nat} (h : ∀ k, k < N → Asc (f k)) (hl : least f N < 0) : ∀ k, k < N → f k = [] := by
  induction N with
  | zero => intro k hk; omega
  | succ N ih =>
    unfold least at hl
    have hN := h N (by omega)
    split at hl
    · rename_i e
      intro k hk
      by_cases hkN : k = N
      · subst hkN; exact e
      · exact ih (fun k hk => h k (by omega)) hl k (by omega)
    · rename_i x r e
      have hx : 0 ≤ x := hN.2 x (by rw [e]; simp)
      split at hl <;> omega
theorem least_le {f : Nat → List Int} {N : Nat} (h : ∀ k, k < N → Asc (f k)) : ∀ k, k < N → ∀ v ∈ f k, least f N ≤ v := by
  induction N with
  | zero => intro k hk; omega
  | succ N ih =>
    have ih' := ih (fun k hk => h k (by omega))
    have hN := h N (by omega)
    intro k hk v hv
    unfold least
    split
    · rename_i e
      by_cases hkN : k = N
      · subst hkN; rw [e] at hv; simp at hv
      · exact ih' k (by omega) v hv
    · rename_i x r e
      by_cases hkN : k = N
      · subst hkN
        rw [e] at hv hN
        have hxv : x ≤ v := by
          rcases List.mem_cons.1 hv with rfl | hv
          · exact Int.le_refl _
          · have := hN.head v hv; omega
        split <;> omega
      · have h1 := ih' k (by omega) v hv
        have h0 := (h k (by omega)).2 v hv
        split
        · rename_i hc
          rcases hc with hc | hc
          · have := least_none (fun k hk => h k (by omega)) hc k (by omega)
            rw [this] at hv; simp at hv
          · omega
        · exact h1
theorem least_head {f : Nat → List Int} {N : Nat} (hl : 0 ≤ least f N) : ∃ k, k < N ∧ ∃ r, f k = least f N :: r := by
  induction N with
  | zero => simp [least] at hl
  | succ N ih =>
    cases e : f N with
    | nil =>
      have h1 : least f (N + 1) = least f N := by simp [least, e]
      rw [h1] at hl ⊢
      obtain ⟨k, hk, r, hr⟩ := ih hl
      exact ⟨k, by omega, r, hr⟩
    | cons x r =>
      by_cases hc : least f N < 0 ∨ x < least f N
      · have h1 : least f (N + 1) = x := by simp [least, e, hc]
        rw [h1]
        exact ⟨N, by omega, r, e⟩
      · have h1 : least f (N + 1) = least f N := by simp only [least, e, if_neg hc]
        rw [h1] at hl ⊢
        obtain ⟨k, hk, r', hr⟩ := ih hl
        exact ⟨k, by omega, r', hr⟩

theorem drop1_asc {m : Int} {xs : List Int} (h : Asc xs) : Asc (drop1 m xs) := by
  unfold drop1
  split
  · exact Asc.nil
  · split
    · exact h.tail
    · exact h
theorem drop1_mem {m v : Int} {xs : List Int} (h : v ∈ drop1 m xs) : v ∈ xs := by
  unfold drop1 at h
  split at h
  · exact h
  · split at h
    · simp [h]
    · exact h
theorem mem_drop1 {m v : Int} {xs : List Int} (h : v ∈ xs) : v = m ∨ v ∈ drop1 m xs := by
  unfold drop1
  split
  · exact .inr h
  · split
    · rename_i e
      rcases List.mem_cons.1 h with rfl | h
      · exact .inl e
      · exact .inr h
    · exact .inr h
theorem drop1_gt {m v : Int} {xs : List Int} (ha : Asc xs) (hm : ∀ y ∈ xs, m ≤ y) (h : v ∈ drop1 m xs) : m < v := by
  unfold drop1 at h
  split at h
  · simp at h
  · rename_i x r
    split at h
    · rename_i e
      subst e
      exact ha.head v h
    · rename_i e
      have hx := hm x (by simp)
      rcases List.mem_cons.1 h with rfl | h
      · omega
      · have := ha.head v h; omega
theorem drop1_len (m : Int) (xs : List Int) : (drop1 m xs).length ≤ xs.length := by
  unfold drop1
  split
  · exact Nat.le_refl _
  · split <;> simp
theorem sum_drop {f : Nat → List Int} {m : Int} (N : Nat) : sum (fun k => drop1 m (f k)) N ≤ sum f N := by
  induction N with
  | zero => exact Nat.le_refl _
  | succ N ih => have := drop1_len m (f N); simp only [sum]; omega
theorem sum_drop_lt {f : Nat → List Int} {m : Int} {N k : Nat} (hk : k < N) {r : List Int} (hr : f k = m :: r) : sum (fun k => drop1 m (f k)) N + 1 ≤ sum f N := by
  induction N with
  | zero => omega
  | succ N ih =>
    simp only [sum]
    by_cases e : k = N
    · subst e
      have h1 := sum_drop (f := f) (m := m) k
      have h2 : (drop1 m (f k)).length + 1 = (f k).length := by rw [hr]; simp [drop1]
      omega
    · have := ih (by omega)
      have h2 := drop1_len m (f N)
      omega

/-- ONE STEP OF THE MERGE. -/
theorem step {f : Nat → List Int} {N : Nat} (h : ∀ k, k < N → Asc (f k)) (hl : 0 ≤ least f N) :
    (∀ k, k < N → Asc (drop1 (least f N) (f k))) ∧ (∀ v, Mem f N v ↔ v = least f N ∨ Mem (fun k => drop1 (least f N) (f k)) N v) ∧
    (∀ v, Mem (fun k => drop1 (least f N) (f k)) N v → least f N < v) ∧ sum (fun k => drop1 (least f N) (f k)) N + 1 ≤ sum f N := by
  obtain ⟨k0, hk0, r0, hr0⟩ := least_head hl
  refine ⟨fun k hk => drop1_asc (h k hk), fun v => ⟨fun ⟨k, hk, hv⟩ => ?_, fun hv => ?_⟩, fun v ⟨k, hk, hv⟩ => drop1_gt (h k hk) (least_le h k hk) hv, sum_drop_lt hk0 hr0⟩
  · rcases mem_drop1 (m := least f N) hv with e | e
    · exact .inl e
    · exact .inr ⟨k, hk, e⟩
  · rcases hv with rfl | ⟨k, hk, hv⟩
    · exact ⟨k0, hk0, by rw [hr0]; simp⟩
    · exact ⟨k, hk, drop1_mem hv⟩

/-- What a drain has given out, and what is left. -/
structure Drained (f0 : Nat → List Int) (N : Nat) (out : List Int) (f : Nat → List Int) : Prop where
  asc : ∀ k, k < N → Asc (f k)
  oasc : Asc out
  lt : ∀ u ∈ out, ∀ v, Mem f N v → u < v
  mem : ∀ v, Mem f0 N v ↔ v ∈ out ∨ Mem f N v
  len : out.length + sum f N ≤ sum f0 N
theorem Drained.start {f : Nat → List Int} {N : Nat} (h : ∀ k, k < N → Asc (f k)) : Drained f N [] f :=
  ⟨h, Asc.nil, fun _ h => absurd h (by simp), fun v => by simp, by simp⟩
theorem Drained.next {f0 f : Nat → List Int} {N : Nat} {out : List Int} (h : Drained f0 N out f) (hl : 0 ≤ least f N) : Drained f0 N (out ++ [least f N]) (fun k => drop1 (least f N) (f k)) := by
  obtain ⟨s1, s2, s3, s4⟩ := step h.asc hl
  have hm : Mem f N (least f N) := (s2 _).2 (.inl rfl)
  refine ⟨s1, ⟨?_, ?_⟩, ?_, ?_, ?_⟩
  · rw [List.pairwise_append]
    exact ⟨h.oasc.1, List.pairwise_singleton _ _, fun a ha b hb => by simp at hb; subst hb; exact h.lt a ha _ hm⟩
  · intro x hx
    rcases List.mem_append.1 hx with hx | hx
    · exact h.oasc.2 x hx
    · simp at hx; omega
  · intro u hu v hv
    rcases List.mem_append.1 hu with hu | hu
    · exact h.lt u hu v ((s2 v).2 (.inr hv))
    · simp at hu; subst hu; exact s3 v hv
  · intro v
    rw [h.mem v, s2 v]
    simp
    constructor
    · rintro (h | h | h)
      · exact .inl (.inl h)
      · exact .inl (.inr h)
      · exact .inr h
    · rintro ((h | h) | h)
      · exact .inl h
      · exact .inr (.inl h)
      · exact .inr (.inr h)
  · have := h.len
    simp
    omega
theorem Drained.done {f0 f : Nat → List Int} {N : Nat} {out : List Int} (h : Drained f0 N out f) (hl : least f N < 0) : ∀ v, Mem f0 N v ↔ v ∈ out := fun v => by
  rw [h.mem v]
  refine ⟨fun h' => h'.elim id fun ⟨k, hk, hv⟩ => ?_, .inl⟩
  rw [least_none h.asc hl k hk] at hv
  simp at hv

/-- Every element of xs is in ys. -/
def Sub (xs ys : List Int) : Prop := ∀ v ∈ xs, v ∈ ys
end Go.Proofs.Qxb6600159a.Plain
