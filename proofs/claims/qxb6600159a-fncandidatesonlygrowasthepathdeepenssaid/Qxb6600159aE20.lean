/-
  THE LISTS OUT OF THE DATA.
-/
import Derived.Test.Qxb6600159aE19
import Derived.ProofKit
import Derived.OpenShut
import Derived.ShutString
import Derived.ChangeOld
import Derived.Deep.Slices
namespace Go.Proofs.Qxb6600159a
open Go.RowKit
set_option linter.unusedSimpArgs false

theorem cells21 : Try.prog.cellsOf 21 = 1 := by kernel_rfl
theorem cells26 : Try.prog.cellsOf 26 = 1 := by kernel_rfl
theorem cells9 : Try.prog.cellsOf 9 = 1 := by kernel_rfl
theorem cell_block {w : World} {b o : Nat} {v : Value} (h : w.cell? ⟨b, o, none⟩ = some v) : b < w.heap.size := by
  by_cases hn : b < w.heap.size
  · exact hn
  · have h0 : w.heap[b]? = none := Array.getElem?_eq_none (by omega)
    unfold World.cell? at h
    dsimp only at h
    rw [h0] at h
    cases h
theorem spot0 {w : World} {a : Addr} {v : Value} (h : w.cell? (a.add 0) = some v) : a.spot = none := by
  have := World.cell?_spot h
  simpa [Addr.add] using this

section
variable {H : Type} {enc : TypeId × Value → H} {W : World} {sp : Nat → Bool} {held : Bool} {fuel : Nat}

theorem rd_ints {v : Value} {x : DataW H × List MemPlace} (h : DataW.trod enc Try.prog W 0 sp held fuel 26 [v] = some x) : ∃ (s : Sl) (xs : List Int), v = .slice s.a s.n s.c ∧ RdI W.heap.size W s xs ∧ s.n ≤ 9223372036854775807 := by
  rcases Go.Deep.open_slice1 Try.underlying26 cells21 h with ⟨h0, _⟩ | ⟨a, len, cap, m, n, V, D, Pl, h0, _, hl, hm, hmm, _, hx⟩
  · exact ⟨⟨none, 0, 0⟩, [], by simpa using h0, ⟨rfl, ⟨Nat.le_refl _, fun v hv => absurd hv (by simp)⟩, fun h => absurd h (Nat.lt_irrefl 0)⟩, by decide⟩
  · have hlm : len ≤ m := by rw [hmm]; split <;> omega
    obtain ⟨X, hX⟩ := Go.Deep.choose_lt (α := Int) (p := fun i y => W.cell? (a.add i) = some (.int .i32 y) ∧ -2147483648 ≤ y ∧ y ≤ 2147483647) (n := len) (fun k hk => by
      obtain ⟨h1, h2⟩ := hx k (Nat.lt_of_lt_of_le hk hlm)
      obtain ⟨y, e, _, b⟩ := DataW.trod_int Try.underlying21 h2
      simp [Lit.wf, IntKind.min, IntKind.max, IntKind.signed, IntKind.bits] at b
      exact ⟨y, by rw [h1]; simpa using e, b⟩)
    refine ⟨⟨some a, len, cap⟩, (List.range len).map X, by simpa using h0, ⟨by simp, ⟨hl, fun v hv => ?_⟩, fun hn => ?_⟩, ?_⟩
    · obtain ⟨k, hk, rfl⟩ := List.mem_map.1 hv
      exact (hX k (List.mem_range.1 hk)).2
    · have hs := spot0 (hX 0 hn).1
      obtain ⟨b, o, s⟩ := a
      dsimp only at hs
      subst hs
      have hc : ∀ k, k < len → W.cell? ⟨b, o + k, none⟩ = some (.int .i32 (X k)) := fun k hk => by
        have := (hX k hk).1
        rwa [Addr.add_mid] at this
      refine ⟨b, o, rfl, cell_block (hc 0 hn), fun k v hv => ?_⟩
      rw [List.getElem?_map] at hv
      by_cases hk : k < len
      · rw [List.getElem?_range hk] at hv
        simp at hv
        rw [← hv]
        exact hc k hk
      · rw [List.getElem?_eq_none (by simp; omega)] at hv
        cases hv
    · show len ≤ _
      unfold maxLen at hm
      omega

theorem rd_strs {v : Value} {x : DataW H × List MemPlace} (h : DataW.trod enc Try.prog W 0 sp held fuel 38 [v] = some x) : ∃ (s : Sl) (K : Nat → ByteArray), v = .slice s.a s.n s.c ∧ RdB W.heap.size W s K ∧ s.n ≤ 9223372036854775807 ∧ ∀ i, i < s.n → (K i).size ≤ 9223372036854775807 := by
  rcases Go.Deep.open_slice1 Try.underlying38 cells9 h with ⟨h0, _⟩ | ⟨a, len, cap, m, n, V, D, Pl, h0, _, hl, hm, hmm, _, hx⟩
  · exact ⟨⟨none, 0, 0⟩, fun _ => ⟨#[]⟩, by simpa using h0, fun h => absurd h (Nat.lt_irrefl 0), by decide, fun i h => absurd h (Nat.not_lt_zero i)⟩
  · have hlm : len ≤ m := by rw [hmm]; split <;> omega
    obtain ⟨X, hX⟩ := Go.Deep.choose_lt (α := ByteArray) (p := fun i y => W.cell? (a.add i) = some (.string y) ∧ y.size ≤ 9223372036854775807) (n := len) (fun k hk => by
      obtain ⟨h1, h2⟩ := hx k (Nat.lt_of_lt_of_le hk hlm)
      obtain ⟨y, e, _, b⟩ := DataW.trod_string Try.underlying9 h2
      unfold maxLen at b
      exact ⟨y, by rw [h1]; simpa using e, by omega⟩)
    refine ⟨⟨some a, len, cap⟩, X, by simpa using h0, fun hn => ?_, ?_, fun i hi => (hX i hi).2⟩
    · have hs := spot0 (hX 0 hn).1
      obtain ⟨b, o, s⟩ := a
      dsimp only at hs
      subst hs
      have hc : ∀ k, k < len → W.cell? ⟨b, o + k, none⟩ = some (.string (X k)) := fun k hk => by
        have := (hX k hk).1
        rwa [Addr.add_mid] at this
      exact ⟨b, o, rfl, cell_block (hc 0 hn), hc⟩
    · show len ≤ _
      unfold maxLen at hm
      omega

theorem rd_lists {v : Value} {x : DataW H × List MemPlace} (h : DataW.trod enc Try.prog W 0 sp held fuel 22 [v] = some x) : ∃ (s : Sl) (L : Nat → Sl) (f : Nat → List Int), v = .slice s.a s.n s.c ∧ RdS W.heap.size W s L ∧ (∀ k, k < s.n → RdI W.heap.size W (L k) (f k)) ∧ s.n ≤ 9223372036854775807 ∧ ∀ i, i < s.n → (L i).n ≤ 9223372036854775807 := by
  rcases Go.Deep.open_slice1 Try.underlying22 cells26 h with ⟨h0, _⟩ | ⟨a, len, cap, m, n, V, D, Pl, h0, _, hl, hm, hmm, _, hx⟩
  · exact ⟨⟨none, 0, 0⟩, fun _ => ⟨none, 0, 0⟩, fun _ => [], by simpa using h0, fun h => absurd h (Nat.lt_irrefl 0), fun i h => absurd h (Nat.not_lt_zero i), by decide, fun i h => absurd h (Nat.not_lt_zero i)⟩
  · have hlm : len ≤ m := by rw [hmm]; split <;> omega
    have inh : Inhabited (Sl × List Int) := ⟨(⟨none, 0, 0⟩, [])⟩
    obtain ⟨X, hX⟩ := Go.Deep.choose_lt (α := Sl × List Int) (p := fun i y => W.cell? (a.add i) = some (.slice y.1.a y.1.n y.1.c) ∧ RdI W.heap.size W y.1 y.2 ∧ y.1.n ≤ 9223372036854775807) (n := len) (fun k hk => by
      obtain ⟨h1, h2⟩ := hx k (Nat.lt_of_lt_of_le hk hlm)
      obtain ⟨s, xs, e, r, b⟩ := rd_ints h2
      exact ⟨(s, xs), by rw [h1, e], r, b⟩)
    refine ⟨⟨some a, len, cap⟩, fun i => (X i).1, fun i => (X i).2, by simpa using h0, fun hn => ?_, fun k hk => (hX k hk).2.1, ?_, fun i hi => (hX i hi).2.2⟩
    · have hs := spot0 (hX 0 hn).1
      obtain ⟨b, o, s⟩ := a
      dsimp only at hs
      subst hs
      have hc : ∀ k, k < len → W.cell? ⟨b, o + k, none⟩ = some (.slice (X k).1.a (X k).1.n (X k).1.c) := fun k hk => by
        have := (hX k hk).1
        rwa [Addr.add_mid] at this
      exact ⟨b, o, rfl, cell_block (hc 0 hn), hc⟩
    · show len ≤ _
      unfold maxLen at hm
      omega
theorem rd_str {s : ByteArray} {x : DataW H × List MemPlace} (h : DataW.trod enc Try.prog W 0 sp held fuel 9 [.string s] = some x) : s.size ≤ 9223372036854775807 := by
  obtain ⟨y, e, _, b⟩ := DataW.trod_string Try.underlying9 h
  simp at e
  subst e
  unfold maxLen at b
  omega
end
end Go.Proofs.Qxb6600159a
