/-
  THE WALKS: ascendingNonneg, allAscendingNonneg, subsetSorted.
-/
import Derived.Test.Qxb6600159aE2
namespace Go.Proofs.Qxb6600159a
open Go.RowKit Plain
set_option linter.unusedSimpArgs false

def AscPost (w : World) (xs : List Int) (e : Ending) (w' : World) : Prop := ∃ r : Bool, e = .returned (.bool r) ∧ Below w.heap.size w w' ∧ (r = true → Asc xs)
theorem asc_no {w w' : World} (h : Below w.heap.size w w') (xs : List Int) : AscPost w xs (.returned (.bool false)) w' := ⟨false, rfl, h, fun h => by cases h⟩
theorem below_drewN {B : Nat} {w w' : World} (h : Below B w w') (q : Nat) : Below B w (w'.drewN q) := h.trans ⟨rfl, rfl, rfl, Nat.le_refl _, fun _ _ => rfl⟩
theorem asc_snoc {xs : List Int} {i : Nat} {v : Int} (h : Asc (xs.take i)) (hv : xs[i]? = some v) (h0 : 0 ≤ v) (hp : ∀ u, 0 < i → xs[i - 1]? = some u → u < v) : Asc (xs.take (i + 1)) := by
  have hi : i < xs.length := (List.getElem?_eq_some_iff.1 hv).1
  have e : xs.take (i + 1) = xs.take i ++ [v] := by
    rw [List.take_add_one, hv]; rfl
  rw [e]
  refine ⟨?_, fun x hx => ?_⟩
  · rw [List.pairwise_append]
    refine ⟨h.1, List.pairwise_singleton _ _, fun a ha b hb => ?_⟩
    simp at hb
    subst hb
    obtain ⟨k, hk⟩ := List.getElem?_of_mem ha
    have hki : k < i := by
      have := (List.getElem?_eq_some_iff.1 hk).1
      simp at this; omega
    have hlast := hp (xs[i - 1]'(by omega)) (by omega) (List.getElem?_eq_getElem (by omega))
    by_cases e : k = i - 1
    · subst e
      rw [List.getElem?_take_of_lt hki, List.getElem?_eq_getElem (by omega)] at hk
      simp at hk
      omega
    · have hp' := List.pairwise_iff_getElem.1 h.1 k (i - 1) (by simp; omega) (by simp; omega) (by omega)
      have h2 : (xs.take i)[k]? = some a := hk
      rw [List.getElem?_eq_getElem (by simp; omega)] at h2
      simp at h2 hp'
      omega
  · rcases List.mem_append.1 hx with hx | hx
    · exact h.2 x hx
    · simp at hx; omega

set_option maxHeartbeats 2000000 in
set_option maxRecDepth 100000 in
theorem asc_any (s : Sl) (xs : List Int) (w : World) (hn : s.n ≤ 1048576) (hR : RdI w.heap.size w s xs) : Calls Try.prog 24 #[.slice s.a s.n s.c] w (AscPost w xs) := by
  obtain ⟨a, n, c⟩ := s
  dsimp only at hn ⊢
  have HR : Hid (RdI w.heap.size w ⟨a, n, c⟩ xs) := hR
  have HLn : Hid (n = xs.length) := hR.1
  clear hR
  go_enter Try.func24, Try.ntmps24
  go_wp2
  go_loopg [3] n (fun g s3 wx => ∃ i : Nat, i + g = n ∧ s3 = .int .i64 i ∧ Asc (xs.take i) ∧ Below w.heap.size w wx)
  case atStart => exact ⟨0, by omega, rfl, by simpa using Asc.nil, Below.refl _ _⟩
  case round =>
    obtain ⟨i, hig, rfl, hA, hb⟩ := hrel
    cases gk with
    | zero =>
      obtain rfl : n = i := by omega
      have HA : Hid (Asc xs) := by rw [HLn.out, List.take_length] at hA; exact hA
      clear hA
      go_wp2
      go_ret
      exact ⟨true, rfl, hb, fun _ => HA.out⟩
    | succ g =>
      have hi : i < n := by omega
      have hi1 : (i : Int) < (n : Int) := by omega
      obtain ⟨hl, hrg, hR⟩ := HR.out.below hb
      obtain ⟨b, o, hab, _, hc⟩ := hR (by dsimp only; omega)
      obtain rfl : a = some ⟨b, o, none⟩ := hab
      obtain ⟨v, hv⟩ : ∃ v, xs[i]? = some v := ⟨_, List.getElem?_eq_getElem (by have := HLn.out; omega)⟩
      have k0 := hc i v hv
      have HV : Hid (xs[i]? = some v) := hv
      have HA : Hid (Asc (xs.take i)) := hA
      clear hv hA hl
      by_cases hneg : v < 0
      · clear hc hrg
        go_wp2
        go_ret
        exact asc_no hb _
      · by_cases hz : i = 0
        · subst hz
          clear hc hrg
          simp only [Nat.add_zero] at k0
          go_upto_region 6 with fail
          go_quiet (fail)
          go_wp2
          go_roundg g
          case measure => omega
          case rel => exact ⟨1, by omega, by go_num, asc_snoc HA.out HV.out (by omega) (fun u h => absurd h (by omega)), below_drewN hb _⟩
        · obtain ⟨q, rfl⟩ : ∃ q, i = q + 1 := ⟨i - 1, by omega⟩
          obtain ⟨u, hu⟩ : ∃ u, xs[q]? = some u := ⟨_, List.getElem?_eq_getElem (by have := HLn.out; omega)⟩
          have k1 := hc q u hu
          have HU : Hid (xs[q]? = some u) := hu
          have hq0 : (0 : Int) < ((q + 1 : Nat) : Int) := by omega
          have hq1 : (q : Int) < (n : Int) := by omega
          have hqs : IntKind.i64.wrap (((q + 1 : Nat) : Int) - 1) = (q : Int) := by rw [IntKind.wrap_i64]; omega
          clear hc hrg hu
          by_cases hle : v ≤ u
          · go_upto_region 6 with fail
            go_quiet (fail)
            go_wp2
            go_ret
            exact asc_no (below_drewN hb _) _
          · go_upto_region 6 with fail
            go_quiet (fail)
            go_wp2
            go_roundg g
            case measure => omega
            case rel => exact ⟨q + 2, by omega, by go_num, asc_snoc HA.out HV.out (by omega) (fun u' _ h => by have := HU.out; simp at h; rw [this] at h; cases h; omega), below_drewN hb _⟩
end Go.Proofs.Qxb6600159a
