/-
  THE WALKS: allAscendingNonneg, subsetSorted.
-/
import Derived.Test.Qxb6600159aE3
namespace Go.Proofs.Qxb6600159a
open Go.RowKit Plain
set_option linter.unusedSimpArgs false

def AllPost (w : World) (n : Nat) (f : Nat → List Int) (e : Ending) (w' : World) : Prop := ∃ r : Bool, e = .returned (.bool r) ∧ Below w.heap.size w w' ∧ (r = true → ∀ k, k < n → Asc (f k))

set_option maxHeartbeats 2000000 in
set_option maxRecDepth 100000 in
theorem allAsc_any (s : Sl) (L : Nat → Sl) (f : Nat → List Int) (w : World) (hn : s.n ≤ 1048576) (hl : ∀ k, k < s.n → (L k).n ≤ 1048576) (hS : RdS w.heap.size w s L) (hI : ∀ k, k < s.n → RdI w.heap.size w (L k) (f k)) :
    Calls Try.prog 10 #[.slice s.a s.n s.c] w (AllPost w s.n f) := by
  obtain ⟨a, n, c⟩ := s
  dsimp only at hn hl hI ⊢
  have HS : Hid (RdS w.heap.size w ⟨a, n, c⟩ L) := hS
  have HI : Hid (∀ k, k < n → RdI w.heap.size w (L k) (f k)) := hI
  have HL : Hid (∀ k, k < n → (L k).n ≤ 1048576) := hl
  clear hS hI hl
  go_enter Try.func10, Try.ntmps10
  go_wp2
  go_loopg [3] n (fun g s3 wx => ∃ i : Nat, i + g = n ∧ s3 = .int .i64 i ∧ (∀ k, k < i → Asc (f k)) ∧ Below w.heap.size w wx)
  case atStart => exact ⟨0, by omega, rfl, fun k hk => absurd hk (by omega), Below.refl _ _⟩
  case round =>
    obtain ⟨i, hig, rfl, hA, hb⟩ := hrel
    have HA : Hid (∀ k, k < i → Asc (f k)) := hA
    clear hA
    cases gk with
    | zero =>
      obtain rfl : n = i := by omega
      go_wp2
      go_ret
      exact ⟨true, rfl, hb, fun _ => HA.out⟩
    | succ g =>
      have hi : i < n := by omega
      have hi1 : (i : Int) < (n : Int) := by omega
      obtain ⟨b, o, hab, _, hc⟩ := (HS.out.below hb) (by dsimp only; omega)
      obtain rfl : a = some ⟨b, o, none⟩ := hab
      have k0 := hc i hi
      have hcall := asc_any (L i) (f i) wr (HL.out i hi) (((HI.out i hi).below hb).mono hb.size)
      have HC : Hid (Calls Try.prog 24 #[.slice (L i).a (L i).n (L i).c] wr (AscPost wr (f i))) := hcall
      clear hcall hc
      go_upto_if 15 with (go_at_call 24; refine Calls.mono HC.out ?_; rintro e w1 ⟨r, rfl, hb1, hr⟩)
      have hb' : Below w.heap.size w w1 := hb.trans (hb1.mono hb.size)
      cases r with
      | false =>
        go_wp2
        go_ret
        exact ⟨false, rfl, hb', fun h => by cases h⟩
      | true =>
        have HR : Hid (Asc (f i)) := hr (by simp)
        clear hr
        go_wp2
        go_roundg g
        case measure => omega
        case rel => exact ⟨i + 1, by omega, by go_num, fun k hk => by
          by_cases e : k = i
          · subst e; exact HR.out
          · exact HA.out k (by omega), hb'⟩

theorem asc_lt {xs : List Int} (h : Asc xs) {k q : Nat} {u v : Int} (hkq : k < q) (hk : xs[k]? = some u) (hq : xs[q]? = some v) : u < v := by
  obtain ⟨h1, rfl⟩ := List.getElem?_eq_some_iff.1 hk
  obtain ⟨h2, rfl⟩ := List.getElem?_eq_some_iff.1 hq
  exact List.pairwise_iff_getElem.1 h.1 k q h1 h2 hkq
/-- What is left of xs is in what is left of ys. -/
def SubInv (xs ys : List Int) (i j : Nat) : Prop := ∀ k v, i ≤ k → xs[k]? = some v → ∃ q, j ≤ q ∧ ys[q]? = some v
theorem SubInv.start {xs ys : List Int} (h : Sub xs ys) : SubInv xs ys 0 0 := fun k v _ hv => by
  obtain ⟨q, hq⟩ := List.getElem?_of_mem (h v (List.mem_of_getElem? hv))
  exact ⟨q, Nat.zero_le _, hq⟩
theorem SubInv.skip {xs ys : List Int} {i j : Nat} (h : SubInv xs ys i j) (hx : Asc xs) {x y : Int} (hi : xs[i]? = some x) (hj : ys[j]? = some y) (hyx : y < x) : SubInv xs ys i (j + 1) := fun k v hk hv => by
  obtain ⟨q, hq, hv'⟩ := h k v hk hv
  have hxv : x ≤ v := by
    by_cases e : k = i
    · subst e; rw [hi] at hv; cases hv; exact Int.le_refl _
    · exact Int.le_of_lt (asc_lt hx (by omega) hi hv)
  refine ⟨q, ?_, hv'⟩
  by_cases e : q = j
  · subst e; rw [hj] at hv'; cases hv'; omega
  · omega
theorem SubInv.lt {xs ys : List Int} {i j : Nat} (h : SubInv xs ys i j) {x : Int} (hi : xs[i]? = some x) : j < ys.length := by
  obtain ⟨q, hq, hv'⟩ := h i x (Nat.le_refl _) hi
  have := (List.getElem?_eq_some_iff.1 hv').1
  omega
theorem SubInv.eq {xs ys : List Int} {i j : Nat} (h : SubInv xs ys i j) (hy : Asc ys) {x y : Int} (hi : xs[i]? = some x) (hj : ys[j]? = some y) (hyx : ¬ y < x) : y = x := by
  obtain ⟨q, hq, hv'⟩ := h i x (Nat.le_refl _) hi
  by_cases e : q = j
  · subst e; rw [hj] at hv'; cases hv'; rfl
  · have := asc_lt hy (show j < q by omega) hj hv'; omega
theorem SubInv.both {xs ys : List Int} {i j : Nat} (h : SubInv xs ys i j) (hx : Asc xs) {x : Int} (hi : xs[i]? = some x) (hj : ys[j]? = some x) : SubInv xs ys (i + 1) (j + 1) := fun k v hk hv => by
  obtain ⟨q, hq, hv'⟩ := h k v (by omega) hv
  have hxv := asc_lt hx (show i < k by omega) hi hv
  refine ⟨q, ?_, hv'⟩
  by_cases e : q = j
  · subst e; rw [hj] at hv'; cases hv'; omega
  · omega

set_option maxHeartbeats 4000000 in
set_option maxRecDepth 100000 in
theorem subset_any (s t : Sl) (xs ys : List Int) (w : World) (hn : s.n ≤ 1048577) (hm : t.n ≤ 1048577) (hX : RdI w.heap.size w s xs) (hY : RdI w.heap.size w t ys) (ax : Asc xs) (ay : Asc ys) (hsub : Sub xs ys) :
    Calls Try.prog 34 #[.slice s.a s.n s.c, .slice t.a t.n t.c] w (fun e w' => e = .returned (.bool true) ∧ Below w.heap.size w w') := by
  obtain ⟨a, n, c⟩ := s
  obtain ⟨a2, m, c2⟩ := t
  dsimp only at hn hm ⊢
  have HX : Hid (RdI w.heap.size w ⟨a, n, c⟩ xs) := hX
  have HY : Hid (RdI w.heap.size w ⟨a2, m, c2⟩ ys) := hY
  have HLx : Hid (n = xs.length) := hX.1
  have HLy : Hid (m = ys.length) := hY.1
  have HS : Hid (Sub xs ys) := hsub
  have AX : Hid (Asc xs) := ax
  have AY : Hid (Asc ys) := ay
  clear hX hY hsub ax ay
  go_enter Try.func34, Try.ntmps34
  go_wp2
  go_loopg [5, 6] n (fun g s5 s6 wx => ∃ i j : Nat, i + g = n ∧ s6 = .int .i64 i ∧ s5 = .int .i64 j ∧ j ≤ m ∧ SubInv xs ys i j ∧ Below w.heap.size w wx)
  case atStart => exact ⟨0, 0, by omega, rfl, rfl, by omega, SubInv.start HS.out, Below.refl _ _⟩
  case round =>
    obtain ⟨i, j, hig, rfl, rfl, hjm, hI, hb⟩ := hrel
    cases gk with
    | zero =>
      obtain rfl : n = i := by omega
      clear hI
      go_wp2
      go_ret
      exact ⟨rfl, hb⟩
    | succ g =>
      have hi : i < n := by omega
      have hi1 : (i : Int) < (n : Int) := by omega
      obtain ⟨x, hx⟩ : ∃ x, xs[i]? = some x := ⟨_, List.getElem?_eq_getElem (by have := HLx.out; omega)⟩
      have HXi : Hid (xs[i]? = some x) := hx
      have HI : Hid (SubInv xs ys i j) := hI
      clear hI hx
      go_wp2
      go_loopg [5] (m - j) (fun g2 t5 wx => ∃ q : Nat, q + g2 = m ∧ t5 = .int .i64 q ∧ SubInv xs ys i q ∧ Below w.heap.size w wx)
      case atStart => exact ⟨j, by omega, rfl, HI.out, hb⟩
      case round =>
        obtain ⟨q, hqg, rfl, hI2, hb2⟩ := hrel
        have hq : q < m := by have h1 := hI2.lt HXi.out; have := HLy.out; omega
        cases gk with
        | zero => omega
        | succ g2 =>
          have hq1 : (q : Int) < (m : Int) := by omega
          obtain ⟨y, hy⟩ : ∃ y, ys[q]? = some y := ⟨_, List.getElem?_eq_getElem (by have := HLy.out; omega)⟩
          have HYq : Hid (ys[q]? = some y) := hy
          have HI2 : Hid (SubInv xs ys i q) := hI2
          obtain ⟨b, o, hab, _, hc⟩ := (HX.out.below hb2).2.2 (by dsimp only; omega)
          obtain rfl : a = some ⟨b, o, none⟩ := hab
          obtain ⟨b', o', hab', _, hc'⟩ := (HY.out.below hb2).2.2 (by dsimp only; omega)
          obtain rfl : a2 = some ⟨b', o', none⟩ := hab'
          have k0 := hc i x HXi.out
          have k1 := hc' q y hy
          clear hc hc' hI2 hy
          by_cases hyx : y < x
          · go_upto_region 5 with fail
            go_quiet (fail)
            go_wp2
            go_roundg g2
            case measure => omega
            case rel => exact ⟨q + 1, by omega, by go_num, HI2.out.skip AX.out HXi.out HYq.out hyx, below_drewN hb2 _⟩
          · obtain rfl : y = x := HI2.out.eq AY.out HXi.out HYq.out hyx
            have hne : ¬ ((q : Int) = (m : Int)) := by omega
            go_upto_region 5 with fail
            go_quiet (fail)
            go_upto_region 7 with fail
            go_quiet (fail)
            go_wp2
            go_roundg g
            case measure => omega
            case rel => exact ⟨i + 1, q + 1, by omega, by go_num, by go_num, by omega, HI2.out.both AX.out HXi.out HYq.out, below_drewN hb2 _⟩
end Go.Proofs.Qxb6600159a
