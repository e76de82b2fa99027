/-
  THE WALKS: listsBytes, totalLen, zzBytes.
-/
import Derived.Test.Qxb6600159aE0
namespace Go.Proofs.Qxb6600159a
open Go.RowKit
set_option linter.unusedSimpArgs false

theorem sumL_mono {L : Nat → Sl} {i n : Nat} (h : i ≤ n) : sumL L i ≤ sumL L n := by
  induction n with
  | zero => obtain rfl : i = 0 := by omega
            exact Nat.le_refl _
  | succ n ih =>
    by_cases e : i = n + 1
    · subst e; exact Nat.le_refl _
    · have := ih (by omega); rw [sumL]; omega
theorem sumK_mono {K : Nat → ByteArray} {i n : Nat} (h : i ≤ n) : sumK K i ≤ sumK K n := by
  induction n with
  | zero => obtain rfl : i = 0 := by omega
            exact Nat.le_refl _
  | succ n ih =>
    by_cases e : i = n + 1
    · subst e; exact Nat.le_refl _
    · have := ih (by omega); rw [sumK]; omega
set_option maxHeartbeats 2000000 in
set_option maxRecDepth 100000 in
theorem listsBytes_any (s : Sl) (L : Nat → Sl) (B : Nat) (w : World) (hn : s.n ≤ 1048576) (hs : ∀ k, k < s.n → (L k).n ≤ 1048576) (hR : RdS B w s L) : Calls Try.prog 9 #[.slice s.a s.n s.c] w (NumPost 33554432 w) := by
  obtain ⟨a, n, c⟩ := s
  dsimp only at hn hs ⊢
  have HR : Hid (RdS B w ⟨a, n, c⟩ L) := hR
  have HS : Hid (∀ k, k < n → (L k).n ≤ 1048576) := hs
  clear hR hs
  go_enter Try.func9, Try.ntmps9
  go_wp2
  go_loopg [3, 4] n (fun g s3 s4 wx => ∃ i r : Nat, i + g = n ∧ s4 = .int .i64 i ∧ s3 = .int .i64 (r : Nat) ∧ r ≤ 33554432 ∧ wx = w)
  case atStart => exact ⟨0, 24 * n, by omega, rfl, by go_num, by omega, rfl⟩
  case round =>
    obtain ⟨i, r, hig, rfl, rfl, hr, rfl⟩ := hrel
    cases gk with
    | zero =>
      obtain rfl : n = i := by omega
      by_cases hbig : 1048576 < r
      · go_wp2
        go_ret
        exact ⟨⟨1048577, rfl, by omega⟩, rfl⟩
      · go_wp2
        go_ret
        exact ⟨⟨r, rfl, by omega⟩, rfl⟩
    | succ g =>
      have hi : i < n := by omega
      have hi1 : (i : Int) < (n : Int) := by omega
      obtain ⟨b, o, hab, _, hc⟩ := HR.out (by dsimp only; omega)
      obtain rfl : a = some ⟨b, o, none⟩ := hab
      have k0 := hc i hi
      have k1 := HS.out i hi
      clear hc
      generalize L i = S at *
      by_cases hbig : 1048576 < r
      · go_wp2
        go_ret
        exact ⟨⟨1048577, rfl, by omega⟩, rfl⟩
      · go_wp2
        go_roundg g
        case measure => omega
        case rel => exact ⟨i + 1, r + 4 * S.n, by omega, by go_num, by go_num, by omega, rfl⟩

set_option maxHeartbeats 2000000 in
set_option maxRecDepth 100000 in
theorem total_any (s : Sl) (L : Nat → Sl) (B : Nat) (w : World) (hn : s.n ≤ 1048576) (hs : sumL L s.n ≤ 1048576) (hR : RdS B w s L) : Calls Try.prog 14 #[.slice s.a s.n s.c] w (fun e w' => e = .returned (.int .i64 (sumL L s.n : Nat)) ∧ w' = w) := by
  obtain ⟨a, n, c⟩ := s
  dsimp only at hn hs ⊢
  have HR : Hid (RdS B w ⟨a, n, c⟩ L) := hR
  clear hR
  go_enter Try.func14, Try.ntmps14
  go_wp2
  go_loopg [3, 4] n (fun g s3 s4 wx => ∃ i : Nat, i + g = n ∧ s4 = .int .i64 i ∧ s3 = .int .i64 (sumL L i : Nat) ∧ sumL L i ≤ 1048576 ∧ wx = w)
  case atStart => exact ⟨0, by omega, rfl, rfl, by simp [sumL], rfl⟩
  case round =>
    obtain ⟨i, hig, rfl, rfl, hr, rfl⟩ := hrel
    cases gk with
    | zero =>
      obtain rfl : n = i := by omega
      go_wp2
      go_ret
      exact ⟨rfl, rfl⟩
    | succ g =>
      have hi : i < n := by omega
      have hi1 : (i : Int) < (n : Int) := by omega
      obtain ⟨b, o, hab, _, hc⟩ := HR.out (by dsimp only; omega)
      obtain rfl : a = some ⟨b, o, none⟩ := hab
      have k0 := hc i hi
      have hle : sumL L i + (L i).n ≤ 1048576 := by
        have : sumL L (i + 1) ≤ sumL L n := sumL_mono (by omega)
        rw [sumL] at this; omega
      have HE : Hid (sumL L (i + 1) = sumL L i + (L i).n) := by rfl
      clear hc hs
      generalize sumL L i = T at *
      go_wp2
      go_roundg g
      case measure => omega
      case rel => exact ⟨i + 1, by omega, by go_num, by rw [HE.out]; go_num, by rw [HE.out]; omega, rfl⟩
end Go.Proofs.Qxb6600159a
