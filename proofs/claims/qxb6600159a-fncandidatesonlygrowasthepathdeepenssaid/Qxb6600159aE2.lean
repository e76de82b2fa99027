/-
  THE WALKS: zzBytes.
-/
import Derived.Test.Qxb6600159aE1
namespace Go.Proofs.Qxb6600159a
open Go.RowKit
set_option linter.unusedSimpArgs false

def ZbPost (w : World) (T : Nat) (e : Ending) (w' : World) : Prop := ∃ r : Bool, e = .returned (.bool r) ∧ w' = w ∧ (r = true → T ≤ 1048576)
theorem zb_no (w : World) (T : Nat) : ZbPost w T (.returned (.bool false)) w := ⟨false, rfl, rfl, fun h => by cases h⟩

set_option maxHeartbeats 4000000 in
set_option maxRecDepth 100000 in
theorem zz_any (sa sk sl : Sl) (K : Nat → ByteArray) (L : Nat → Sl) (p r : ByteArray) (B : Nat) (w : World) (hK : RdB B w sk K) (hL : RdS B w sl L)
    (ha : sa.n ≤ 9223372036854775807) (hk : sk.n ≤ 9223372036854775807) (hl : sl.n ≤ 9223372036854775807) (hks : ∀ i, i < sk.n → (K i).size ≤ 9223372036854775807) (hls : ∀ i, i < sl.n → (L i).n ≤ 9223372036854775807) (hp : p.size ≤ 9223372036854775807) (hr : r.size ≤ 9223372036854775807) :
    Calls Try.prog 33 #[.slice sa.a sa.n sa.c, .slice sk.a sk.n sk.c, .slice sl.a sl.n sl.c, .string p, .string r] w (ZbPost w (sa.n + sk.n + sumK K sk.n + sl.n + sumL L sl.n + p.size + r.size)) := by
  obtain ⟨aa, na, ca⟩ := sa
  obtain ⟨ak, nk, ck⟩ := sk
  obtain ⟨al, nl, cl⟩ := sl
  dsimp only at ha hk hl hks hls ⊢
  have HK : Hid (RdB B w ⟨ak, nk, ck⟩ K) := hK
  have HL : Hid (RdS B w ⟨al, nl, cl⟩ L) := hL
  have HKS : Hid (∀ i, i < nk → (K i).size ≤ 9223372036854775807) := hks
  have HLS : Hid (∀ i, i < nl → (L i).n ≤ 9223372036854775807) := hls
  clear hK hL hks hls
  go_enter Try.func33, Try.ntmps33
  go_wp2
  all_goals first | (go_ret; exact zb_no _ _) | skip
  go_loopg [11, 12] nk (fun g s11 s12 wx => ∃ i : Nat, i + g = nk ∧ s12 = .int .i64 i ∧ s11 = .int .i64 (na + nk + sumK K i : Nat) ∧ na + nk + sumK K i ≤ 1048576 ∧ wx = w)
  case atStart => exact ⟨0, by omega, rfl, by simp [sumK], by simp [sumK]; omega, rfl⟩
  case round =>
    obtain ⟨i, hig, rfl, rfl, hle, rfl⟩ := hrel
    cases gk with
    | succ g =>
      have hi : i < nk := by omega
      have hi1 : (i : Int) < (nk : Int) := by omega
      obtain ⟨b, o, hab, _, hc⟩ := HK.out (by dsimp only; omega)
      obtain rfl : ak = some ⟨b, o, none⟩ := hab
      have k0 := hc i hi
      have k1 := HKS.out i hi
      have HE : Hid (sumK K (i + 1) = sumK K i + (K i).size) := by rfl
      clear hc
      generalize sumK K i = T at *
      generalize K i = S at *
      go_wp2
      all_goals first | (go_ret; exact zb_no _ _) | skip
      go_roundg g
      case measure => omega
      case rel => exact ⟨i + 1, by omega, by go_num, by rw [HE.out]; go_num, by rw [HE.out]; omega, rfl⟩
    | zero =>
      obtain rfl : nk = i := by omega
      obtain ⟨T, hT⟩ : ∃ T, na + nk + sumK K nk = T := ⟨_, rfl⟩
      rw [hT] at hle ⊢
      have HT : Hid (na + nk + sumK K nk = T) := hT
      clear hT HK HKS
      go_wp2
      all_goals first | (go_ret; exact zb_no _ _) | skip
      go_loopg [11, 13] nl (fun g s11 s13 wx => ∃ i : Nat, i + g = nl ∧ s13 = .int .i64 i ∧ s11 = .int .i64 (T + nl + sumL L i : Nat) ∧ T + nl + sumL L i ≤ 1048576 ∧ wx = wr)
      case atStart => exact ⟨0, by omega, rfl, by simp [sumL], by simp [sumL]; omega, rfl⟩
      case round =>
        obtain ⟨i, hig, rfl, rfl, hle2, hwr⟩ := hrel
        subst hwr
        cases gk with
        | succ g =>
          have hi : i < nl := by omega
          have hi1 : (i : Int) < (nl : Int) := by omega
          obtain ⟨b, o, hab, _, hc⟩ := HL.out (by dsimp only; omega)
          obtain rfl : al = some ⟨b, o, none⟩ := hab
          have k0 := hc i hi
          have k1 := HLS.out i hi
          have HE : Hid (sumL L (i + 1) = sumL L i + (L i).n) := by rfl
          clear hc
          generalize sumL L i = U at *
          generalize L i = S at *
          go_wp2
          all_goals first | (go_ret; exact zb_no _ _) | skip
          go_roundg g
          case measure => omega
          case rel => exact ⟨i + 1, by omega, by go_num, by rw [HE.out]; go_num, by rw [HE.out]; omega, rfl⟩
        | zero =>
          obtain rfl : nl = i := by omega
          obtain ⟨U, hU⟩ : ∃ U, T + nl + sumL L nl = U := ⟨_, rfl⟩
          rw [hU] at hle2 ⊢
          have HU : Hid (T + nl + sumL L nl = U) := hU
          clear hU HL HLS
          go_wp2
          all_goals first | (go_ret; exact zb_no _ _) | skip
          go_ret
          exact ⟨true, rfl, rfl, fun _ => by have := HT.out; have := HU.out; omega⟩
end Go.Proofs.Qxb6600159a
