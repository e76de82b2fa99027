/-
  THE WALKS, second part: (*votes).add.
-/
import Derived.Test.Qxb6600052aW1
namespace Go.Proofs.Qxb6600052a
open Go.RowKit

theorem pow_small {n k : Nat} (hn : n ≤ k) : (2 : Nat) ^ n ≤ 2 ^ k := Nat.pow_le_pow_right (by decide) hn
theorem mask_eq {n : Nat} (hn : n ≤ 32) : IntKind.u64.wrap (IntKind.u64.wrap (2 ^ (n + 1)) - 1) = ((2 ^ (n + 1) - 1 : Nat) : Int) := by
  have h1 : (2 : Nat) ^ (n + 1) ≤ 2 ^ 33 := pow_small (by omega)
  have h0 : 0 < (2 : Nat) ^ (n + 1) := Nat.two_pow_pos _
  have e : (2 : Int) ^ (n + 1) = ((2 ^ (n + 1) : Nat) : Int) := by simp
  rw [e]
  generalize (2 : Nat) ^ (n + 1) = X at *
  simp only [IntKind.wrap_u64]
  omega
theorem up_eq {n r : Nat} (hn : n ≤ 32) (hr : r < 2 ^ (n + 1)) : bits .and .u64 (bits .or .u64 ((r : Int) * 2) (bits .and .u64 (r : Int) (IntKind.u64.wrap (2 ^ n)))) ((2 ^ (n + 1) - 1 : Nat) : Int) = (Plain.upOf n r : Nat) := by
  have h1 : (2 : Nat) ^ (n + 1) ≤ 2 ^ 33 := pow_small (by omega)
  have h2 : (2 : Nat) ^ n ≤ 2 ^ 32 := pow_small (by omega)
  have e : (2 : Int) ^ n = ((2 ^ n : Nat) : Int) := by simp
  have e1 : (r : Int) * 2 = ((r * 2 : Nat) : Int) := by omega
  have e2 : IntKind.u64.wrap (2 ^ n) = ((2 ^ n : Nat) : Int) := by rw [e]; simp only [IntKind.wrap_u64]; omega
  have ha : r &&& 2 ^ n ≤ r := Nat.and_le_left
  have ho : r * 2 ||| r &&& 2 ^ n < 2 ^ 64 := Nat.or_lt_two_pow (by omega) (by omega)
  rw [e1, e2, u64_and_nat _ _ (by omega) (by omega), u64_or_nat _ _ (by omega) (by omega), u64_and_nat _ _ (by omega) (by omega)]
  rfl

theorem and1_u8 (x : Nat) (hx : x < 256) : bits .and .u8 (x : Int) 1 = ((x % 2 : Nat) : Int) := by
  rw [← Nat.and_one_is_mod]; exact u8_and_nat x 1 hx (by decide)
theorem and1_i64 (x : Nat) (hx : x < 4) : bits .and .i64 (x : Int) 1 = ((x % 2 : Nat) : Int) := by
  rw [← Nat.and_one_is_mod]
  exact (bits_nat .i64 8 (by decide) (fun n h0 h1 => by rw [IntKind.wrap_i64]; omega) x 1 (by omega) (by decide)).1
theorem bit_u8 {s p : Nat} (hs : s < 256) : (bits .and .u8 ((s : Int) / 2 ^ p) 1 == 0) = !s.testBit p := by
  have hd : s / 2 ^ p ≤ s := Nat.div_le_self _ _
  rw [div_cast, and1_u8 _ (by omega), Nat.testBit_eq_decide_div_mod_eq]
  have h2 : s / 2 ^ p % 2 = 0 ∨ s / 2 ^ p % 2 = 1 := by omega
  rcases h2 with h2 | h2 <;> simp [h2]
theorem bit_off {s p : Nat} (hs : s < 256) (h : (bits .and .u8 ((s : Int) / 2 ^ p) 1 == 0) = true) : ¬ s.testBit p = true := by
  rw [bit_u8 hs] at h; simpa using h
theorem bit_on {s p : Nat} (hs : s < 256) (h : (bits .and .u8 ((s : Int) / 2 ^ p) 1 == 0) = false) : s.testBit p = true := by
  rw [bit_u8 hs] at h; simpa using h
theorem odd_on {p : Nat} (hp : p < 4) (h : (bits .and .i64 (p : Int) 1 == 1) = true) : p % 2 = 1 := by
  rw [and1_i64 p hp, beq_iff_eq] at h; omega
theorem odd_off {p : Nat} (hp : p < 4) (h : (bits .and .i64 (p : Int) 1 == 1) = false) : ¬ p % 2 = 1 := by
  rw [and1_i64 p hp, beq_eq_false_iff_ne] at h; omega
theorem hi_on {p : Nat} (h : ((p : Int) / 2 == 1) = true) : ¬ p / 2 = 0 := by
  rw [beq_iff_eq] at h; omega
theorem hi_off {p : Nat} (hp : p < 4) (h : ((p : Int) / 2 == 1) = false) : p / 2 = 0 := by
  rw [beq_eq_false_iff_ne] at h; omega
section
variable {s r u p st ri v : Nat}
theorem st0 (h : Plain.stN s r u p = st) (hb : ¬ (s.testBit p = true ∧ p / 2 = 0)) : Value.int .u64 (st : Nat) = .int .u64 (Plain.stN s r u (p + 1) : Nat) := by
  rw [Plain.stN, if_neg hb, h]
theorem ri0 (h : Plain.riN s r u p = ri) (hb : ¬ (s.testBit p = true ∧ ¬ p / 2 = 0)) : Value.int .u64 (ri : Nat) = .int .u64 (Plain.riN s r u (p + 1) : Nat) := by
  rw [Plain.riN, if_neg hb, h]
theorem st1 (h : Plain.stN s r u p = st) (hb : s.testBit p = true ∧ p / 2 = 0) (hv : (if p % 2 = 1 then u else r) = v) (h1 : st < 2 ^ 33) (h2 : v < 2 ^ 33) :
    Value.int .u64 (bits .or .u64 (st : Nat) (v : Nat)) = .int .u64 (Plain.stN s r u (p + 1) : Nat) := by
  rw [Plain.stN, if_pos hb, h, hv, u64_or_nat _ _ (by omega) (by omega)]
theorem ri1 (h : Plain.riN s r u p = ri) (hb : s.testBit p = true ∧ ¬ p / 2 = 0) (hv : (if p % 2 = 1 then u else r) = v) (h1 : ri < 2 ^ 33) (h2 : v < 2 ^ 33) :
    Value.int .u64 (bits .or .u64 (ri : Nat) (v : Nat)) = .int .u64 (Plain.riN s r u (p + 1) : Nat) := by
  rw [Plain.riN, if_pos hb, h, hv, u64_or_nat _ _ (by omega) (by omega)]
end

theorem setCell_drewN (W : World) (n : Nat) (a : Addr) (v : Value) : (W.drewN n).setCell a v = (W.setCell a v).drewN n := rfl
attribute [local go_sem] setCell_drewN

def AddPost (f : Nat → Nat) (s n : Nat) (w : World) (e : Ending) (w' : World) : Prop :=
  e = .returned (.tuple #[]) ∧ ∃ nq B g, Tab B g ∧ Plain.Inv f s n 0 g ∧ w' = (w.alloc (.cells B 35)).drewN nq

theorem top_inv {f f' : Nat → Nat} {s n r U st ri : Nat} (hf : ∀ a, f a < 2 ^ (n + 1)) (h : Plain.Inv f s n (n + 1) f') (hr : f' n = r) (hU : Plain.upOf n r = U) (hst : Plain.stN s r U 4 = st) (hri : Plain.riN s r U 4 = ri) :
    Plain.Inv f s n n (Plain.upd f' n (st ||| ri)) := by
  have := Plain.inv_top hf h
  rw [hr, hU, hst, hri] at this
  exact this
theorem row_inv {f f' : Nat → Nat} {s n k r U st ri : Nat} (hf : ∀ a, f a < 2 ^ (n + 1)) (hk : k < n) (h : Plain.Inv f s n (k + 1) f') (hr : f' k = r) (hU : Plain.upOf n r = U) (hst : Plain.stN s r U 4 = st) (hri : Plain.riN s r U 4 = ri) :
    Plain.Inv f s n k (Plain.upd (Plain.upd f' k st) (k + 1) (f' (k + 1) ||| ri)) := by
  have := Plain.inv_row hf hk h
  rw [hr, hU, hst, hri] at this
  exact this
theorem top_world {w : World} {B : Array Value} {i nq st ri : Nat} (h1 : st < 2 ^ 33) (h2 : ri < 2 ^ 33) :
    (w.alloc (.cells (B.setIfInBounds i (.int .u64 (bits .or .u64 (st : Nat) (ri : Nat)))) 35)).drewN nq = (w.alloc (.cells (B.setIfInBounds i (.int .u64 ((st ||| ri : Nat) : Int))) 35)).drewN nq := by
  rw [u64_or_nat _ _ (by omega) (by omega)]

theorem row_world {w : World} {B : Array Value} {i nq x ri n : Nat} (h1 : x < 2 ^ (n + 1)) (hn : n ≤ 32) (h2 : ri < 2 ^ 33) :
    (w.alloc (.cells (B.setIfInBounds i (.int .u64 (bits .or .u64 (x : Nat) (ri : Nat)))) 35)).drewN nq = (w.alloc (.cells (B.setIfInBounds i (.int .u64 ((x ||| ri : Nat) : Int))) 35)).drewN nq :=
  top_world (Nat.lt_of_lt_of_le h1 (pow_small (by omega))) h2

set_option maxHeartbeats 1000000 in
set_option maxRecDepth 100000 in
theorem add_any (A : Array Value) (f : Nat → Nat) (hT : Tab A f) (s n : Nat) (hn : n ≤ 32) (hs : s < 256) (hf0 : ∀ a, n < a → f a = 0) (hf : ∀ a, f a < 2 ^ (n + 1)) (w : World) :
    Calls Try.prog 20 #[.pointer (some ⟨w.heap.size, 0, none⟩), .int .u8 s, .int .i64 n] (w.alloc (.cells A 35)) (AddPost f s n w) := by
  obtain ⟨M, hM, HM⟩ : ∃ M : Nat, IntKind.u64.wrap (IntKind.u64.wrap (2 ^ (n + 1)) - 1) = (M : Int) ∧ Hid (M = 2 ^ (n + 1) - 1) := ⟨_, mask_eq hn, rfl⟩
  have HF : Hid (∀ a, f a < 2 ^ (n + 1)) := hf
  have HS := Plain.inv_start f s n hf0
  clear hf hf0
  go_enter Try.func20, Try.ntmps20
  go_wp2
  clear hM
  go_loopg [7] (n + 1) (fun g s7 wx => ∃ a : Int, a + 1 = g ∧ s7 = .int .i64 a ∧ ∃ nq B f', Tab B f' ∧ g ≤ n + 1 ∧ Plain.Inv f s n g f' ∧ wx = (w.alloc (.cells B 35)).drewN nq)
  case atStart => exact ⟨n, by omega, rfl, 0, A, f, hT, Nat.le_refl _, HS, rfl⟩
  case round =>
    clear hT HS
    obtain ⟨a, hag, rfl, nq, B, f', hT, hgn, hinv, rfl⟩ := hrel
    cases gk with
    | zero =>
      obtain rfl : a = -1 := by omega
      clear hag
      go_wp2
      go_end0
      exact ⟨rfl, nq, B, f', hT, hinv, rfl⟩
    | succ i =>
      obtain rfl : a = i := by omega
      clear hag
      have hi : i ≤ n := by omega
      have hcell := hT.get (k := i) (by omega)
      have hrl := Plain.inv_lt HF.out hinv i
      have HB : Hid (∀ j, f' j < 2 ^ (n + 1)) := Plain.inv_lt HF.out hinv
      by_cases hz : f' i = 0
      · have HI := Plain.inv_zero hi hinv hz
        have hz' : ((f' i : Int) == 0) = true := by rw [hz]; rfl
        clear hrl
        go_wp2
        go_roundg i
        case measure => omega
        case rel => exact ⟨(i : Int) - 1, by omega, rfl, nq, B, f', hT, by omega, HI, rfl⟩
      · have hz' : ((f' i : Int) == 0) = false := by rw [beq_eq_false_iff_ne]; omega
        obtain ⟨r, hr⟩ : ∃ r, f' i = r := ⟨_, rfl⟩
        obtain ⟨U, hU⟩ : ∃ U, Plain.upOf n r = U := ⟨_, rfl⟩
        have hup := up_eq hn (r := r) (by rw [← hr]; exact hrl)
        rw [hU, ← HM.out] at hup
        have hr64 : r < 2 ^ 33 := by
          have h1 : (2 : Nat) ^ (n + 1) ≤ 2 ^ 33 := pow_small (by omega)
          omega
        have hU64 : U < 2 ^ 33 := by
          have h1 : (2 : Nat) ^ (n + 1) ≤ 2 ^ 33 := pow_small (by omega)
          have := Plain.up_lt n r
          omega
        rw [hr] at hcell hz'
        have HR : Hid (f' i = r) := hr
        have HU : Hid (Plain.upOf n r = U) := hU
        clear hr hU hz hrl
        go_wp2
        go_loopg [39, 10, 11] 4 (fun g s39 s10 s11 wx => ∃ p : Nat, p + g = 4 ∧ s39 = .int .i64 p ∧ s10 = .int .u64 (Plain.stN s r U p : Nat) ∧ s11 = .int .u64 (Plain.riN s r U p : Nat) ∧ wx = (w.alloc (.cells B 35)).drewN nq)
        case atStart => exact ⟨0, by omega, rfl, rfl, rfl, rfl⟩
        case round =>
          obtain ⟨p, hpg, rfl, rfl, rfl, rfl⟩ := hrel
          have hst := Plain.stN_lt (s := s) hr64 hU64 p
          have hri := Plain.riN_lt (s := s) hr64 hU64 p
          obtain ⟨st, hste⟩ : ∃ st, Plain.stN s r U p = st := ⟨_, rfl⟩
          obtain ⟨ri, hrie⟩ : ∃ ri, Plain.riN s r U p = ri := ⟨_, rfl⟩
          rw [hste] at hst ⊢
          rw [hrie] at hri ⊢
          have HST : Hid (Plain.stN s r U p = st) := hste
          have HRI : Hid (Plain.riN s r U p = ri) := hrie
          clear hste hrie hup
          cases gk with
          | zero =>
            obtain rfl : p = 4 := by omega
            by_cases hin : i = n
            · subst hin
              go_wp2
              go_roundg i
              case measure => omega
              case rel => exact ⟨(i : Int) - 1, by omega, rfl, nq, _, _, hT.set i (st ||| ri) (by omega), by omega, top_inv HF.out hinv HR.out HU.out HST.out HRI.out, top_world hst hri⟩
            · have hin' : ((i : Int) == (n : Int)) = false := by rw [beq_eq_false_iff_ne]; omega
              have hcell' := hT.get (k := i + 1) (by omega)
              have hi1 : (i : Int) + 1 < 33 := by omega
              have hc' : (B.setIfInBounds i (.int .u64 (st : Nat)))[i + 1]? = some (.int .u64 (f' (i + 1) : Nat)) := by
                rw [Array.getElem?_setIfInBounds, if_neg (by omega)]; exact hcell'
              go_wp2
              go_region
              go_wp2
              go_roundg i
              case measure => omega
              case rel => exact ⟨(i : Int) - 1, by omega, rfl, nq + 1, _, _, (hT.set i st (by omega)).set (i + 1) (f' (i + 1) ||| ri) (by omega), by omega, row_inv HF.out (by omega) hinv HR.out HU.out HST.out HRI.out, row_world (HB.out _) hn hri⟩
          | succ g =>
            have hp4 : p < 4 := by omega
            go_wp2
            · have hb := bit_off hs ‹_›
              go_roundg g
              case measure => omega
              case rel => exact ⟨p + 1, by omega, by go_num, st0 HST.out (fun h => hb h.1), ri0 HRI.out (fun h => hb h.1), rfl⟩
            · have hb := bit_on hs ‹_›
              have ho := odd_on hp4 ‹_›
              have hh := hi_on ‹_›
              have hv : (if p % 2 = 1 then U else r) = U := if_pos ho
              go_roundg g
              case measure => omega
              case rel => exact ⟨p + 1, by omega, by go_num, st0 HST.out (fun h => hh h.2), ri1 HRI.out ⟨hb, hh⟩ hv hri hU64, rfl⟩
            · have hb := bit_on hs ‹_›
              have ho := odd_on hp4 ‹_›
              have hh := hi_off hp4 ‹_›
              have hv : (if p % 2 = 1 then U else r) = U := if_pos ho
              go_roundg g
              case measure => omega
              case rel => exact ⟨p + 1, by omega, by go_num, st1 HST.out ⟨hb, hh⟩ hv hst hU64, ri0 HRI.out (fun h => h.2 hh), rfl⟩
            · have hb := bit_on hs ‹_›
              have ho := odd_off hp4 ‹_›
              have hh := hi_on ‹_›
              have hv : (if p % 2 = 1 then U else r) = r := if_neg ho
              go_roundg g
              case measure => omega
              case rel => exact ⟨p + 1, by omega, by go_num, st0 HST.out (fun h => hh h.2), ri1 HRI.out ⟨hb, hh⟩ hv hri hr64, rfl⟩
            · have hb := bit_on hs ‹_›
              have ho := odd_off hp4 ‹_›
              have hh := hi_off hp4 ‹_›
              have hv : (if p % 2 = 1 then U else r) = r := if_neg ho
              go_roundg g
              case measure => omega
              case rel => exact ⟨p + 1, by omega, by go_num, st1 HST.out ⟨hb, hh⟩ hv hst hr64, ri0 HRI.out (fun h => h.2 hh), rfl⟩
end Go.Proofs.Qxb6600052a
