/-
  THE WALKS: letterIndex, parseLetters, parseMode, FnModeStringParsesBack.
-/
import Derived.Test.Qxb6600410aW4
namespace Go.Proofs.Qxb6600410a
open Go.RowKit

def IdxPost (c : Nat) (w : World) (e : Ending) (w' : World) : Prop := e = .returned (.int .i64 (Plain.idx c)) ∧ w' = w
theorem eqf {c k : Nat} (h : ¬ c = k) : ((c : Int) == (k : Int)) = false := by rw [beq_eq_false_iff_ne]; omega

set_option maxHeartbeats 1000000 in
set_option maxRecDepth 100000 in
theorem idx_any (c : Nat) (w : World) : Calls Try.prog 21 #[.int .u8 c] w (IdxPost c w) := by
  by_cases h0 : c = 74
  · subst h0; go_enter Try.func21, Try.ntmps21; go_wp2; go_ret; exact ⟨rfl, rfl⟩
  by_cases h1 : c = 82
  · subst h1; go_enter Try.func21, Try.ntmps21; go_wp2; go_ret; exact ⟨rfl, rfl⟩
  by_cases h2 : c = 87
  · subst h2; go_enter Try.func21, Try.ntmps21; go_wp2; go_ret; exact ⟨rfl, rfl⟩
  by_cases h3 : c = 80
  · subst h3; go_enter Try.func21, Try.ntmps21; go_wp2; go_ret; exact ⟨rfl, rfl⟩
  by_cases h4 : c = 65
  · subst h4; go_enter Try.func21, Try.ntmps21; go_wp2; go_ret; exact ⟨rfl, rfl⟩
  by_cases h5 : c = 83
  · subst h5; go_enter Try.func21, Try.ntmps21; go_wp2; go_ret; exact ⟨rfl, rfl⟩
  by_cases h6 : c = 68
  · subst h6; go_enter Try.func21, Try.ntmps21; go_wp2; go_ret; exact ⟨rfl, rfl⟩
  by_cases h7 : c = 79
  · subst h7; go_enter Try.func21, Try.ntmps21; go_wp2; go_ret; exact ⟨rfl, rfl⟩
  have HE : Hid (Plain.idx c = -1) := by show Plain.idx c = -1; simp only [Plain.idx, h0, h1, h2, h3, h4, h5, h6, h7, if_false]
  have e0 : ((c : Int) == 74) = false := eqf h0
  have e1 : ((c : Int) == 82) = false := eqf h1
  have e2 : ((c : Int) == 87) = false := eqf h2
  have e3 : ((c : Int) == 80) = false := eqf h3
  have e4 : ((c : Int) == 65) = false := eqf h4
  have e5 : ((c : Int) == 83) = false := eqf h5
  have e6 : ((c : Int) == 68) = false := eqf h6
  have e7 : ((c : Int) == 79) = false := eqf h7
  clear h0 h1 h2 h3 h4 h5 h6 h7
  go_enter Try.func21, Try.ntmps21
  go_wp2
  go_ret
  exact ⟨by rw [HE.out]; rfl, rfl⟩

theorem parse_step {c : UInt8} {r : List UInt8} {a m : Nat} {p : Int} (h : Plain.parse (c :: r) a p = some m) :
    ∃ k : Nat, Plain.idx c.toNat = k ∧ k ≤ 7 ∧ p < k ∧ Plain.parse r (a ||| 2 ^ k) k = some m := by
  rw [Plain.parse] at h
  split at h
  · cases h
  · rename_i hc
    have hb := Plain.idx_bd c.toNat
    refine ⟨(Plain.idx c.toNat).toNat, by omega, by omega, by omega, ?_⟩
    rw [show (((Plain.idx c.toNat).toNat : Nat) : Int) = Plain.idx c.toNat by omega]
    exact h

theorem or_val {a k : Nat} (ha : a < 256) (hk : k ≤ 7) : bits .or .u8 (a : Int) (2 ^ k % 256) = ((a ||| 2 ^ k : Nat) : Int) := by
  have h2 : (2 : Nat) ^ k ≤ 2 ^ 7 := Nat.pow_le_pow_right (by decide) hk
  have e : (2 : Int) ^ k = ((2 ^ k : Nat) : Int) := by simp
  have e2 : (2 : Int) ^ k % 256 = ((2 ^ k : Nat) : Int) := by
    rw [e]
    generalize (2 : Nat) ^ k = X at *
    omega
  rw [e2, u8_or_nat _ _ ha (by omega)]
theorem or_lt {a k : Nat} (ha : a < 256) (hk : k ≤ 7) : a ||| 2 ^ k < 256 :=
  Nat.or_lt_two_pow (n := 8) ha (Nat.pow_lt_pow_right (by decide) (by omega))

def ParsePost (m : Nat) (w : World) (e : Ending) (w' : World) : Prop := e = .returned (.tuple #[.int .u8 m, .bool true]) ∧ w' = w
theorem ret_two {a b : Nat} (h : a = b) : Ending.returned (.tuple #[.int .u8 (a : Nat), .bool true]) = .returned (.tuple #[.int .u8 (b : Nat), .bool true]) := by rw [h]

set_option maxHeartbeats 1000000 in
set_option maxRecDepth 100000 in
theorem letters_any (s : ByteArray) (run : List UInt8) (fr to m : Nat) (hs : s.size ≤ 100) (hto : to = fr + run.length) (hne : run ≠ []) (hle : to ≤ s.size)
    (hrun : ∀ j (hj : j < run.length) (hp : fr + j < s.size), s[fr + j] = run[j]) (hp : Plain.parse run 0 (-1) = some m) (w : World) :
    Calls Try.prog 19 #[.string s, .int .i64 fr, .int .i64 to] w (ParsePost m w) := by
  have hlt : fr < to := by have := List.length_pos_iff.2 hne; omega
  have hdf : ¬ to ≤ fr := by omega
  have HR : Hid (∀ j (hj : j < run.length) (hp : fr + j < s.size), s[fr + j] = run[j]) := hrun
  have HT : Hid (to = fr + run.length) := hto
  have HP : Hid (Plain.parse run 0 (-1) = some m) := hp
  clear hrun hto hp hne
  go_enter Try.func19, Try.ntmps19
  go_wp2
  go_loopg [8, 9, 10] (to - fr) (fun g s8 s9 s10 wx => ∃ (q j acc : Nat) (prev : Int), q = fr + j ∧ q + g = to ∧ s10 = .int .i64 q ∧ s8 = .int .u8 acc ∧ s9 = .int .i64 prev ∧ acc < 256 ∧ -1 ≤ prev ∧ prev ≤ 7 ∧ Plain.parse (run.drop j) acc prev = some m ∧ wx = w)
  case atStart => exact ⟨fr, 0, 0, -1, rfl, by omega, rfl, rfl, rfl, by omega, by omega, by omega, HP.out, rfl⟩
  case round =>
    clear HP
    obtain ⟨q, j, acc, prev, hq, hqg, rfl, rfl, rfl, hacc, hp1, hp2, hpar, rfl⟩ := hrel
    have HQ : Hid (q = fr + j) := hq
    have HPAR : Hid (Plain.parse (run.drop j) acc prev = some m) := hpar
    clear hq hpar
    cases gk with
    | zero =>
      have HE : Hid (acc = m) := by
        have h1 := HPAR.out
        rw [List.drop_eq_nil_of_le (by have := HQ.out; have := HT.out; omega)] at h1
        exact Option.some.inj h1
      obtain rfl : q = to := by omega
      go_wp2
      go_ret2
      exact ⟨ret_two HE.out, rfl⟩
    | succ g =>
      have hjl : j < run.length := by have := HQ.out; have := HT.out; omega
      have hqs : q < s.size := by omega
      have hqs' : (q : Int) < (s.size : Int) := by omega
      obtain ⟨k, hk, hk7, hpk, hpar⟩ := parse_step (c := run[j]) (r := run.drop (j + 1)) (a := acc) (p := prev) (m := m) (by rw [← List.drop_eq_getElem_cons hjl]; exact HPAR.out)
      have hch : s[q] = run[j] := by
        have hq := HQ.out
        subst hq
        exact HR.out j hjl hqs
      rw [← hch] at hk
      have HI : Hid (Plain.idx s[q].toNat = k) := hk
      have HN : Hid (Plain.parse (run.drop (j + 1)) (acc ||| 2 ^ k) k = some m) := hpar
      have hov := or_val hacc hk7
      have hol := or_lt hacc hk7
      obtain ⟨acc', hac⟩ : ∃ a, acc ||| 2 ^ k = a := ⟨_, rfl⟩
      rw [hac] at hov hol
      have HA : Hid (acc ||| 2 ^ k = acc') := hac
      clear hk hpar hch HPAR hac
      go_wp2_with (go_at_call 21; refine (idx_any _ _).mono ?_; rintro e w' ⟨rfl, rfl⟩; rw [HI.out])
      go_roundg g
      case measure => omega
      case rel => exact ⟨q + 1, j + 1, acc', k, by have := HQ.out; omega, by omega, by go_num, rfl, rfl, by omega, by omega, by omega, by rw [← HA.out]; exact HN.out, rfl⟩
end Go.Proofs.Qxb6600410a
