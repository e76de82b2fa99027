/-
  THE WALKS: parseChange, FnModeChangeStringParsesBack.
-/
import Derived.Test.Qxb6600410aW5
import Derived.Test.Qxb6600410aW7
namespace Go.Proofs.Qxb6600410a
open Go.RowKit

theorem no_minus : ∀ m, m < 256 → ∀ c ∈ Plain.text m, c ≠ 45 := by decide +kernel
theorem text_parse {m : Nat} (hm : m < 256) (h0 : m ≠ 0) : Plain.parse (Plain.text m) 0 (-1) = some m := by rw [text_lets h0]; exact Plain.parse_lets m hm
theorem text_some {m : Nat} (hm : m < 256) (h0 : m ≠ 0) : Plain.text m ≠ [] := by rw [text_lets h0]; exact Plain.lets_ne m hm h0

def ChangePost (g l : Nat) (w : World) (e : Ending) (w' : World) : Prop := e = .returned (.tuple #[.int .u8 g, .int .u8 l, .bool true]) ∧ w' = w

theorem u8_neq {a : UInt8} (h : a ≠ 45) : (((a.toNat : Nat) : Int) != 45) = true := by
  rw [bne_iff_ne]
  intro e
  exact h (UInt8.toNat_inj.1 (by show a.toNat = 45; omega))

/-- A run of a string: the bytes from fr on. -/
theorem run_at {s : ByteArray} {pre run post : List UInt8} (h : Holds s (pre ++ run ++ post)) (j : Nat) (hj : j < run.length) (hp : pre.length + j < s.size) : s[pre.length + j] = run[j] := by
  rw [h.get]
  rw [List.getElem_append_left (by simp; omega), List.getElem_append_right (by omega)]
  simp

set_option maxHeartbeats 1000000 in
set_option maxRecDepth 100000 in
/-- Nothing gained, something lost. -/
theorem change_r (l : Nat) (hl : l < 256) (h1 : l ≠ 0) (s : ByteArray) (hs : Holds s (45 :: Plain.text l)) (w : World) :
    Calls Try.prog 14 #[.string s] w (ChangePost 0 l w) := by
  have hz : s.size = 1 + (Plain.text l).length := by rw [hs.size, List.length_cons]; omega
  have hle := Plain.text_le l
  obtain ⟨hs0, hc⟩ := head_is hs (c := 45) (r := Plain.text l) rfl
  have hs' : Holds s ([45] ++ Plain.text l ++ []) := by rw [List.append_nil]; exact hs
  have HC : Hid (∀ w, Calls Try.prog 19 #[.string s, .int .i64 (1 : Int), .int .i64 (s.size : Nat)] w (ParsePost l w)) :=
    letters_any s (Plain.text l) 1 s.size l (by omega) hz (text_some hl h1) (Nat.le_refl _) (fun j hj hp => run_at hs' j hj hp) (text_parse hl h1)
  have c1 : (((s[0].toNat : Nat) : Int) == 43) = false := by rw [hc]; rfl
  have c2 : (((s[0].toNat : Nat) : Int) != 45) = false := by rw [hc]; rfl
  have hs0' : (0 : Int) < (s.size : Int) := by omega
  have hz' : ((s.size : Int) == 0) = false := by rw [beq_eq_false_iff_ne]; omega
  clear hz hc h1 hs hs'
  go_enter Try.func14, Try.ntmps14
  go_wp2_with (go_at_call 19; refine (HC.out _).mono ?_; rintro e w' ⟨rfl, rfl⟩)
  go_ret3
  exact ⟨rfl, rfl⟩

set_option maxHeartbeats 1000000 in
set_option maxRecDepth 100000 in
/-- Something gained, nothing lost. -/
theorem change_l (g : Nat) (hg : g < 256) (h0 : g ≠ 0) (s : ByteArray) (hs : Holds s (43 :: Plain.text g)) (w : World) :
    Calls Try.prog 14 #[.string s] w (ChangePost g 0 w) := by
  have hz : s.size = 1 + (Plain.text g).length := by rw [hs.size, List.length_cons]; omega
  have hle := Plain.text_le g
  obtain ⟨hs0, hc⟩ := head_is hs (c := 43) (r := Plain.text g) rfl
  have hs' : Holds s ([43] ++ Plain.text g ++ []) := by rw [List.append_nil]; exact hs
  have HC : Hid (∀ w, Calls Try.prog 19 #[.string s, .int .i64 (1 : Int), .int .i64 (s.size : Nat)] w (ParsePost g w)) :=
    letters_any s (Plain.text g) 1 s.size g (by omega) hz (text_some hg h0) (Nat.le_refl _) (fun j hj hp => run_at hs' j hj hp) (text_parse hg h0)
  have HM : Hid (∀ q (hq : q < s.size), 1 ≤ q → s[q] ≠ 45) := by
    intro q hq h1
    have e := run_at hs' (q - 1) (by omega) (by show 1 + (q - 1) < s.size; omega)
    have e' : s[q] = (Plain.text g)[q - 1] := by
      rw [← e]
      congr 1
      show q = 1 + (q - 1)
      omega
    rw [e']
    exact no_minus g hg _ (List.getElem_mem _)
  have c1 : (((s[0].toNat : Nat) : Int) == 43) = true := by rw [hc]; rfl
  have hs0' : (0 : Int) < (s.size : Int) := by omega
  have hs9 : s.size ≤ 9 := by omega
  have hz' : ((s.size : Int) == 0) = false := by rw [beq_eq_false_iff_ne]; omega
  clear hz hc h0 hs hs' hle
  go_enter Try.func14, Try.ntmps14
  go_wp2
  go_loopg [8] (s.size - 1) (fun gk s8 wx => ∃ q : Nat, q + gk = s.size ∧ 1 ≤ q ∧ s8 = .int .i64 q ∧ wx = w)
  case atStart => exact ⟨1, by omega, by omega, rfl, rfl⟩
  case round =>
    obtain ⟨q, hqg, hq1, rfl, rfl⟩ := hrel
    cases gk with
    | zero =>
      obtain rfl : q = s.size := by omega
      go_wp2_with (go_at_call 19; refine (HC.out _).mono ?_; rintro e w' ⟨rfl, rfl⟩)
      go_ret3
      exact ⟨rfl, rfl⟩
    | succ gk =>
      have hq : q < s.size := by omega
      have hq' : (q : Int) < (s.size : Int) := by omega
      have hm := u8_neq (HM.out q hq hq1)
      go_wp2
      go_roundg gk
      case measure => omega
      case rel => exact ⟨q + 1, by omega, by omega, by go_num, rfl⟩

set_option maxHeartbeats 1000000 in
set_option maxRecDepth 100000 in
/-- Something gained, something lost. -/
theorem change_b (g l : Nat) (hg : g < 256) (hl : l < 256) (h0 : g ≠ 0) (h1 : l ≠ 0) (s : ByteArray) (hs : Holds s (43 :: Plain.text g ++ 45 :: Plain.text l)) (w : World) :
    Calls Try.prog 14 #[.string s] w (ChangePost g l w) := by
  have hz : s.size = 1 + (Plain.text g).length + 1 + (Plain.text l).length := by rw [hs.size]; simp; omega
  have hle := Plain.text_le g
  have hle' := Plain.text_le l
  obtain ⟨hs0, hc⟩ := head_is hs (c := 43) (r := Plain.text g ++ 45 :: Plain.text l) rfl
  obtain ⟨n, hn⟩ : ∃ n, n = 1 + (Plain.text g).length := ⟨_, rfl⟩
  have ha : Holds s ([43] ++ Plain.text g ++ (45 :: Plain.text l)) := hs
  have hb : Holds s ((43 :: Plain.text g ++ [45]) ++ Plain.text l ++ []) := by rw [List.append_nil]; simpa [Holds] using hs
  have hm : Holds s ((43 :: Plain.text g) ++ [45] ++ Plain.text l) := by simpa [Holds] using hs
  have HC : Hid (∀ w, Calls Try.prog 19 #[.string s, .int .i64 (1 : Int), .int .i64 (n : Nat)] w (ParsePost g w)) :=
    letters_any s (Plain.text g) 1 n g (by omega) hn (text_some hg h0) (by omega) (fun j hj hp => run_at ha j hj hp) (text_parse hg h0)
  have hpre : (43 :: Plain.text g ++ [45]).length = n + 1 := by simp; omega
  have HD : Hid (∀ w, Calls Try.prog 19 #[.string s, .int .i64 ((n : Int) + 1), .int .i64 (s.size : Nat)] w (ParsePost l w)) :=
    letters_any s (Plain.text l) (n + 1) s.size l (by omega) (by omega) (text_some hl h1) (Nat.le_refl _)
      (fun j hj hp => by
        have e := run_at hb j hj (by rw [hpre]; exact hp)
        rw [← e]
        congr 1
        rw [hpre]) (text_parse hl h1)
  have HM : Hid (∀ q (hq : q < s.size), 1 ≤ q → q < n → s[q] ≠ 45) := by
    intro q hq h1 hqn
    have e := run_at ha (q - 1) (by omega) (by show 1 + (q - 1) < s.size; omega)
    have e' : s[q] = (Plain.text g)[q - 1] := by
      rw [← e]
      congr 1
      show q = 1 + (q - 1)
      omega
    rw [e']
    exact no_minus g hg _ (List.getElem_mem _)
  have hns : n < s.size := by omega
  have hns' : (n : Int) < (s.size : Int) := by omega
  have hmid : s[n] = 45 := by
    have e := run_at hm 0 (by simp) (by simp; omega)
    have e' : s[n] = ([45] : List UInt8)[0] := by
      rw [← e]
      congr 1
      simp; omega
    exact e'
  have c1 : (((s[0].toNat : Nat) : Int) == 43) = true := by rw [hc]; rfl
  have c2 : (((s[n].toNat : Nat) : Int) != 45) = false := by rw [hmid]; rfl
  have hs0' : (0 : Int) < (s.size : Int) := by omega
  have hs9 : s.size ≤ 18 := by omega
  have hn1 : 1 ≤ n := by omega
  have hz' : ((s.size : Int) == 0) = false := by rw [beq_eq_false_iff_ne]; omega
  clear hz hc h0 h1 hs ha hb hm hle hle' hpre hn hmid
  go_enter Try.func14, Try.ntmps14
  go_wp2
  go_loopg [8] (n - 1) (fun gk s8 wx => ∃ q : Nat, q + gk = n ∧ 1 ≤ q ∧ s8 = .int .i64 q ∧ wx = w)
  case atStart => exact ⟨1, by omega, by omega, rfl, rfl⟩
  case round =>
    obtain ⟨q, hqg, hq1, rfl, rfl⟩ := hrel
    cases gk with
    | zero =>
      obtain rfl : q = n := by omega
      go_wp2_with fail
      refine (HC.out _).mono ?_
      rintro e w' ⟨rfl, rfl⟩
      go_wp2_with fail
      refine (HD.out _).mono ?_
      rintro e w' ⟨rfl, rfl⟩
      go_wp2
      go_ret3
      exact ⟨rfl, rfl⟩
    | succ gk =>
      have hq : q < s.size := by omega
      have hq' : (q : Int) < (s.size : Int) := by omega
      have hm := u8_neq (HM.out q hq hq1 (by omega))
      clear c2
      go_wp2
      go_roundg gk
      case measure => omega
      case rel => exact ⟨q + 1, by omega, by omega, by go_num, rfl⟩
end Go.Proofs.Qxb6600410a
