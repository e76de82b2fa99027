/-
  THE WALKS, fourth part: votesModelAdd.
-/
import Derived.Test.Qxb6600052aW3
namespace Go.Proofs.Qxb6600052a
open Go.RowKit

def zeros : Array Value := Array.replicate 33 (.int .u64 0)
theorem zeros_tab : Tab zeros (fun _ => 0) := ⟨rfl, fun k hk => by simp [zeros, hk]⟩

def SatPost (x y t : Int) (w : World) (e : Ending) (w' : World) : Prop := ∃ k : Nat, e = .returned (.int .i64 k) ∧ (k : Int) = min (x + y) t ∧ w' = w
theorem sat_at (x y t : Int) (w : World) (hx : 0 ≤ x) (hx' : x ≤ 32) (hy : 0 ≤ y) (hy' : y ≤ 1) (ht : 0 ≤ t) :
    Calls Try.prog 21 #[.int .i64 x, .int .i64 y, .int .i64 t] w (SatPost x y t w) := by
  refine (satSum_any x y t w hx hx' hy hy').mono ?_
  rintro e w' ⟨rfl, rfl⟩
  exact ⟨(min (x + y) t).toNat, ret_int (by omega), by omega, rfl⟩

theorem and1_u64 (x : Nat) (hx : x < 2 ^ 33) : bits .and .u64 (x : Int) 1 = ((x % 2 : Nat) : Int) := by
  rw [← Nat.and_one_is_mod]; exact u64_and_nat x 1 (by omega) (by decide)
theorem bit_u64 {s p : Nat} (hs : s < 2 ^ 33) : (bits .and .u64 ((s : Int) / 2 ^ p) 1 == 0) = !s.testBit p := by
  have hd : s / 2 ^ p ≤ s := Nat.div_le_self _ _
  rw [div_cast, and1_u64 _ (by omega), Nat.testBit_eq_decide_div_mod_eq]
  have h2 : s / 2 ^ p % 2 = 0 ∨ s / 2 ^ p % 2 = 1 := by omega
  rcases h2 with h2 | h2 <;> simp [h2]

def ModPost (f : Nat → Nat) (s n : Nat) (w : World) (e : Ending) (w' : World) : Prop :=
  ∃ B g, e = .returned (.agg B) ∧ Tab B g ∧ Plain.Mod f s n (n + 1) 0 0 g ∧ Below w.heap.size w w'

theorem take_inv {f h : Nat → Nat} {s n a c p k1 k2 : Nat} (hf : (f a).testBit c = true) (hb : s.testBit p = true) (hM : Plain.Mod f s n a c p h) (h1 : k1 = min (a + p / 2) n) (h2 : k2 = min (c + p % 2) n) :
    Plain.Mod f s n a c (p + 1) (Plain.upd h k1 (h k1 ||| 2 ^ k2)) := by
  subst h1 h2; exact Plain.mod_takeP hf hb hM
theorem take_world {W : World} {C : Array Value} {x k1 k2 n : Nat} (h1 : x < 2 ^ (n + 1)) (hn : n ≤ 32) (h2 : k2 ≤ n) :
    W.alloc (.cells (C.setIfInBounds k1 (.int .u64 (bits .or .u64 (x : Nat) (IntKind.u64.wrap (2 ^ k2))))) 23) = W.alloc (.cells (C.setIfInBounds k1 (.int .u64 ((x ||| 2 ^ k2 : Nat) : Int))) 23) := by
  have g1 : (2 : Nat) ^ (n + 1) ≤ 2 ^ 33 := pow_small (by omega)
  have g2 : (2 : Nat) ^ k2 ≤ 2 ^ 32 := pow_small (by omega)
  have e : (2 : Int) ^ k2 = ((2 ^ k2 : Nat) : Int) := by simp
  have e2 : IntKind.u64.wrap (2 ^ k2) = ((2 ^ k2 : Nat) : Int) := by
    rw [e]
    generalize (2 : Nat) ^ k2 = X at *
    simp only [IntKind.wrap_u64]
    omega
  rw [e2, u64_or_nat _ _ (by omega) (by omega)]

theorem three_last' (w : World) (a b c : Obj) : (((w.alloc a).alloc b).alloc c).heap[w.heap.size + 1 + 1]? = some c := three_last w a b c 0
theorem three_mid' (w : World) (a b c : Obj) : (((w.alloc a).alloc b).alloc c).heap[w.heap.size + 1]? = some b := three_mid w a b c 0

set_option maxHeartbeats 1000000 in
set_option maxRecDepth 100000 in
theorem model_any (A : Array Value) (f : Nat → Nat) (hT : Tab A f) (s n : Nat) (hn : n ≤ 32) (hs : s < 256) (hf : ∀ a, f a < 2 ^ (n + 1)) (w : World) :
    Calls Try.prog 11 #[.agg A, .int .u8 s, .int .i64 n] w (ModPost f s n w) := by
  have HF : Hid (∀ a, f a < 2 ^ 33) := fun a => Nat.lt_of_lt_of_le (hf a) (pow_small (by omega))
  clear hf
  have HS := Plain.mod_start f s n
  go_enter Try.func11, Try.ntmps11
  go_wp2
  go_loopg [8] (n + 1) (fun g s8 wx => ∃ (a : Nat) (C : Array Value) (h : Nat → Nat), a + g = n + 1 ∧ s8 = .int .i64 a ∧ Tab C h ∧ Plain.Mod f s n a 0 0 h ∧ wx = ((w.alloc (.cells A 23)).alloc (.cells zeros 23)).alloc (.cells C 23))
  case atStart => exact ⟨0, zeros, fun _ => 0, by omega, rfl, zeros_tab, HS, rfl⟩
  case round =>
    clear HS
    obtain ⟨a, C, h, hag, rfl, hC, hM, rfl⟩ := hrel
    cases gk with
    | zero =>
      obtain rfl : a = n + 1 := by omega
      have I23 : Hid _ := info23 hC
      go_wp2_with (first
        | (refine wpList_load_row rfl 23 (.tmp 7) rfl (w.heap.size + 1 + 1) rfl 23 C (0, 0) (.array 33 22) (three_last' w _ _ _) Try.underlying23 rfl I23.out ?_)
        | (refine wpList_store_row rfl 23 (.tmp 6) (.tmp 59) rfl (w.heap.size + 1) C rfl rfl 23 _ (three_mid' w _ _ _) I23.out (by exact hC.1.symm) hC.one ?_))
      refine bodyPost_ret (v := .agg C) ?_ rfl ⟨C, h, rfl, hC, hM, ?_⟩
      · exact results_cell_row (p := 6) (ty := 23) rfl _ _ (w.heap.size + 1) 23 C (0, 0) (.array 33 22) rfl (setRow_heap _ _ _ _ _ _ (three_mid' w _ _ _)) Try.underlying23 rfl I23.out
      · exact below_setRow ((((Below.refl _ _).alloc (Nat.le_refl _) _).alloc (by simp) _).alloc (by simp; omega) _) _ (by omega) _
    | succ ga =>
      have han : a ≤ n := by omega
      have hta := hT.get (k := a) (by omega)
      go_wp2
      go_loopg [9] (n + 1) (fun g s9 wx => ∃ (c : Nat) (C : Array Value) (h : Nat → Nat), c + g = n + 1 ∧ s9 = .int .i64 c ∧ Tab C h ∧ Plain.Mod f s n a c 0 h ∧ wx = ((w.alloc (.cells A 23)).alloc (.cells zeros 23)).alloc (.cells C 23))
      case atStart => exact ⟨0, C, h, by omega, rfl, hC, hM, rfl⟩
      case round =>
        clear hC hM
        obtain ⟨c, C, h, hcg, rfl, hC, hM, rfl⟩ := hrel
        cases gk with
        | zero =>
          obtain rfl : c = n + 1 := by omega
          have hM' := Plain.mod_nextA hM
          go_wp2
          go_roundg ga
          case measure => omega
          case rel => exact ⟨a + 1, C, h, by omega, by go_num, hC, hM', rfl⟩
        | succ gc =>
          have hcn : c ≤ n := by omega
          have hbit := bit_u64 (HF.out a) (p := c)
          by_cases hb : (f a).testBit c = true
          · rw [hb] at hbit
            have hbit' : (bits BinOp.and IntKind.u64 (↑(f a) / 2 ^ c) 1 == 0) = false := hbit
            have HB : Hid ((f a).testBit c = true) := hb
            clear hbit hb
            go_wp2
            go_loopg [10] 4 (fun g s10 wx => ∃ (p : Nat) (C : Array Value) (h : Nat → Nat), p + g = 4 ∧ s10 = .int .i64 p ∧ Tab C h ∧ Plain.Mod f s n a c p h ∧ wx = ((w.alloc (.cells A 23)).alloc (.cells zeros 23)).alloc (.cells C 23))
            case atStart => exact ⟨0, C, h, by omega, rfl, hC, hM, rfl⟩
            case round =>
              clear hC hM hbit'
              obtain ⟨p, C, h, hpg, rfl, hC, hM, rfl⟩ := hrel
              cases gk with
              | zero =>
                obtain rfl : p = 4 := by omega
                have hM' := Plain.mod_nextC hM
                go_wp2
                go_roundg gc
                case measure => omega
                case rel => exact ⟨c + 1, C, h, by omega, by go_num, hC, hM', rfl⟩
              | succ gp =>
                have hp4 : p < 4 := by omega
                have hbit := bit_u8 hs (p := p)
                by_cases hb : s.testBit p = true
                · rw [hb] at hbit
                  have hbit' : (bits BinOp.and IntKind.u8 (↑s / 2 ^ p) 1 == 0) = false := hbit
                  have HP : Hid (s.testBit p = true) := hb
                  have hodd := and1_i64 p hp4
                  clear hbit hb
                  go_wp2_with fail
                  refine (sat_at _ _ _ _ (by omega) (by omega) (by omega) (by omega) (by omega)).mono ?_
                  rintro e w' ⟨k1, rfl, hk1, rfl⟩
                  have HK1 : Hid (k1 = min (a + p / 2) n) := by show k1 = min (a + p / 2) n; omega
                  have hk1n : k1 ≤ n := by omega
                  have hcell := hC.get (k := k1) (by omega)
                  have HH : Hid (h k1 < 2 ^ (n + 1)) := Plain.mod_lt hM k1
                  clear hk1
                  go_wp2_with fail
                  refine (sat_at _ _ _ _ (by omega) (by omega) (by omega) (by omega) (by omega)).mono ?_
                  rintro e w' ⟨k2, rfl, hk2, rfl⟩
                  have HK2 : Hid (k2 = min (c + p % 2) n) := by show k2 = min (c + p % 2) n; omega
                  have hk2n : k2 ≤ n := by omega
                  clear hk2
                  go_wp2
                  go_roundg gp
                  case measure => omega
                  case rel => exact ⟨p + 1, _, _, by omega, by go_num, hC.set k1 (h k1 ||| 2 ^ k2) (by omega), take_inv HB.out HP.out hM HK1.out HK2.out, take_world HH.out hn hk2n⟩
                · have hb' : s.testBit p = false := by simpa using hb
                  rw [hb'] at hbit
                  have hM' := Plain.mod_skipP hb' hM
                  clear hb hb'
                  have hbit' : (bits BinOp.and IntKind.u8 (↑s / 2 ^ p) 1 == 0) = true := hbit
                  clear hbit
                  go_wp2
                  go_roundg gp
                  case measure => omega
                  case rel => exact ⟨p + 1, C, h, by omega, by go_num, hC, hM', rfl⟩
          · have hb' : (f a).testBit c = false := by simpa using hb
            rw [hb'] at hbit
            have hM' := Plain.mod_skipC hb' hM
            clear hb hb'
            have hbit' : (bits BinOp.and IntKind.u64 (↑(f a) / 2 ^ c) 1 == 0) = true := hbit
            clear hbit
            go_wp2
            go_roundg gc
            case measure => omega
            case rel => exact ⟨c + 1, C, h, by omega, by go_num, hC, hM', rfl⟩
end Go.Proofs.Qxb6600052a
