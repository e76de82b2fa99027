/-
  THE WALKS, first part: satSum, votesWellFormed.
-/
import Derived.Test.Qxb6600052aRows
import Derived.Test.Qxb6600052aPlain
import Derived.WalkKit
import Derived.WalkSpells
import Derived.Deep.WholeRow
import Derived.Deep.LoopGhost
import Derived.Deep.QuietTactic
import Derived.BigQuiet
import Derived.RowKit3
namespace Go.Proofs.Qxb6600052a
open Go.RowKit

/-- A holds the table f. (The array is a variable: a closed form of it would be unfolded by 'contradiction'.) -/
def Tab (A : Array Value) (f : Nat → Nat) : Prop := A.size = 33 ∧ ∀ k, k < 33 → A[k]? = some (.int .u64 (f k : Nat))
theorem Tab.get {A : Array Value} {f : Nat → Nat} (h : Tab A f) {k : Nat} (hk : k < 33) : A[k]? = some (.int .u64 (f k : Nat)) := h.2 k hk
theorem Tab.set {A : Array Value} {f : Nat → Nat} (h : Tab A f) (k v : Nat) (hk : k < 33) : Tab (A.setIfInBounds k (.int .u64 (v : Nat))) (Plain.upd f k v) :=
  ⟨by simp [h.1], fun j hj => by
    rw [Array.getElem?_setIfInBounds]
    by_cases e : k = j
    · subst e; rw [if_pos rfl, if_pos (by rw [h.1]; exact hk), Plain.upd_same]
    · rw [if_neg e, Plain.upd_other _ _ _ _ (fun x => e x.symm)]; exact h.2 j hj⟩
theorem Tab.unique {A B : Array Value} {f : Nat → Nat} (h : Tab A f) (h' : Tab B f) : A = B := by
  apply Array.ext_getElem?
  intro i
  by_cases hi : i < 33
  · rw [h.2 i hi, h'.2 i hi]
  · rw [Array.getElem?_eq_none (by rw [h.1]; omega), Array.getElem?_eq_none (by rw [h'.1]; omega)]

theorem ret_int {k : IntKind} {a b : Int} (h : a = b) : Ending.returned (.int k a) = .returned (.int k b) := by rw [h]

set_option maxHeartbeats 400000 in
theorem satSum_any (x y t : Int) (w : World) (hx : 0 ≤ x) (hx' : x ≤ 32) (hy : 0 ≤ y) (hy' : y ≤ 1) :
    Calls Try.prog 21 #[.int .i64 x, .int .i64 y, .int .i64 t] w fun e w' => e = .returned (.int .i64 (min (x + y) t)) ∧ w' = w := by
  by_cases h : t < x + y
  · go_enter Try.func21, Try.ntmps21
    go_wp2
    go_ret
    exact ⟨ret_int (by omega), rfl⟩
  · go_enter Try.func21, Try.ntmps21
    go_wp2
    go_ret
    exact ⟨ret_int (by omega), rfl⟩

theorem ret_bool {a b : Bool} (h : a = b) : Ending.returned (.bool a) = .returned (.bool b) := by rw [h]

theorem step_ok {f : Nat → Nat} {n i : Nat} (h : ∀ a, a < i → Plain.Ok f n a) (hi : Plain.Ok f n i) : ∀ a, a < i + 1 → Plain.Ok f n a := fun a ha => by
  by_cases e : a = i
  · subst e; exact hi
  · exact h a (by omega)
theorem div_cast (x k : Nat) : (x : Int) / 2 ^ k = ((x / 2 ^ k : Nat) : Int) := by simp
theorem ok_hi {f : Nat → Nat} {n i : Nat} (h : n < i) (hz : ((f i : Int) != 0) = false) : Plain.Ok f n i :=
  ⟨fun _ => by simpa using hz, fun _ => by omega⟩
theorem no_hi {f : Nat → Nat} {n i : Nat} (h : n < i) (hz : ((f i : Int) != 0) = true) : ¬ Plain.Ok f n i := fun g => by
  have := g.1 h; simp [this] at hz
theorem ok_lo {f : Nat → Nat} {n i : Nat} (h : ¬ n < i) (hz : ((f i : Int) / 2 ^ (n + 1) != 0) = false) : Plain.Ok f n i :=
  ⟨fun _ => by omega, fun _ => by rw [div_cast, bne_eq_false_iff_eq] at hz; exact Int.natCast_eq_zero.1 hz⟩
theorem no_lo {f : Nat → Nat} {n i : Nat} (h : ¬ n < i) (hz : ((f i : Int) / 2 ^ (n + 1) != 0) = true) : ¬ Plain.Ok f n i := fun g => by
  have := g.2 (by omega); rw [div_cast, this] at hz; simp at hz

/-- What votesWellFormed answers. -/
def Answers (f : Nat → Nat) (n : Nat) (b : Bool) : Prop := b = true ↔ ∀ a, a < 33 → Plain.Ok f n a
theorem ans_no {f : Nat → Nat} {n i : Nat} (hi : i < 33) (h : ¬ Plain.Ok f n i) : Answers f n false := Iff.intro (fun e => Bool.noConfusion e) (fun g => absurd (g i hi) h)
theorem ans_yes {f : Nat → Nat} {n : Nat} (h : ∀ a, a < 33 → Plain.Ok f n a) : Answers f n true := ⟨fun _ => h, fun _ => rfl⟩

/-- What a call of votesWellFormed leaves (a name: the walk's simp would take '∃ b : Bool' apart). -/
def WellPost (A : Array Value) (f : Nat → Nat) (n : Nat) (w : World) (e : Ending) (w' : World) : Prop := ∃ b, e = .returned (.bool b) ∧ Answers f n b ∧ w' = w.alloc (.cells A 23)

set_option maxHeartbeats 400000 in
set_option maxRecDepth 100000 in
theorem well_any (A : Array Value) (f : Nat → Nat) (hT : Tab A f) (n : Nat) (hn : n ≤ 32) (w : World) :
    Calls Try.prog 9 #[.agg A, .int .i64 n] w (WellPost A f n w) := by
  go_enter Try.func9, Try.ntmps9
  go_wp2
  go_loopg [5] 33 (fun g s5 wx => ∃ i : Nat, i + g = 33 ∧ s5 = .int .i64 i ∧ wx = w.alloc (.cells A 23) ∧ ∀ a, a < i → Plain.Ok f n a)
  case atStart => exact ⟨0, by omega, rfl, rfl, fun a ha => by omega⟩
  case round =>
    obtain ⟨i, hig, rfl, rfl, hok⟩ := hrel
    have HK : Hid (∀ a, a < i → Plain.Ok f n a) := hok
    clear hok
    cases gk with
    | zero =>
      obtain rfl : i = 33 := by omega
      go_wp2
      go_ret
      exact ⟨true, rfl, ans_yes HK.out, rfl⟩
    | succ g =>
      have hi : i < 33 := by omega
      have hcell := hT.get hi
      by_cases hni : n < i
      · go_wp2
        · go_ret
          exact ⟨false, rfl, ans_no hi (no_hi hni ‹_›), rfl⟩
        · go_roundg g
          case measure => omega
          case rel => exact ⟨i + 1, by omega, by go_num, rfl, step_ok HK.out (ok_hi hni ‹_›)⟩
      · go_wp2
        · go_ret
          exact ⟨false, rfl, ans_no hi (no_lo hni ‹_›), rfl⟩
        · go_roundg g
          case measure => omega
          case rel => exact ⟨i + 1, by omega, by go_num, rfl, step_ok HK.out (ok_lo hni ‹_›)⟩
end Go.Proofs.Qxb6600052a
