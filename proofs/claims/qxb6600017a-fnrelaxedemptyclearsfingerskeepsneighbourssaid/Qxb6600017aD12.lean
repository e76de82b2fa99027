/-
  THE LAW's WALK, no table at all; the tables out of the data.
-/
import Derived.Test.Qxb6600017aD11
import Derived.ProofKit
import Derived.OpenShut
import Derived.ShutString
import Derived.ChangeOld
import Derived.Deep.Slices
namespace Go.Proofs.Qxb6600017a
open Go.RowKit
set_option linter.unusedSimpArgs false

set_option maxHeartbeats 1000000 in
set_option maxRecDepth 100000 in
theorem bytes_nil (a : Option Addr) (c : Nat) (node : Int) (w : World) : Calls Try.prog 30 #[.slice a 0 c, .int .i64 node] w (fun e w' => e = .returned (.bool true) ∧ w' = w) := by
  go_enter Try.func30, Try.ntmps30
  go_wp2
  go_loopg [5, 6] 0 (fun g s5 s6 wx => s6 = .int .i64 0 ∧ s5 = .int .i64 0 ∧ wx = w)
  case atStart => exact ⟨rfl, rfl, rfl⟩
  case round =>
    obtain ⟨rfl, rfl, rfl⟩ := hrel
    go_wp2
    go_ret
    exact ⟨rfl, rfl⟩
set_option maxHeartbeats 1000000 in
set_option maxRecDepth 100000 in
theorem fit_nil (a : Option Addr) (c : Nat) (w : World) : Calls Try.prog 11 #[.slice a 0 c] w (fun e w' => e = .returned (.bool true) ∧ w' = w) := by
  go_enter Try.func11, Try.ntmps11
  go_wp2
  go_loopg [3, 4] 0 (fun g s3 s4 wx => s4 = .int .i64 0 ∧ s3 = .int .i64 0 ∧ wx = w)
  case atStart => exact ⟨rfl, rfl, rfl⟩
  case round =>
    obtain ⟨rfl, rfl, rfl⟩ := hrel
    go_wp2
    go_ret
    exact ⟨rfl, rfl⟩
set_option maxHeartbeats 2000000 in
set_option maxRecDepth 100000 in
theorem law_nil (a : Option Addr) (c : Nat) (node : Int) (w : World) : Calls Try.prog 8 #[.slice a 0 c, .int .i64 node] w (LawPost w) := by
  by_cases h0 : node < 0
  · go_enter Try.func8, Try.ntmps8
    go_wp2_with (first
      | (go_at_call 30; refine (bytes_nil a c node w).mono ?_; rintro e w0 ⟨rfl, rfl⟩)
      | (go_at_call 11; refine (fit_nil a c _).mono ?_; rintro e w1 ⟨rfl, rfl⟩))
    go_ret
    exact ⟨rfl, Below.refl _ _⟩
  · have h1 : 0 ≤ node := by omega
    go_enter Try.func8, Try.ntmps8
    go_wp2_with (first
      | (go_at_call 30; refine (bytes_nil a c node w).mono ?_; rintro e w0 ⟨rfl, rfl⟩)
      | (go_at_call 11; refine (fit_nil a c _).mono ?_; rintro e w1 ⟨rfl, rfl⟩))
    go_ret
    exact ⟨rfl, Below.refl _ _⟩

theorem cells33 : Try.prog.cellsOf 33 = 7 := by kernel_rfl
theorem cells21 : Try.prog.cellsOf 21 = 1 := by kernel_rfl
theorem cells4 : Try.prog.cellsOf 4 = 1 := by kernel_rfl
theorem cells30 : Try.prog.cellsOf 30 = 1 := by kernel_rfl
theorem cells31 : Try.prog.cellsOf 31 = 1 := by kernel_rfl
theorem cells81 : Try.prog.cellsOf 81 = 2 := by kernel_rfl

theorem add_zero_spot {w : World} {a : Addr} {v : Value} (h : w.cell? (a.add 0) = some v) : a.spot = none := by
  have := World.cell?_spot h
  simpa [Addr.add] using this
theorem addr_mk {a : Addr} (h : a.spot = none) : a = ⟨a.block, a.off, none⟩ := by
  obtain ⟨b, o, s⟩ := a
  dsimp only at h
  subst h
  rfl

section
variable {H : Type} {enc : TypeId × Value → H} {W : World} {sp : Nat → Bool} {held : Bool} {fuel : Nat}

theorem rd_ints {v : Value} {x : DataW H × List MemPlace} (h : DataW.trod enc Try.prog W 0 sp held fuel 30 [v] = some x) : ∃ s : Sl, v = .slice s.a s.n s.c ∧ Rd1 W s ∧ s.n ≤ 9223372036854775807 := by
  rcases Go.Deep.open_slice1 Try.underlying30 cells21 h with ⟨h0, _⟩ | ⟨a, len, cap, m, n, V, D, Pl, h0, _, hl, hm, hmm, _, hx⟩
  · exact ⟨⟨none, 0, 0⟩, by simpa using h0, fun h => absurd h (Nat.lt_irrefl 0), by decide⟩
  · have hlm : len ≤ m := by rw [hmm]; split <;> omega
    refine ⟨⟨some a, len, cap⟩, by simpa using h0, fun hn => ?_, ?_⟩
    · have hs := add_zero_spot (hx 0 (Nat.lt_of_lt_of_le hn hlm)).1
      obtain ⟨b, o, s⟩ := a
      dsimp only at hs
      subst hs
      refine ⟨b, o, rfl, fun k hk => ?_⟩
      obtain ⟨h1, h2⟩ := hx k (Nat.lt_of_lt_of_le hk hlm)
      obtain ⟨y, e, _⟩ := DataW.trod_int Try.underlying21 h2
      rw [Addr.add_mid] at h1
      exact ⟨y, by rw [h1]; simpa using e⟩
    · show len ≤ _
      unfold maxLen at hm
      omega

set_option maxRecDepth 100000 in
theorem rd_fingers {v : Value} {x : DataW H × List MemPlace} (h : DataW.trod enc Try.prog W 0 sp held fuel 31 [v] = some x) : ∃ s : Sl, v = .slice s.a s.n s.c ∧ Rd2 W s ∧ s.n ≤ 9223372036854775807 := by
  rcases Go.Deep.open_slice Try.underlying31 h with ⟨h0, _⟩ | ⟨a, len, cap, m, n, D, Pl, h0, _, hl, hm, hmm, _, hx⟩
  · exact ⟨⟨none, 0, 0⟩, by simpa using h0, fun h => absurd h (Nat.lt_irrefl 0), by decide⟩
  · have hlm : len ≤ m := by rw [hmm]; split <;> omega
    have hall : ∀ k, k < m → ∃ (y : Int) (z : Bool), W.cell? ((a.add (k * 2)).add 0) = some (.int .i32 y) ∧ W.cell? ((a.add (k * 2)).add 1) = some (.bool z) := fun k hk => by
      obtain ⟨cs, h1, h2⟩ := hx k hk
      rw [cells81] at h1
      obtain ⟨_, hlen, hc⟩ := World.cells?_some h1
      obtain ⟨xs, q, _, _, _, hxl, hf⟩ := DataW.trod_struct Try.underlying81 h2
      match cs, hlen with
      | [v0, v1], _ =>
        have f0 := hf 0 _ rfl
        have f1 := hf 1 _ rfl
        simp [cells21, cells4] at f0 f1
        have hxl' : xs.length = 2 := hxl
        rw [List.getElem?_eq_getElem (by omega)] at f0 f1
        obtain ⟨y, e0, _⟩ := DataW.trod_int Try.underlying21 f0
        obtain ⟨z, e1, _⟩ := DataW.trod_bool Try.underlying4 f1
        simp at e0 e1
        subst e0 e1
        exact ⟨y, z, hc 0 (by omega), hc 1 (by omega)⟩
    refine ⟨⟨some a, len, cap⟩, by simpa using h0, fun hn => ?_, ?_⟩
    · obtain ⟨_, _, h1, _⟩ := hall 0 (Nat.lt_of_lt_of_le hn hlm)
      have hs : a.spot = none := by
        have := World.cell?_spot h1
        simpa [Addr.add] using this
      obtain ⟨b, o, s⟩ := a
      dsimp only at hs
      subst hs
      refine ⟨b, o, rfl, fun k hk => ?_⟩
      obtain ⟨y, z, h1, h2⟩ := hall k (Nat.lt_of_lt_of_le hk hlm)
      simp only [Addr.add_mid] at h1 h2
      rw [Nat.mul_comm k 2] at h1 h2
      exact ⟨y, z, h1, h2⟩
    · show len ≤ _
      unfold maxLen at hm
      omega

set_option maxRecDepth 100000 in
theorem rd_row {a : Addr} {cs : List Value} {x : DataW H × List MemPlace} (hc : W.cells? 0 a 7 = some cs) (h : DataW.trod enc Try.prog W 0 sp held fuel 33 cs = some x) :
    a.spot = none ∧ ∃ t : ZT, Row W a.block a.off t := by
  obtain ⟨_, hlen, hcell⟩ := World.cells?_some hc
  obtain ⟨xs, q, _, _, _, hxl, hf⟩ := DataW.trod_struct Try.underlying33 h
  have hxl' : xs.length = 7 := hxl
  match cs, hlen with
  | [v0, v1, v2, v3, v4, v5, v6], _ =>
    have f0 := hf 0 _ rfl
    have f1 := hf 1 _ rfl
    have f2 := hf 2 _ rfl
    have f3 := hf 3 _ rfl
    have f4 := hf 4 _ rfl
    have f5 := hf 5 _ rfl
    have f6 := hf 6 _ rfl
    simp [cells21, cells4, cells30, cells31] at f0 f1 f2 f3 f4 f5 f6
    rw [List.getElem?_eq_getElem (by omega)] at f0 f1 f2 f3 f4 f5 f6
    obtain ⟨y0, e0, _, b0⟩ := DataW.trod_int Try.underlying21 f0
    obtain ⟨y1, e1, _, b1⟩ := DataW.trod_int Try.underlying21 f1
    obtain ⟨y2, e2, _⟩ := DataW.trod_bool Try.underlying4 f2
    obtain ⟨y3, e3, _⟩ := DataW.trod_bool Try.underlying4 f3
    obtain ⟨s4, e4, r4, l4⟩ := rd_ints f4
    obtain ⟨s5, e5, r5, l5⟩ := rd_fingers f5
    obtain ⟨s6, e6, r6, l6⟩ := rd_fingers f6
    simp at e0 e1 e2 e3
    subst e0 e1 e2 e3 e4 e5 e6
    have hs : a.spot = none := add_zero_spot (hcell 0 (by omega))
    simp [Lit.wf, IntKind.min, IntKind.max, IntKind.signed, IntKind.bits] at b0 b1
    have hcc : ∀ j, j < 7 → W.cell? ⟨a.block, a.off + j, none⟩ = ([.int .i32 y0, .int .i32 y1, .bool y2, .bool y3, .slice s4.a s4.n s4.c, .slice s5.a s5.n s5.c, .slice s6.a s6.n s6.c] : List Value)[j]? := fun j hj => by
      have := hcell j hj
      rw [addr_mk hs, Addr.add_mid] at this
      exact this
    refine ⟨hs, ⟨y0, y1, y2, y3, s4, s5, s6⟩, ?_⟩
    exact ⟨hcc 0 (by omega), hcc 1 (by omega), hcc 2 (by omega), hcc 3 (by omega), hcc 4 (by omega), hcc 5 (by omega), hcc 6 (by omega), r4, r5, r6, b0.1, b0.2, b1.1, b1.2, l4, l5, l6⟩

/-- THE TABLES OUT OF THE DATA. -/
theorem open_tabs {a : Option Addr} {len cap : Nat} {d : DataW H} {p : List MemPlace} (h : DataW.Trod enc Try.prog W 0 sp held 22 (.slice a len cap) d p) :
    len = 0 ∨ ∃ (b off : Nat) (t : Nat → ZT), a = some ⟨b, off, none⟩ ∧ len ≤ 9223372036854775807 ∧ Tabs W b off len t := by
  obtain ⟨fuel, hf⟩ := h
  rcases Go.Deep.open_slice Try.underlying22 hf with ⟨h0, _⟩ | ⟨a', len', cap', m, n, D, Pl, h0, _, hl, hm, hmm, _, hx⟩
  · simp [Value.cells] at h0
    exact .inl h0.2.1
  · simp [Value.cells] at h0
    obtain ⟨rfl, rfl, rfl⟩ := h0
    by_cases hz : len = 0
    · exact .inl hz
    · right
      have hlm : len ≤ m := by rw [hmm]; split <;> omega
      rw [cells33] at hx
      have hrow : ∀ i, i < len → (a'.add (i * 7)).spot = none ∧ ∃ t : ZT, Row W (a'.add (i * 7)).block (a'.add (i * 7)).off t := fun i hi => by
        obtain ⟨cs, h1, h2⟩ := hx i (Nat.lt_of_lt_of_le hi hlm)
        exact rd_row h1 h2
      have hs : a'.spot = none := by
        have := (hrow 0 (by omega)).1
        simpa [Addr.add] using this
      obtain ⟨b, o, s⟩ := a'
      dsimp only at hs
      subst hs
      have inh : Inhabited ZT := ⟨⟨0, 0, false, false, ⟨none, 0, 0⟩, ⟨none, 0, 0⟩, ⟨none, 0, 0⟩⟩⟩
      obtain ⟨t, ht⟩ := Go.Deep.choose_lt (p := fun i t => Row W b (o + i * 7) t) (n := len) (fun i hi => by
        obtain ⟨_, t, h⟩ := hrow i hi
        rw [Addr.add_mid] at h
        exact ⟨t, h⟩)
      exact ⟨b, o, t, rfl, by unfold maxLen at hm; omega, ht⟩
end

theorem walk (a : Option Addr) (len cap : Nat) (node : Int) (W : World) (h : len = 0 ∨ ∃ (b off : Nat) (t : Nat → ZT), a = some ⟨b, off, none⟩ ∧ len ≤ 9223372036854775807 ∧ Tabs W b off len t) :
    Calls Try.prog 8 #[.slice a len cap, .int .i64 node] W (LawPost W) := by
  rcases h with rfl | ⟨b, off, t, rfl, hn, hT⟩
  · exact law_nil a cap node W
  · by_cases h : node < 0 ∨ (len : Int) ≤ node
    · exact law_out b off len cap t node W hn hT h
    · obtain ⟨k, rfl⟩ := Int.eq_ofNat_of_zero_le (a := node) (by omega)
      exact law_in b off len cap t k W hn hT (by omega)
end Go.Proofs.Qxb6600017a
