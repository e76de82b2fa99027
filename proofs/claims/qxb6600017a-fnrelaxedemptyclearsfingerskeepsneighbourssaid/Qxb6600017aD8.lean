/-
  THE WALKS: zzIntList_b1, zzFingerList_b1.
-/
import Derived.Test.Qxb6600017aD7
namespace Go.Proofs.Qxb6600017a
open Go.RowKit
set_option linter.unusedSimpArgs false

/-- 'make([]T, n)', of which only the size is kept. -/
theorem wpList_makeS {P : Program} {w : World} {ops : Array Oper} {rest : List Oper} {o : Oper} {a : Act} {Q : Exit → Act → World → Prop}
    (hg : o.guard = none) (l c : Operand) (t : TypeId) (hop : o.op = Op.makeSlice t l c) (e : TypeId) (z : Value) (size bytes : Nat)
    (h1 : P.underlying t = some (.slice e)) (h2 : (P.info? e).map (fun i => (i.zero, i.size, i.bytes)) = some (some z, size, bytes))
    (n : Nat) (hl : a.eval l = .int .i64 (n : Nat)) (hc : a.eval c = .int .i64 (n : Nat)) (b2 : bytes * n ≤ 281474976710656) (b3 : n ≤ 9223372036854775807)
    (hK : ∀ C : Array Value, C.size = n * size → wpList P ops Q rest (a.put o.dst (.slice (some ⟨w.heap.size, 0, none⟩) n n)) (w.alloc (.cells C e))) :
    wpList P ops Q (o :: rest) a w := by
  obtain ⟨i, hi, hz, hs, hb⟩ := info_parts h2
  refine wpList_plain hg fun K hK' => ?_
  have hb' : (i.bytes : Int) * (n : Int) ≤ 281474976710656 := by
    rw [hb]
    have h : ((bytes * n : Nat) : Int) ≤ 281474976710656 := by omega
    rwa [Int.natCast_mul] at h
  have hrun := run_make (P := P) w t e i z h1 hi hz .i64 .i64 n n (by omega) (Int.le_refl _) hb' (by omega)
  simp only [Int.toNat_natCast] at hrun
  rw [hs] at hrun
  unfold Oper.wp
  simp [execOp, hop, hl, hc, hrun, Result.andThen]
  exact hK' _ _ (hK _ (size_madeCells _ _))

/-- What the lists give. -/
def LsPost (w : World) (s : Sl) (e : Ending) (w' : World) : Prop := ∃ s' : Sl, e = .returned (.slice s'.a s'.n s'.c) ∧ s'.n = s.n ∧ Below w.heap.size w w'
/-- What a list's loop keeps. -/
def FlI (w : World) (N : Nat) (w' : World) : Prop := Below w.heap.size w w' ∧ w'.there w.heap.size 0 N
theorem FlI.start (w : World) (C : Array Value) (e : TypeId) (N : Nat) (h : C.size = N) : FlI w N (w.alloc (.cells C e)) := by
  have := there_new w C e
  rw [h] at this
  exact ⟨(Below.refl _ _).alloc (Nat.le_refl _) _, this⟩
theorem FlI.put {w w' : World} {N : Nat} (h : FlI w N w') (o : Nat) (vs : List Value) : FlI w N (w'.setCells w.heap.size o vs) := ⟨below_setCells h.1 (Nat.le_refl _) _ _, World.there_setCells h.2 _ _ _⟩
theorem FlI.drew {w w' : World} {N : Nat} (h : FlI w N w') : FlI w N w'.drew := ⟨h.1.drew, h.2⟩

theorem info65 : (Try.prog.info? 65).map (fun i => (i.zero, i.size, i.bytes)) = some (some (.agg #[.int .i64 0, .int .i64 0]), 2, 16) := by kernel_rfl
theorem size65 : (Try.prog.info? 65).map (·.size) = some 2 := by kernel_rfl
theorem one2 (x y : Int) : (#[.int .i64 x, .int .i64 y] : Array Value).all (·.oneCell') = true := by simp [Value.oneCell']

theorem nil34 (w : World) (a : Option Addr) (n c : Nat) : (binOp .eql 34 (.slice a n c) (.slice none 0 0)).run Try.prog w = .ok (.bool a.isNone) w := Lib.run_eql_slice_nil w 34 3 a n c 0 0 Try.underlying34
theorem nil73 (w : World) (a : Option Addr) (n c : Nat) : (binOp .eql 73 (.slice a n c) (.slice none 0 0)).run Try.prog w = .ok (.bool a.isNone) w := Lib.run_eql_slice_nil w 73 92 a n c 0 0 Try.underlying73
set_option maxHeartbeats 2000000 in
set_option maxRecDepth 100000 in
theorem ints_any (s : Sl) (w : World) (hl : s.n ≤ 1048576) (hF : RdE isInt1 1 0 w s) : Calls Try.prog 44 #[.slice s.a s.n s.c] w (LsPost w s) := by
  obtain ⟨a, n, c⟩ := s
  dsimp only at hl ⊢
  cases a with
  | none =>
    have hn : n = 0 := by
      by_cases e : 0 < n
      · obtain ⟨b, o, e, _⟩ := hF e; cases e
      · omega
    subst hn
    clear hF
    go_enter Try.func44, Try.ntmps44
    go_wp2_with (simp only [nil34, Option.isNone])
    go_ret
    exact ⟨⟨none, 0, 0⟩, rfl, rfl, Below.refl _ _⟩
  | some a0 =>
    have HF : Hid _ := hF
    clear hF
    go_enter Try.func44, Try.ntmps44
    go_wp2_with (first | (at_make; refine wpList_makeS rfl (.tmp 8) (.tmp 8) 34 rfl 3 (.int .i64 0) 1 8 Try.underlying34 info3 n rfl rfl (by omega) (by omega) ?_; intro C hC) | simp only [nil34, Option.isNone])
    have hW := FlI.start w C 3 n (by omega)
    generalize w.alloc (.cells C 3) = W0 at *
    go_loopg [4] n (fun g s4 wx => ∃ i : Nat, i + g = n ∧ s4 = .int .i64 i ∧ FlI w n wx)
    case atStart => exact ⟨0, by omega, rfl, hW⟩
    case round =>
      obtain ⟨i, hig, rfl, hI⟩ := hrel
      cases gk with
      | zero =>
        obtain rfl : n = i := by omega
        go_wp2
        go_ret
        exact ⟨⟨some ⟨w.heap.size, 0, none⟩, n, n⟩, rfl, rfl, hI.1⟩
      | succ g =>
        have hi : i < n := by omega
        have hi1 : (i : Int) < (n : Int) := by omega
        obtain ⟨b, o, hab, _, he⟩ := HF.out (by omega)
        have hbl := RdE.lt isInt1_hd (s := ⟨some a0, n, c⟩) (by dsimp only; omega) he
        obtain ⟨cs, _, ⟨p, rfl⟩, h3⟩ := he.below hI.1 hbl i hi
        obtain rfl := Option.some.inj hab
        have k0 := h3 0 _ rfl
        simp only [Nat.add_zero, Nat.mul_one] at k0
        obtain ⟨t1, t2⟩ := hI.2 i hi
        obtain ⟨u0, t1⟩ := Option.isSome_iff_exists.1 t1
        rw [Nat.zero_add] at t1 t2
        have HI : Hid (FlI w n wr) := hI
        clear hI he h3
        go_wp2
        go_roundg g
        case measure => omega
        case rel => exact ⟨i + 1, by omega, by go_num, HI.out.put i [.int .i64 p]⟩

set_option maxHeartbeats 2000000 in
set_option maxRecDepth 100000 in
theorem fingers_any (s : Sl) (w : World) (hl : s.n ≤ 1048576) (hF : RdE isInt2 2 0 w s) : Calls Try.prog 45 #[.slice s.a s.n s.c] w (LsPost w s) := by
  obtain ⟨a, n, c⟩ := s
  dsimp only at hl ⊢
  cases a with
  | none =>
    have hn : n = 0 := by
      by_cases e : 0 < n
      · obtain ⟨b, o, e, _⟩ := hF e; cases e
      · omega
    subst hn
    clear hF
    go_enter Try.func45, Try.ntmps45
    go_wp2_with (simp only [nil73, Option.isNone])
    go_ret
    exact ⟨⟨none, 0, 0⟩, rfl, rfl, Below.refl _ _⟩
  | some a0 =>
    have HF : Hid _ := hF
    clear hF
    go_enter Try.func45, Try.ntmps45
    go_wp2_with (first | (at_make; refine wpList_makeS rfl (.tmp 8) (.tmp 8) 35 rfl 65 (.agg #[.int .i64 0, .int .i64 0]) 2 16 Try.underlying35 info65 n rfl rfl (by omega) (by omega) ?_; intro C hC) | simp only [nil73, Option.isNone])
    have hW := FlI.start w C 65 (n * 2) hC
    generalize w.alloc (.cells C 65) = W0 at *
    go_loopg [4] n (fun g s4 wx => ∃ i : Nat, i + g = n ∧ s4 = .int .i64 i ∧ FlI w (n * 2) wx)
    case atStart => exact ⟨0, by omega, rfl, hW⟩
    case round =>
      obtain ⟨i, hig, rfl, hI⟩ := hrel
      cases gk with
      | zero =>
        obtain rfl : n = i := by omega
        go_wp2
        go_ret
        exact ⟨⟨some ⟨w.heap.size, 0, none⟩, n, n⟩, rfl, rfl, hI.1⟩
      | succ g =>
        have hi : i < n := by omega
        have hi1 : (i : Int) < (n : Int) := by omega
        obtain ⟨b, o, hab, _, he⟩ := HF.out (by omega)
        have hbl := RdE.lt isInt2_hd (s := ⟨some a0, n, c⟩) (by dsimp only; omega) he
        obtain ⟨cs, _, ⟨p, q, rfl⟩, h3⟩ := he i hi
        obtain rfl := Option.some.inj hab
        have mk : Hid (∀ w', FlI w (n * 2) w' → (w'.cell? ⟨b, o + i * 2, none⟩ = some (.int .i64 p) ∧ w'.cell? ⟨b, o + i * 2 + 1, none⟩ = some (.int .i64 q) ∧ FlI w (n * 2) w')) := fun w' hI => ⟨by rw [hI.1.cell hbl]; exact h3 0 _ rfl, by rw [hI.1.cell hbl]; exact h3 1 _ rfl, hI⟩
        have HI : Hid (FlI w (n * 2) wr) := hI
        clear hI he h3
        go_wp2
        refine wp_region_held_drew (S := fun w' => w'.cell? ⟨b, o + i * 2, none⟩ = some (.int .i64 p) ∧ w'.cell? ⟨b, o + i * 2 + 1, none⟩ = some (.int .i64 q) ∧ FlI w (n * 2) w') (by kernel_rfl) (mk.out _ HI.out.drew) (fun hHeld => ?_)
        refine wpAnyH_take (i := 0) (v := ?_) rfl (by kernel_rfl) (by kernel_rfl) (by kernel_rfl) (fun _ _ _ h => h) (Or.inl ⟨by rfl, ?_⟩) hHeld ?_
        rotate_left
        · (intro wS hSw; (try dsimp only at hSw); go_simp; try with_reducible rfl)
        try simp only [Act.put, List.getElem_toArray, List.getElem_cons_zero, List.getElem_cons_succ, List.setIfInBounds_toArray, List.set_cons_zero, List.set_cons_succ]
        refine wpAnyH_take (i := 1) (v := ?_) rfl (by kernel_rfl) (by kernel_rfl) (by kernel_rfl) (fun _ _ _ h => h) (Or.inl ⟨by rfl, ?_⟩) hHeld ?_
        rotate_left
        · (intro wS hSw; (try dsimp only at hSw); go_simp; try with_reducible rfl)
        try simp only [Act.put, List.getElem_toArray, List.getElem_cons_zero, List.getElem_cons_succ, List.setIfInBounds_toArray, List.set_cons_zero, List.set_cons_succ]
        refine wpAnyH_take (i := 2) (v := ?_) rfl (by kernel_rfl) (by kernel_rfl) (by kernel_rfl) (fun _ _ _ h => h) (Or.inl ⟨by rfl, ?_⟩) hHeld ?_
        rotate_left
        · (intro wS hSw; (try dsimp only at hSw); go_simp; try with_reducible rfl)
        try simp only [Act.put, List.getElem_toArray, List.getElem_cons_zero, List.getElem_cons_succ, List.setIfInBounds_toArray, List.set_cons_zero, List.set_cons_succ]
        refine wpAnyH_take (i := 3) (v := ?_) rfl (by kernel_rfl) (by kernel_rfl) (by kernel_rfl) (fun _ _ _ h => h) (Or.inl ⟨by rfl, ?_⟩) hHeld ?_
        rotate_left
        · (intro wS hSw; (try dsimp only at hSw); go_simp; try with_reducible rfl)
        try simp only [Act.put, List.getElem_toArray, List.getElem_cons_zero, List.getElem_cons_succ, List.setIfInBounds_toArray, List.set_cons_zero, List.set_cons_succ]
        refine wpAnyH_take (i := 4) (v := ?_) rfl (by kernel_rfl) (by kernel_rfl) (by kernel_rfl) (fun _ _ _ h => h) (Or.inl ⟨by rfl, ?_⟩) hHeld ?_
        rotate_left
        · (intro wS hSw; (try dsimp only at hSw); go_simp; try with_reducible rfl)
        try simp only [Act.put, List.getElem_toArray, List.getElem_cons_zero, List.getElem_cons_succ, List.setIfInBounds_toArray, List.set_cons_zero, List.set_cons_succ]
        refine wpAnyH_take (i := 5) (v := ?_) rfl (by kernel_rfl) (by kernel_rfl) (by kernel_rfl) (fun _ _ _ h => h) (Or.inl ⟨by rfl, ?_⟩) hHeld ?_
        rotate_left
        · (intro wS hSw; (try dsimp only at hSw); go_simp; try with_reducible rfl)
        try simp only [Act.put, List.getElem_toArray, List.getElem_cons_zero, List.getElem_cons_succ, List.setIfInBounds_toArray, List.set_cons_zero, List.set_cons_succ]
        refine wpAnyH_take (i := 6) (v := ?_) rfl (by kernel_rfl) (by kernel_rfl) (by kernel_rfl) (fun _ _ _ h => h) (Or.inl ⟨by rfl, ?_⟩) hHeld ?_
        rotate_left
        · (intro wS hSw; (try dsimp only at hSw); go_simp; try with_reducible rfl)
        try simp only [Act.put, List.getElem_toArray, List.getElem_cons_zero, List.getElem_cons_succ, List.setIfInBounds_toArray, List.set_cons_zero, List.set_cons_succ]
        refine wpAnyH_take (i := 7) (v := ?_) rfl (by kernel_rfl) (by kernel_rfl) (by kernel_rfl) (fun _ _ _ h => h) (Or.inl ⟨by rfl, ?_⟩) hHeld ?_
        rotate_left
        · (intro wS hSw; (try dsimp only at hSw); go_simp; try with_reducible rfl)
        try simp only [Act.put, List.getElem_toArray, List.getElem_cons_zero, List.getElem_cons_succ, List.setIfInBounds_toArray, List.set_cons_zero, List.set_cons_succ]
        refine wpAnyH_take (i := 8) (v := ?_) rfl (by kernel_rfl) (by kernel_rfl) (by kernel_rfl) (fun _ _ _ h => h) (Or.inl ⟨by rfl, ?_⟩) hHeld ?_
        rotate_left
        · (intro wS hSw; (try dsimp only at hSw); go_simp; try with_reducible rfl)
        try simp only [Act.put, List.getElem_toArray, List.getElem_cons_zero, List.getElem_cons_succ, List.setIfInBounds_toArray, List.set_cons_zero, List.set_cons_succ]
        refine wpAnyH_take (i := 9) (v := ?_) rfl (by kernel_rfl) (by kernel_rfl) (by kernel_rfl) (fun _ _ _ h => h) (Or.inl ⟨by rfl, ?_⟩) hHeld ?_
        rotate_left
        · (intro wS hSw; (try dsimp only at hSw); go_simp; try with_reducible rfl)
        try simp only [Act.put, List.getElem_toArray, List.getElem_cons_zero, List.getElem_cons_succ, List.setIfInBounds_toArray, List.set_cons_zero, List.set_cons_succ]
        refine wpAnyH_take (i := 10) (v := ?_) rfl (by kernel_rfl) (by kernel_rfl) (by kernel_rfl) (fun _ _ _ h => h) (Or.inl ⟨by rfl, ?_⟩) hHeld ?_
        rotate_left
        · (intro wS hSw; (try dsimp only at hSw); go_simp; try with_reducible rfl)
        try simp only [Act.put, List.getElem_toArray, List.getElem_cons_zero, List.getElem_cons_succ, List.setIfInBounds_toArray, List.set_cons_zero, List.set_cons_succ]
        refine wpAnyH_take (i := 11) (v := ?_) rfl (by kernel_rfl) (by kernel_rfl) (by kernel_rfl) (fun _ _ _ h => h) (Or.inl ⟨by rfl, ?_⟩) hHeld ?_
        rotate_left
        · (intro wS hSw; (try dsimp only at hSw); go_simp; try with_reducible rfl)
        try simp only [Act.put, List.getElem_toArray, List.getElem_cons_zero, List.getElem_cons_succ, List.setIfInBounds_toArray, List.set_cons_zero, List.set_cons_succ]
        refine wpAnyH_take (i := 12) (v := ?_) rfl (by kernel_rfl) (by kernel_rfl) (by kernel_rfl) (fun _ _ _ h => h) (Or.inl ⟨by rfl, ?_⟩) hHeld ?_
        rotate_left
        · (intro wS hSw; (try dsimp only at hSw); go_simp; try with_reducible rfl)
        try simp only [Act.put, List.getElem_toArray, List.getElem_cons_zero, List.getElem_cons_succ, List.setIfInBounds_toArray, List.set_cons_zero, List.set_cons_succ]
        refine wpAnyH_take (i := 13) (v := ?_) rfl (by kernel_rfl) (by kernel_rfl) (by kernel_rfl) (fun _ _ _ h => h) (Or.inl ⟨by rfl, ?_⟩) hHeld ?_
        rotate_left
        · (intro wS hSw; (try dsimp only at hSw); go_simp; try with_reducible rfl)
        try simp only [Act.put, List.getElem_toArray, List.getElem_cons_zero, List.getElem_cons_succ, List.setIfInBounds_toArray, List.set_cons_zero, List.set_cons_succ]
        refine wpAnyH_ready (rs := [14]) (by kernel_rfl) (by simp) ?_
        refine AllReadyH.cons rfl (fun K' hK => ?_) AllReadyH.nil
        rw [if_pos (by rfl)]
        refine wp_storeN 65 (.tmp 29) (.tmp 28) rfl w.heap.size (i * 2) #[.int .i64 p, .int .i64 q] 2 rfl rfl rfl (there_part hHeld.2.2.2 (by omega) (by omega)) size65 (one2 _ _) ?_
        refine hK.out _ _ (mk.out _ (hHeld.2.2.put _ _)) (fun hH1 => ?_)
        clear hK
        refine wpAnyH_done (by kernel_rfl) ?_ _
        go_wp2
        go_roundg g
        case measure => omega
        case rel => exact ⟨i + 1, by omega, by go_num, hH1.2.2⟩
end Go.Proofs.Qxb6600017a
