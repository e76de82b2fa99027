/-
  THE WALK: hostRules.candidates.
-/
import Derived.Test.Qxb6600159aE10
import Derived.Deep.RegionHeld3
namespace Go.Proofs.Qxb6600159a
open Go.RowKit Plain Go.Maps Go.WideMaps
set_option linter.unusedSimpArgs false

theorem mapne (w : World) (r : Option Nat) : (binOp .neq 47 (.map r) (.map none)).run Try.prog w = .ok (.bool (!r.isNone)) w := run_neq_map_nil w 47 9 26 r Try.underlying47
theorem mapeq (w : World) (r : Option Nat) : (binOp .eql 47 (.map r) (.map none)).run Try.prog w = .ok (.bool r.isNone) w := run_eql_map_nil w 47 9 26 r Try.underlying47

theorem rdJ {w : World} {Bc np : Nat} {K : Nat → ByteArray} {L : Nat → Sl} {f : Nat → List Int} (s : ByteArray) (h : ∀ j, j < np → RdI Bc w (L j) (f j) ∧ Asc (f j)) : RdI Bc w (slJ L (lastJ K s np)) (ctJ f (lastJ K s np)) ∧ Asc (ctJ f (lastJ K s np)) := by
  cases e : lastJ K s np with
  | none => exact ⟨⟨rfl, ⟨Nat.le_refl _, fun _ h => absurd h (by simp [ctJ])⟩, fun h => absurd h (Nat.lt_irrefl 0)⟩, Asc.nil⟩
  | some j => exact h j (lastJ_some e).1
theorem cdi_start {w w1 : World} {C B Bc np : Nat} {A : List Int} {K : Nat → ByteArray} {f : Nat → List Int} {p : ByteArray} {L0 : Nat → Sl} {sA : Sl} {e : Ending} (h0 : Cand w C B 0 L0) (hC : Bc ≤ C) (hA : RdI Bc w sA A) (aA : Asc A) (hP : AddPost w C B 0 L0 sA e w1) : CdI w C B Bc np A K f p 0 w1 := by
  obtain ⟨N', Ls', F', q1, q2, q3, q4⟩ := bld_add (F := fun _ => []) ⟨h0, fun k hk => absurd hk (by omega)⟩ hC hP hA aA
  refine ⟨hP.2.1, N', Ls', F', q1, fun v => ?_, by rw [q3]; simp [sum], by omega⟩
  rw [q2 v]
  constructor
  · rintro (⟨k, hk, _⟩ | h)
    · omega
    · exact .inl h
  · rintro (h | ⟨q, hq, _⟩)
    · exact .inr h
    · omega

set_option maxHeartbeats 4000000 in
set_option maxRecDepth 100000 in
theorem cand_any (Hb C B Bc np : Nat) (pm : Option Nat) (sA : Sl) (A : List Int) (K : Nat → ByteArray) (L L0 : Nat → Sl) (f : Nat → List Int) (p : ByteArray) (w : World) (hH : Host w Hb C pm sA K L np) (hC : Bc ≤ C) (h0 : Cand w C B 0 L0) (hA : RdI Bc w sA A) (aA : Asc A)
    (hL : ∀ j, j < np → RdI Bc w (L j) (f j) ∧ Asc (f j)) (hp : p.size ≤ 2097150) :
    Calls Try.prog 42 #[.pointer (some ⟨Hb, 0, none⟩), .pointer (some ⟨C, 0, none⟩), .string p] w (CdPost w C B Bc np A K f p) := by
  have x2 : w.cell? ⟨Hb, 2, none⟩ = some (.slice sA.a sA.n sA.c) := cell_of_row w Hb 2 _ _ _ hH.box
  have HH : Hid (Host w Hb C pm sA K L np) := hH
  have hCB := h0.lt
  have HC0 : Hid (Calls Try.prog 39 #[.pointer (some ⟨C, 0, none⟩), .slice sA.a sA.n sA.c] w (AddPost w C B 0 L0 sA)) := add_any C B 0 L0 sA w (by omega) h0
  have HS : Hid (∀ e w1, AddPost w C B 0 L0 sA e w1 → CdI w C B Bc np A K f p 0 w1) := fun e w1 h => cdi_start h0 hC hA aA h
  have HL : Hid (∀ j, j < np → RdI Bc w (L j) (f j) ∧ Asc (f j)) := hL
  clear hH h0 hA aA hL
  go_enter Try.func42, Try.ntmps42
  go_upto_region 1 with (go_at_call 39; refine Calls.mono HC0.out ?_; rintro e w1 ⟨rfl, hAp⟩)
  have HI0 : Hid (CdI w C B Bc np A K f p 0 w1) := HS.out _ w1 ⟨rfl, hAp⟩
  clear hAp HS HC0 x2
  have x1 : w1.cell? ⟨Hb, 1, none⟩ = some (.map none) := cell_of_row w1 Hb 1 _ _ _ (HH.out.fr HI0.out.1 hCB).box
  have x0 : w1.cell? ⟨Hb, 0, none⟩ = some (.map pm) := cell_of_row w1 Hb 0 _ _ _ (HH.out.fr HI0.out.1 hCB).box
  cases pm with
  | none =>
    go_wp2_with (simp only [mapne, mapeq, Option.isNone])
    go_end0
    obtain ⟨q1, N, Ls, F, q2, q3, q4, q5⟩ := HI0.out
    obtain rfl : np = 0 := HH.out.nil rfl
    refine ⟨rfl, q1, N, Ls, F, q2, fun v => ?_, by have := G_le K f 0 0; omega, by omega⟩
    rw [q3 v]
    constructor
    · rintro (h | ⟨q, hq, _⟩)
      · exact .inl h
      · omega
    · rintro (h | ⟨q, _, h⟩)
      · exact .inl h
      · simp [lastJ, ctJ] at h
  | some M =>
    go_wp2_with (simp only [mapne, mapeq, Option.isNone])
    go_loopg [6] (p.size + 1) (fun g s6 wx => ∃ i : Nat, i + g = p.size + 1 ∧ s6 = .int .i64 i ∧ CdI w C B Bc np A K f p i wx)
    case atStart => exact ⟨0, by omega, rfl, HI0.out⟩
    case round =>
      obtain ⟨i, hig, rfl, hI⟩ := hrel
      have HI : Hid (CdI w C B Bc np A K f p i wr) := hI
      clear hI HI0 x0 x1
      cases gk with
      | zero =>
        obtain rfl : i = p.size + 1 := by omega
        go_wp2
        go_end0
        exact HI.out.done
      | succ g =>
        have hi : i ≤ p.size := by omega
        obtain ⟨Z, hZ0⟩ : ∃ Z, slJ L (lastJ K (p.extract 0 i) np) = Z := ⟨_, rfl⟩
        have hZ : Hid (slJ L (lastJ K (p.extract 0 i) np) = Z) := hZ0
        clear hZ0
        by_cases hend : i = p.size
        · have hend' : ((i : Int) == (p.size : Int)) = true := by simp [hend]
          have hSt : Hid (Stop p i) := ⟨hi, .inl hend⟩
          clear hend
          obtain ⟨h1, N, Ls, F, h2, h3, h4, h5⟩ := HI.out
          have mk : Hid (∀ w', Fr C B w w' → (w'.cell? ⟨Hb, 0, none⟩ = some (.map (some M)) ∧ (Instr.lookup 47 (.map (some M)) (.string (p.extract 0 i)) false).run Try.prog w' = .ok (.slice Z.a Z.n Z.c) w' ∧ Fr C B w w')) := fun w' h => ⟨cell_of_row w' Hb 0 _ _ _ (HH.out.fr h hCB).box, by rw [← hZ.out]; exact (HH.out.fr h hCB).look _ (by simp; omega), h⟩
          have h1d : Fr C B w wr.drew := ⟨h1.os, h1.tape, h1.output, h1.size, h1.block⟩
          have h2d : Hid (Bld wr.drew C B Bc N Ls F) := ⟨⟨h2.1.th, h2.1.inl, h2.1.any, h2.1.num, h2.1.more, h2.1.lt, h2.1.le⟩, fun k hk => h2.2 k hk⟩
          have hJ := rdJ (K := K) (p.extract 0 i) HL.out
          rw [hZ.out] at hJ
          have HJ : Hid (RdI Bc wr.drew Z (ctJ f (lastJ K (p.extract 0 i) np)) ∧ Asc (ctJ f (lastJ K (p.extract 0 i) np))) := ⟨hJ.1.below (h1d.below hC (by omega)), hJ.2⟩
          have H3 : Hid (∀ v, Mem F N v ↔ v ∈ A ∨ ∃ q, q < i ∧ Stop p q ∧ v ∈ ctJ f (lastJ K (p.extract 0 q) np)) := h3
          have H4 : Hid (sum F N ≤ A.length + G K f i np) := h4
          clear h1 h2 h3 h4 hJ
          go_upto_region 8 with fail
          refine wp_region_held_drew (S := fun w' => w'.cell? ⟨Hb, 0, none⟩ = some (.map (some M)) ∧ (Instr.lookup 47 (.map (some M)) (.string (p.extract 0 i)) false).run Try.prog w' = .ok (.slice Z.a Z.n Z.c) w' ∧ Fr C B w w') (by kernel_rfl) (mk.out _ h1d) (fun hHeld => ?_)
          refine wpAnyH_take (i := 0) (v := ?_) rfl (by kernel_rfl) (by kernel_rfl) (by kernel_rfl) (fun _ _ _ h => h) (Or.inl ⟨by rfl, ?_⟩) hHeld ?_
          rotate_left
          · (intro wS hSw; (try dsimp only at hSw); go_simp; try with_reducible rfl)
          try simp only [Act.put, List.getElem_toArray, List.getElem_cons_zero, List.getElem_cons_succ, List.setIfInBounds_toArray, List.set_cons_zero, List.set_cons_succ]
          refine wpAnyH_take (i := 1) (v := ?_) rfl (by kernel_rfl) (by kernel_rfl) (by kernel_rfl) (fun _ _ _ h => h) (Or.inl ⟨by rfl, ?_⟩) hHeld ?_
          rotate_left
          · (intro wS hSw; (try dsimp only at hSw); go_simp; try with_reducible rfl)
          try simp only [Act.put, List.getElem_toArray, List.getElem_cons_zero, List.getElem_cons_succ, List.setIfInBounds_toArray, List.set_cons_zero, List.set_cons_succ]
          refine wpAnyH_take (i := 2) (v := ?_) rfl (by kernel_rfl) (by kernel_rfl) (by kernel_rfl) (fun _ _ _ h => h) (Or.inl ⟨by rfl, ?_⟩) hHeld ?_
          rotate_left
          · (intro wS hSw; (try dsimp only at hSw); go_simp; try with_reducible rfl)
          try simp only [Act.put, List.getElem_toArray, List.getElem_cons_zero, List.getElem_cons_succ, List.setIfInBounds_toArray, List.set_cons_zero, List.set_cons_succ]
          refine wpAnyH_take (i := 3) (v := ?_) rfl (by kernel_rfl) (by kernel_rfl) (by kernel_rfl) (fun _ _ _ h => h) (Or.inl ⟨by rfl, ?_⟩) hHeld ?_
          rotate_left
          · (intro wS hSw; (try dsimp only at hSw); go_simp; try with_reducible rfl)
          try simp only [Act.put, List.getElem_toArray, List.getElem_cons_zero, List.getElem_cons_succ, List.setIfInBounds_toArray, List.set_cons_zero, List.set_cons_succ]
          refine wpAnyH_take (i := 4) (v := ?_) rfl (by kernel_rfl) (by kernel_rfl) (by kernel_rfl) (fun _ _ _ h => h) (Or.inl ⟨by rfl, ?_⟩) hHeld ?_
          rotate_left
          · (intro wS hSw; (try dsimp only at hSw); go_simp; try with_reducible rfl)
          try simp only [Act.put, List.getElem_toArray, List.getElem_cons_zero, List.getElem_cons_succ, List.setIfInBounds_toArray, List.set_cons_zero, List.set_cons_succ]
          refine wpAnyH_take (i := 5) (v := ?_) rfl (by kernel_rfl) (by kernel_rfl) (by kernel_rfl) (fun _ _ _ h => h) (Or.inl ⟨by rfl, ?_⟩) hHeld ?_
          rotate_left
          · (intro wS hSw; (try dsimp only at hSw); go_simp; try with_reducible rfl)
          try simp only [Act.put, List.getElem_toArray, List.getElem_cons_zero, List.getElem_cons_succ, List.setIfInBounds_toArray, List.set_cons_zero, List.set_cons_succ]
          refine wpAnyH_take (i := 6) (v := ?_) rfl (by kernel_rfl) (by kernel_rfl) (by kernel_rfl) (fun _ _ _ h => h) (Or.inl ⟨by rfl, ?_⟩) hHeld ?_
          rotate_left
          · (intro wS hSw; (try dsimp only at hSw); go_simp; try with_reducible rfl)
          try simp only [Act.put, List.getElem_toArray, List.getElem_cons_zero, List.getElem_cons_succ, List.setIfInBounds_toArray, List.set_cons_zero, List.set_cons_succ]
          refine wpAnyH_take (i := 7) (v := ?_) rfl (by kernel_rfl) (by kernel_rfl) (by kernel_rfl) (fun _ _ _ h => h) (Or.inl ⟨by rfl, ?_⟩) hHeld ?_
          rotate_left
          · (intro wS hSw; (try dsimp only at hSw); go_simp; try with_reducible rfl)
          try simp only [Act.put, List.getElem_toArray, List.getElem_cons_zero, List.getElem_cons_succ, List.setIfInBounds_toArray, List.set_cons_zero, List.set_cons_succ]
          refine wpAnyH_take (i := 8) (v := ?_) rfl (by kernel_rfl) (by kernel_rfl) (by kernel_rfl) (fun _ _ _ h => h) (Or.inl ⟨by rfl, ?_⟩) hHeld ?_
          rotate_left
          · (intro wS hSw; (try dsimp only at hSw); go_simp; try with_reducible rfl)
          try simp only [Act.put, List.getElem_toArray, List.getElem_cons_zero, List.getElem_cons_succ, List.setIfInBounds_toArray, List.set_cons_zero, List.set_cons_succ]
          refine wpAnyH_ready (rs := [9]) (by kernel_rfl) (by simp) ?_
          refine AllReadyH.cons rfl (fun K' hK => ?_) AllReadyH.nil
          go_simp
          refine (add_any C B N Ls Z _ (by omega) h2d.out.1).mono ?_
          rintro e w1 ⟨rfl, hAdd⟩
          have HN : Hid (CdI w C B Bc np A K f p (i + 1) w1) := CdI.add h1d h2d.out H3.out H4.out h5 hC hSt.out ⟨rfl, hAdd⟩ HJ.out.1 HJ.out.2
          dsimp only
          refine hK.out _ _ (mk.out _ HN.out.1) (fun hH1 => ?_)
          clear hK hHeld hH1 hAdd
          try simp only [Act.put, List.getElem_toArray, List.getElem_cons_zero, List.getElem_cons_succ, List.setIfInBounds_toArray, List.set_cons_zero, List.set_cons_succ]
          refine wpAnyH_done (by kernel_rfl) ?_ _
          go_wp2
          go_roundg g
          case measure => omega
          case rel => exact ⟨i + 1, by omega, by go_num, HN.out⟩
        · have hlt : i < p.size := by omega
          by_cases hsl : p[i] = 47
          · have hsl' : ((p[i].toNat : Int) == 47) = true := by rw [hsl]; rfl
            have hend' : ((i : Int) == (p.size : Int)) = false := by rw [beq_eq_false_iff_ne]; omega
            have hSt : Hid (Stop p i) := ⟨hi, .inr ⟨hlt, hsl⟩⟩
            clear hsl
            obtain ⟨h1, N, Ls, F, h2, h3, h4, h5⟩ := HI.out
            have mk : Hid (∀ w', Fr C B w w' → (w'.cell? ⟨Hb, 0, none⟩ = some (.map (some M)) ∧ (Instr.lookup 47 (.map (some M)) (.string (p.extract 0 i)) false).run Try.prog w' = .ok (.slice Z.a Z.n Z.c) w' ∧ Fr C B w w')) := fun w' h => ⟨cell_of_row w' Hb 0 _ _ _ (HH.out.fr h hCB).box, by rw [← hZ.out]; exact (HH.out.fr h hCB).look _ (by simp; omega), h⟩
            have h1d : Fr C B w wr.drew := ⟨h1.os, h1.tape, h1.output, h1.size, h1.block⟩
            have h2d : Hid (Bld wr.drew C B Bc N Ls F) := ⟨⟨h2.1.th, h2.1.inl, h2.1.any, h2.1.num, h2.1.more, h2.1.lt, h2.1.le⟩, fun k hk => h2.2 k hk⟩
            have hJ := rdJ (K := K) (p.extract 0 i) HL.out
            rw [hZ.out] at hJ
            have HJ : Hid (RdI Bc wr.drew Z (ctJ f (lastJ K (p.extract 0 i) np)) ∧ Asc (ctJ f (lastJ K (p.extract 0 i) np))) := ⟨hJ.1.below (h1d.below hC (by omega)), hJ.2⟩
            have H3 : Hid (∀ v, Mem F N v ↔ v ∈ A ∨ ∃ q, q < i ∧ Stop p q ∧ v ∈ ctJ f (lastJ K (p.extract 0 q) np)) := h3
            have H4 : Hid (sum F N ≤ A.length + G K f i np) := h4
            clear h1 h2 h3 h4 hJ
            go_upto_region 8 with fail
            refine wp_region_held_drew (S := fun w' => w'.cell? ⟨Hb, 0, none⟩ = some (.map (some M)) ∧ (Instr.lookup 47 (.map (some M)) (.string (p.extract 0 i)) false).run Try.prog w' = .ok (.slice Z.a Z.n Z.c) w' ∧ Fr C B w w') (by kernel_rfl) (mk.out _ h1d) (fun hHeld => ?_)
            refine wpAnyH_take (i := 0) (v := ?_) rfl (by kernel_rfl) (by kernel_rfl) (by kernel_rfl) (fun _ _ _ h => h) (Or.inl ⟨by rfl, ?_⟩) hHeld ?_
            rotate_left
            · (intro wS hSw; (try dsimp only at hSw); go_simp; try with_reducible rfl)
            try simp only [Act.put, List.getElem_toArray, List.getElem_cons_zero, List.getElem_cons_succ, List.setIfInBounds_toArray, List.set_cons_zero, List.set_cons_succ]
            refine wpAnyH_take (i := 1) (v := ?_) rfl (by kernel_rfl) (by kernel_rfl) (by kernel_rfl) (fun _ _ _ h => h) (Or.inl ⟨by rfl, ?_⟩) hHeld ?_
            rotate_left
            · (intro wS hSw; (try dsimp only at hSw); go_simp; try with_reducible rfl)
            try simp only [Act.put, List.getElem_toArray, List.getElem_cons_zero, List.getElem_cons_succ, List.setIfInBounds_toArray, List.set_cons_zero, List.set_cons_succ]
            refine wpAnyH_take (i := 2) (v := ?_) rfl (by kernel_rfl) (by kernel_rfl) (by kernel_rfl) (fun _ _ _ h => h) (Or.inl ⟨by rfl, ?_⟩) hHeld ?_
            rotate_left
            · (intro wS hSw; (try dsimp only at hSw); go_simp; try with_reducible rfl)
            try simp only [Act.put, List.getElem_toArray, List.getElem_cons_zero, List.getElem_cons_succ, List.setIfInBounds_toArray, List.set_cons_zero, List.set_cons_succ]
            refine wpAnyH_take (i := 3) (v := ?_) rfl (by kernel_rfl) (by kernel_rfl) (by kernel_rfl) (fun _ _ _ h => h) (Or.inl ⟨by rfl, ?_⟩) hHeld ?_
            rotate_left
            · (intro wS hSw; (try dsimp only at hSw); go_simp; try with_reducible rfl)
            try simp only [Act.put, List.getElem_toArray, List.getElem_cons_zero, List.getElem_cons_succ, List.setIfInBounds_toArray, List.set_cons_zero, List.set_cons_succ]
            refine wpAnyH_take (i := 4) (v := ?_) rfl (by kernel_rfl) (by kernel_rfl) (by kernel_rfl) (fun _ _ _ h => h) (Or.inl ⟨by rfl, ?_⟩) hHeld ?_
            rotate_left
            · (intro wS hSw; (try dsimp only at hSw); go_simp; try with_reducible rfl)
            try simp only [Act.put, List.getElem_toArray, List.getElem_cons_zero, List.getElem_cons_succ, List.setIfInBounds_toArray, List.set_cons_zero, List.set_cons_succ]
            refine wpAnyH_take (i := 5) (v := ?_) rfl (by kernel_rfl) (by kernel_rfl) (by kernel_rfl) (fun _ _ _ h => h) (Or.inl ⟨by rfl, ?_⟩) hHeld ?_
            rotate_left
            · (intro wS hSw; (try dsimp only at hSw); go_simp; try with_reducible rfl)
            try simp only [Act.put, List.getElem_toArray, List.getElem_cons_zero, List.getElem_cons_succ, List.setIfInBounds_toArray, List.set_cons_zero, List.set_cons_succ]
            refine wpAnyH_take (i := 6) (v := ?_) rfl (by kernel_rfl) (by kernel_rfl) (by kernel_rfl) (fun _ _ _ h => h) (Or.inl ⟨by rfl, ?_⟩) hHeld ?_
            rotate_left
            · (intro wS hSw; (try dsimp only at hSw); go_simp; try with_reducible rfl)
            try simp only [Act.put, List.getElem_toArray, List.getElem_cons_zero, List.getElem_cons_succ, List.setIfInBounds_toArray, List.set_cons_zero, List.set_cons_succ]
            refine wpAnyH_take (i := 7) (v := ?_) rfl (by kernel_rfl) (by kernel_rfl) (by kernel_rfl) (fun _ _ _ h => h) (Or.inl ⟨by rfl, ?_⟩) hHeld ?_
            rotate_left
            · (intro wS hSw; (try dsimp only at hSw); go_simp; try with_reducible rfl)
            try simp only [Act.put, List.getElem_toArray, List.getElem_cons_zero, List.getElem_cons_succ, List.setIfInBounds_toArray, List.set_cons_zero, List.set_cons_succ]
            refine wpAnyH_take (i := 8) (v := ?_) rfl (by kernel_rfl) (by kernel_rfl) (by kernel_rfl) (fun _ _ _ h => h) (Or.inl ⟨by rfl, ?_⟩) hHeld ?_
            rotate_left
            · (intro wS hSw; (try dsimp only at hSw); go_simp; try with_reducible rfl)
            try simp only [Act.put, List.getElem_toArray, List.getElem_cons_zero, List.getElem_cons_succ, List.setIfInBounds_toArray, List.set_cons_zero, List.set_cons_succ]
            refine wpAnyH_ready (rs := [9]) (by kernel_rfl) (by simp) ?_
            refine AllReadyH.cons rfl (fun K' hK => ?_) AllReadyH.nil
            go_simp
            refine (add_any C B N Ls Z _ (by omega) h2d.out.1).mono ?_
            rintro e w1 ⟨rfl, hAdd⟩
            have HN : Hid (CdI w C B Bc np A K f p (i + 1) w1) := CdI.add h1d h2d.out H3.out H4.out h5 hC hSt.out ⟨rfl, hAdd⟩ HJ.out.1 HJ.out.2
            dsimp only
            refine hK.out _ _ (mk.out _ HN.out.1) (fun hH1 => ?_)
            clear hK hHeld hH1 hAdd
            try simp only [Act.put, List.getElem_toArray, List.getElem_cons_zero, List.getElem_cons_succ, List.setIfInBounds_toArray, List.set_cons_zero, List.set_cons_succ]
            refine wpAnyH_done (by kernel_rfl) ?_ _
            go_wp2
            go_roundg g
            case measure => omega
            case rel => exact ⟨i + 1, by omega, by go_num, HN.out⟩
          · have hsl' : ((p[i].toNat : Int) == 47) = false := by
              rw [beq_eq_false_iff_ne]
              intro h
              exact hsl (UInt8.toNat.inj (by show p[i].toNat = 47; omega))
            have hend' : ((i : Int) == (p.size : Int)) = false := by rw [beq_eq_false_iff_ne]; omega
            go_wp2
            go_roundg g
            case measure => omega
            case rel => exact ⟨i + 1, by omega, by go_num, HI.out.skip (fun h => by
              rcases h.2 with h | ⟨_, h⟩
              · exact hend h
              · exact hsl h)⟩
end Go.Proofs.Qxb6600159a
