/-
  THE WALKS: zzRelaxedTablesShared_b1.
-/
import Derived.Test.Qxb6600017aD4
namespace Go.Proofs.Qxb6600017a
open Go.RowKit
set_option linter.unusedSimpArgs false

/-- 'wp_store_mid', the number of cells told apart from the array. -/
theorem wp_storeN {P : Program} {op : Oper} {a : Act} {w : World} {K : Act → World → Prop} {Q : Exit → Act → World → Prop} (ty : TypeId) (x y : Operand) (ho : op.op = .store ty x y)
    (b o : Nat) (cells : Array Value) (n : Nat) (hn : cells.size = n) (hx : a.eval x = .pointer (some ⟨b, o, none⟩)) (hy : a.eval y = .agg cells)
    (ht : w.there b o n) (hi : (P.info? ty).map (·.size) = some n) (h1 : cells.all (·.oneCell') = true)
    (h : K (a.put op.dst undef) (w.setCells b o cells.toList)) : op.wp P a w K Q := by
  subst hn; exact wp_store_mid ty x y ho b o cells hx hy ht hi h1 h

/-- What zzRelaxedTablesShared leaves. -/
def ShPost (w : World) (t : Nat → ZT) (n N node : Nat) (e : Ending) (w' : World) : Prop :=
  e = .returned (.slice (some ⟨w.heap.size + 1, 0, none⟩) n n) ∧ Sh w w.heap.size t n N node n w'

theorem one16' (x y : Int) (a b : Bool) (p q r : Option Addr) (n1 n2 n3 c1 c2 c3 : Nat) : (#[.int .u64 0, .int .u64 0, .int .u64 0, .int .u64 0, .int .u64 0, .int .u64 0, .int .i32 x, .int .u64 0, .int .u64 0, .int .u64 0, .int .i32 y, .bool a, .bool b, .slice p n1 c1, .slice q n2 c2, .slice r n3 c3] : Array Value).all (·.oneCell') = true := by simp [Value.oneCell']
theorem RdP.mono {L L' : Nat} {w : World} {s : Sl} (h : RdP L w s) (hL : L' ≤ L) : RdP L' w s := fun hn => by
  obtain ⟨b, o, e, h1, h2⟩ := h hn
  exact ⟨b, o, e, by omega, h2⟩
theorem Sh.weaken {w : World} {A : Nat} {t : Nat → ZT} {n N node i : Nat} {wx : World} (h : Sh w A t n N node (i + 1) wx) : Sh w A t n N node i wx :=
  ⟨h.1, h.2.1, h.2.2.1, fun hn => h.2.2.2.1 (by omega), h.2.2.2.2.1, h.2.2.2.2.2⟩
theorem Rd2.at {w : World} {s : Sl} (h : Rd2 w s) {k : Nat} (hk : k < s.n) : ∃ (b o : Nat) (x : Int) (v : Bool), s.a = some ⟨b, o, none⟩ ∧ w.cell? ⟨b, o + k * 2, none⟩ = some (.int .i32 x) ∧ w.cell? ⟨b, o + k * 2 + 1, none⟩ = some (.bool v) := by
  obtain ⟨b, o, e, hc⟩ := h (by omega)
  obtain ⟨x, v, h1, h2⟩ := hc k hk
  rw [Nat.mul_comm 2 k] at h1 h2
  exact ⟨b, o, x, v, e, h1, h2⟩

set_option maxHeartbeats 4000000 in
set_option maxRecDepth 100000 in
theorem shared_any (b off n c : Nat) (t : Nat → ZT) (node : Nat) (w : World) (hn : n + tot t n ≤ 1048576) (hT : Tabs w b off n t) :
    Calls Try.prog 31 #[.slice (some ⟨b, off, none⟩) n c] w (ShPost w t n (fin t n) node) := by
  have hft := fin_le_tot t n
  have hn' : n ≤ 1048576 := by omega
  have hF : fin t n ≤ 1048576 := by omega
  have HT : Hid (Tabs w b off n t) := hT
  have HTOT : Hid (n + tot t n ≤ 1048576) := hn
  clear hn hT hft
  go_enter Try.func31, Try.ntmps31
  go_wp2
  go_loopg [3, 4] n (fun g s3 s4 wx => ∃ i q : Nat, i + g = n ∧ s4 = .int .i64 i ∧ s3 = .int .i64 (fin t i : Nat) ∧ wx = w.drewN q)
  case atStart => exact ⟨0, 0, by omega, rfl, rfl, rfl⟩
  case round =>
    obtain ⟨i, q, hig, rfl, rfl, rfl⟩ := hrel
    cases gk with
    | zero =>
      obtain rfl : n = i := by omega
      obtain ⟨N, hN⟩ : ∃ N, fin t n = N := ⟨_, rfl⟩
      rw [hN] at hF ⊢
      have HN : Hid (fin t n = N) := hN
      clear hN
      go_wp2_with (first
        | (at_make; refine wpList_makeN rfl (.tmp 34) (.tmp 34) 51 rfl 70 _ 5 40 Try.underlying51 info70 rfl N rfl rfl (by omega) (by omega) ?_; intro CA hA1 hA2)
        | (at_make; refine wpList_makeN rfl (.tmp 37) (.tmp 37) 62 rfl 60 _ 16 168 Try.underlying62 info60 rfl n rfl rfl (by omega) (by omega) ?_; intro CO hO1 hO2))
      have hSh0 := Sh.start (w := w) (t := t) (n := n) (N := N) (node := node) q CA CO hA1 hA2 hO1
      clear hA1 hA2 hO1 hO2 hig
      go_loopg [7, 8] n (fun g s7 s8 wx => ∃ i : Nat, i + g = n ∧ s8 = .int .i64 i ∧ s7 = .int .i64 (fin t i : Nat) ∧ Sh w w.heap.size t n N node i wx)
      case atStart => exact ⟨0, by omega, rfl, rfl, hSh0⟩
      case round =>
        clear hSh0
        obtain ⟨i, hig, rfl, rfl, hSh⟩ := hrel
        cases gk with
        | zero =>
          obtain rfl : n = i := by omega
          go_wp2
          go_ret
          exact ⟨rfl, by rw [HN.out]; exact hSh⟩
        | succ g =>
          have hi : i < n := by omega
          have hi1 : (i : Int) < (n : Int) := by omega
          have hfs := fin_step (t := t) hi
          rw [HN.out] at hfs
          obtain ⟨F, hFe⟩ : ∃ F, fin t i = F := ⟨_, rfl⟩
          have HFS : Hid (fin t (i + 1) = F + ((t i).fwd.n + (t i).bck.n)) := by show fin t (i + 1) = _; rw [fin, hFe]
          have HFE : Hid (fin t i = F) := hFe
          rw [hFe] at hfs ⊢
          have hrow := (HT.out i hi).below hSh.2.2.2.2.1
          have HRow : Hid (Row w b (off + i * 7) (t i)) := HT.out i hi
          have htl : (t i).fol.n ≤ 1048576 := by have := tot_le (t := t) hi; have := HTOT.out; omega
          obtain ⟨lf, hlf⟩ : ∃ k, (t i).fwd.n = k := ⟨_, rfl⟩
          obtain ⟨lb, hlb⟩ : ∃ k, (t i).bck.n = k := ⟨_, rfl⟩
          have c5 := hrow.c5
          have c6 := hrow.c6
          rw [hlf] at hfs c5
          rw [hlb] at hfs c6
          have HLF : Hid ((t i).fwd.n = lf) := hlf
          have HLB : Hid ((t i).bck.n = lb) := hlb
          clear hlf hlb hFe hrow
          go_wp2
          clear c5 c6
          go_loopg [11] lf (fun g s11 wx => ∃ k : Nat, k + g = lf ∧ s11 = .int .i64 k ∧ Sh w w.heap.size t n N node i wx)
          case atStart => exact ⟨0, by omega, rfl, hSh⟩
          case round =>
            clear hSh
            obtain ⟨k, hkg, rfl, hSh⟩ := hrel
            cases gk with
            | zero =>
              obtain rfl : lf = k := by omega
              go_wp2
              go_loopg [12] lb (fun g s12 wx => ∃ k : Nat, k + g = lb ∧ s12 = .int .i64 k ∧ Sh w w.heap.size t n N node i wx)
              case atStart => exact ⟨0, by omega, rfl, hSh⟩
              case round =>
                clear hSh
                obtain ⟨k, hkg, rfl, hSh⟩ := hrel
                cases gk with
                | zero =>
                  obtain rfl : lb = k := by omega
                  have mk : Hid (∀ w', Sh w w.heap.size t n N node i w' → (w'.cell? ⟨b, off + i * 7, none⟩ = some (.int .i32 (t i).pre) ∧ w'.cell? ⟨b, off + i * 7 + 1, none⟩ = some (.int .i32 (t i).suc) ∧ w'.cell? ⟨b, off + i * 7 + 2, none⟩ = some (.bool (t i).np) ∧ w'.cell? ⟨b, off + i * 7 + 3, none⟩ = some (.bool (t i).qp) ∧ w'.cell? ⟨b, off + i * 7 + 4, none⟩ = some (.slice (t i).fol.a (t i).fol.n (t i).fol.c) ∧ w'.cell? ⟨b, off + i * 7 + 5, none⟩ = some (.slice (t i).fwd.a (t i).fwd.n (t i).fwd.c) ∧ w'.cell? ⟨b, off + i * 7 + 6, none⟩ = some (.slice (t i).bck.a (t i).bck.n (t i).bck.c) ∧ Sh w w.heap.size t n N node i w')) := fun w' h => by
                    have hr := HRow.out.below h.2.2.2.2.1
                    exact ⟨hr.c0, hr.c1, hr.c2, hr.c3, hr.c4, hr.c5, hr.c6, h⟩
                  obtain ⟨m, hm⟩ : ∃ m, m = F + lf := ⟨_, rfl⟩
                  obtain ⟨p, hp⟩ : ∃ p, p = m + lb := ⟨_, rfl⟩
                  have hmw : IntKind.i64.wrap ((F : Int) + (lf : Int)) = (m : Int) := by rw [IntKind.wrap_i64]; omega
                  have hpw : IntKind.i64.wrap ((m : Int) + (lb : Int)) = (p : Int) := by rw [IntKind.wrap_i64]; omega
                  have hFm : (F : Int) ≤ (m : Int) := by omega
                  have hmp : (m : Int) ≤ (p : Int) := by omega
                  have hpN : (p : Int) ≤ (N : Int) := by omega
                  have hmN : (m : Int) ≤ (N : Int) := by omega
                  have hpz : p ≤ N := by omega
                  have HM : Hid (m = F + lf) := hm
                  have HP : Hid (p = m + lb) := hp
                  have hml : m - F = lf := by omega
                  have hpl : p - m = lb := by omega
                  obtain ⟨fa, hfa⟩ : ∃ fa : Option Addr, (if m = F then some ⟨w.heap.size, 0, none⟩ else some ⟨w.heap.size, F * 5, none⟩) = fa := ⟨_, rfl⟩
                  obtain ⟨ba, hba⟩ : ∃ ba : Option Addr, (if p = m then some ⟨w.heap.size, 0, none⟩ else some ⟨w.heap.size, m * 5, none⟩) = ba := ⟨_, rfl⟩
                  have hsf : Side w.heap.size N fa (t i).fwd.n := by
                    rw [HLF.out]; intro h0; rw [if_neg (by omega)] at hfa; exact ⟨F, hfa.symm, by omega⟩
                  have hsb : Side w.heap.size N ba (t i).bck.n := by
                    rw [HLB.out]; intro h0; rw [if_neg (by omega)] at hba; exact ⟨m, hba.symm, by omega⟩
                  have htab : Hid (∀ W s, Sh w w.heap.size t n N node i W → s.n ≤ 1048576 → RdP (w.heap.size + 2) W s → Sh w w.heap.size t n N node (i + 1) (W.setCells (w.heap.size + 1) (i * 16) [.int .u64 0, .int .u64 0, .int .u64 0, .int .u64 0, .int .u64 0, .int .u64 0, .int .i32 (t i).pre, .int .u64 0, .int .u64 0, .int .u64 0, .int .i32 (t i).suc, .bool (t i).np, .bool (t i).qp, .slice s.a s.n s.c, .slice fa lf lf, .slice ba lb lb])) := fun W s h h1 h2 => by
                    have h3 := h.table hi s fa ba h1 h2 hsf hsb
                    rw [rowCells, HLF.out, HLB.out] at h3
                    exact h3
                  have hnil : Hid ((t i).fol.a = none → (t i).fol.n = 0) := fun h => by
                    cases hc : (t i).fol.n with
                    | zero => rfl
                    | succ q => obtain ⟨_, _, e, _⟩ := HRow.out.fol (by omega); rw [h] at e; cases e
                  clear hm hp hsf hsb
                  go_wp2
                  refine wp_region_held_drew (S := fun w' => w'.cell? ⟨b, off + i * 7, none⟩ = some (.int .i32 (t i).pre) ∧ w'.cell? ⟨b, off + i * 7 + 1, none⟩ = some (.int .i32 (t i).suc) ∧ w'.cell? ⟨b, off + i * 7 + 2, none⟩ = some (.bool (t i).np) ∧ w'.cell? ⟨b, off + i * 7 + 3, none⟩ = some (.bool (t i).qp) ∧ w'.cell? ⟨b, off + i * 7 + 4, none⟩ = some (.slice (t i).fol.a (t i).fol.n (t i).fol.c) ∧ w'.cell? ⟨b, off + i * 7 + 5, none⟩ = some (.slice (t i).fwd.a (t i).fwd.n (t i).fwd.c) ∧ w'.cell? ⟨b, off + i * 7 + 6, none⟩ = some (.slice (t i).bck.a (t i).bck.n (t i).bck.c) ∧ Sh w w.heap.size t n N node i w') (by kernel_rfl) (mk.out _ hSh.drew) (fun hHeld => ?_)
                  clear hSh
                  refine wpAnyH_take (i := 0) (v := ?_) rfl (by kernel_rfl) (by kernel_rfl) (by kernel_rfl) (fun _ _ _ h => h) (Or.inl ⟨by rfl, ?_⟩) hHeld ?_
                  rotate_left
                  · (intro wS hSw; (try dsimp only at hSw); go_simp; try with_reducible rfl)
                  try simp only [Act.put, List.getElem_toArray, List.getElem_cons_zero, List.getElem_cons_succ, List.setIfInBounds_toArray, List.set_cons_zero, List.set_cons_succ]
                  refine wpAnyH_take (i := 1) (v := ?_) rfl (by kernel_rfl) (by kernel_rfl) (by kernel_rfl) (fun _ _ _ h => h) (Or.inl ⟨by rfl, ?_⟩) hHeld ?_
                  rotate_left
                  · (intro wS hSw; (try dsimp only at hSw); go_simp; try with_reducible rfl)
                  try simp only [Act.put, List.getElem_toArray, List.getElem_cons_zero, List.getElem_cons_succ, List.setIfInBounds_toArray, List.set_cons_zero, List.set_cons_succ]
                  refine wpAnyH_take (i := 2) (v := ?_) rfl (by kernel_rfl) (by kernel_rfl) (by kernel_rfl) (fun _ _ _ h => h) (Or.inl ⟨by rfl, ?_⟩) hHeld ?_
                  rotate_left
                  · (intro wS hSw; (try dsimp only at hSw); go_simp; try with_reducible rfl)
                  try simp only [Act.put, List.getElem_toArray, List.getElem_cons_zero, List.getElem_cons_succ, List.setIfInBounds_toArray, List.set_cons_zero, List.set_cons_succ]
                  refine wpAnyH_take (i := 3) (v := ?_) rfl (by kernel_rfl) (by kernel_rfl) (by kernel_rfl) (fun _ _ _ h => h) (Or.inl ⟨by rfl, ?_⟩) hHeld ?_
                  rotate_left
                  · (intro wS hSw; (try dsimp only at hSw); go_simp; try with_reducible rfl)
                  try simp only [Act.put, List.getElem_toArray, List.getElem_cons_zero, List.getElem_cons_succ, List.setIfInBounds_toArray, List.set_cons_zero, List.set_cons_succ]
                  refine wpAnyH_take (i := 4) (v := ?_) rfl (by kernel_rfl) (by kernel_rfl) (by kernel_rfl) (fun _ _ _ h => h) (Or.inl ⟨by rfl, ?_⟩) hHeld ?_
                  rotate_left
                  · (intro wS hSw; (try dsimp only at hSw); go_simp; try with_reducible rfl)
                  try simp only [Act.put, List.getElem_toArray, List.getElem_cons_zero, List.getElem_cons_succ, List.setIfInBounds_toArray, List.set_cons_zero, List.set_cons_succ]
                  refine wpAnyH_take (i := 5) (v := ?_) rfl (by kernel_rfl) (by kernel_rfl) (by kernel_rfl) (fun _ _ _ h => h) (Or.inl ⟨by rfl, ?_⟩) hHeld ?_
                  rotate_left
                  · (intro wS hSw; (try dsimp only at hSw); go_simp; try with_reducible rfl)
                  try simp only [Act.put, List.getElem_toArray, List.getElem_cons_zero, List.getElem_cons_succ, List.setIfInBounds_toArray, List.set_cons_zero, List.set_cons_succ]
                  refine wpAnyH_take (i := 7) (v := ?_) rfl (by kernel_rfl) (by kernel_rfl) (by kernel_rfl) (fun _ _ _ h => h) (Or.inl ⟨by rfl, ?_⟩) hHeld ?_
                  rotate_left
                  · (intro wS hSw; (try dsimp only at hSw); go_simp; try with_reducible rfl)
                  try simp only [Act.put, List.getElem_toArray, List.getElem_cons_zero, List.getElem_cons_succ, List.setIfInBounds_toArray, List.set_cons_zero, List.set_cons_succ]
                  refine wpAnyH_take (i := 8) (v := ?_) rfl (by kernel_rfl) (by kernel_rfl) (by kernel_rfl) (fun _ _ _ h => h) (Or.inl ⟨by rfl, ?_⟩) hHeld ?_
                  rotate_left
                  · (intro wS hSw; (try dsimp only at hSw); go_simp; try with_reducible rfl)
                  try simp only [Act.put, List.getElem_toArray, List.getElem_cons_zero, List.getElem_cons_succ, List.setIfInBounds_toArray, List.set_cons_zero, List.set_cons_succ]
                  refine wpAnyH_take (i := 9) (v := ?_) rfl (by kernel_rfl) (by kernel_rfl) (by kernel_rfl) (fun _ _ _ h => h) (Or.inl ⟨by rfl, ?_⟩) hHeld ?_
                  rotate_left
                  · (intro wS hSw; (try dsimp only at hSw); go_simp; try with_reducible rfl)
                  try simp only [Act.put, List.getElem_toArray, List.getElem_cons_zero, List.getElem_cons_succ, List.setIfInBounds_toArray, List.set_cons_zero, List.set_cons_succ]
                  refine wpAnyH_take (i := 10) (v := ?_) rfl (by kernel_rfl) (by kernel_rfl) (by kernel_rfl) (fun _ _ _ h => h) (Or.inl ⟨by rfl, ?_⟩) hHeld ?_
                  rotate_left
                  · (intro wS hSw; (try dsimp only at hSw); go_simp; try with_reducible rfl)
                  try simp only [Act.put, List.getElem_toArray, List.getElem_cons_zero, List.getElem_cons_succ, List.setIfInBounds_toArray, List.set_cons_zero, List.set_cons_succ]
                  refine wpAnyH_take (i := 11) (v := ?_) rfl (by kernel_rfl) (by kernel_rfl) (by kernel_rfl) (fun _ _ _ h => h) (Or.inl ⟨by rfl, ?_⟩) hHeld ?_
                  rotate_left
                  · (intro wS hSw; (try dsimp only at hSw); go_simp; try with_reducible rfl)
                  try simp only [Act.put, List.getElem_toArray, List.getElem_cons_zero, List.getElem_cons_succ, List.setIfInBounds_toArray, List.set_cons_zero, List.set_cons_succ]
                  refine wpAnyH_take (i := 12) (v := ?_) rfl (by kernel_rfl) (by kernel_rfl) (by kernel_rfl) (fun _ _ _ h => h) (Or.inl ⟨by rfl, ?_⟩) hHeld ?_
                  rotate_left
                  · (intro wS hSw; (try dsimp only at hSw); go_simp; try with_reducible rfl)
                  try simp only [Act.put, List.getElem_toArray, List.getElem_cons_zero, List.getElem_cons_succ, List.setIfInBounds_toArray, List.set_cons_zero, List.set_cons_succ]
                  refine wpAnyH_take (i := 13) (v := ?_) rfl (by kernel_rfl) (by kernel_rfl) (by kernel_rfl) (fun _ _ _ h => h) (Or.inl ⟨by rfl, ?_⟩) hHeld ?_
                  rotate_left
                  · (intro wS hSw; (try dsimp only at hSw); go_simp; try with_reducible rfl)
                  try simp only [Act.put, List.getElem_toArray, List.getElem_cons_zero, List.getElem_cons_succ, List.setIfInBounds_toArray, List.set_cons_zero, List.set_cons_succ]
                  refine wpAnyH_take (i := 14) (v := ?_) rfl (by kernel_rfl) (by kernel_rfl) (by kernel_rfl) (fun _ _ _ h => h) (Or.inl ⟨by rfl, ?_⟩) hHeld ?_
                  rotate_left
                  · (intro wS hSw; (try dsimp only at hSw); go_simp; try with_reducible rfl)
                  try simp only [Act.put, List.getElem_toArray, List.getElem_cons_zero, List.getElem_cons_succ, List.setIfInBounds_toArray, List.set_cons_zero, List.set_cons_succ]
                  refine wpAnyH_take (i := 15) (v := ?_) rfl (by kernel_rfl) (by kernel_rfl) (by kernel_rfl) (fun _ _ _ h => h) (Or.inl ⟨by rfl, ?_⟩) hHeld ?_
                  rotate_left
                  · (intro wS hSw; (try dsimp only at hSw); go_simp; try with_reducible rfl)
                  try simp only [Act.put, List.getElem_toArray, List.getElem_cons_zero, List.getElem_cons_succ, List.setIfInBounds_toArray, List.set_cons_zero, List.set_cons_succ]
                  refine wpAnyH_take (i := 16) (v := ?_) rfl (by kernel_rfl) (by kernel_rfl) (by kernel_rfl) (fun _ _ _ h => h) (Or.inl ⟨by rfl, ?_⟩) hHeld ?_
                  rotate_left
                  · (intro wS hSw; (try dsimp only at hSw); go_simp; try with_reducible rfl)
                  try simp only [Act.put, List.getElem_toArray, List.getElem_cons_zero, List.getElem_cons_succ, List.setIfInBounds_toArray, List.set_cons_zero, List.set_cons_succ]
                  refine wpAnyH_take (i := 17) (v := ?_) rfl (by kernel_rfl) (by kernel_rfl) (by kernel_rfl) (fun _ _ _ h => h) (Or.inl ⟨by rfl, ?_⟩) hHeld ?_
                  rotate_left
                  · (intro wS hSw; (try dsimp only at hSw); go_simp; try with_reducible rfl)
                  try simp only [Act.put, List.getElem_toArray, List.getElem_cons_zero, List.getElem_cons_succ, List.setIfInBounds_toArray, List.set_cons_zero, List.set_cons_succ]
                  refine wpAnyH_take (i := 18) (v := ?_) rfl (by kernel_rfl) (by kernel_rfl) (by kernel_rfl) (fun _ _ _ h => h) (Or.inl ⟨by rfl, ?_⟩) hHeld ?_
                  rotate_left
                  · (intro wS hSw; (try dsimp only at hSw); go_simp; try with_reducible rfl)
                  try simp only [Act.put, List.getElem_toArray, List.getElem_cons_zero, List.getElem_cons_succ, List.setIfInBounds_toArray, List.set_cons_zero, List.set_cons_succ]
                  refine wpAnyH_take (i := 19) (v := ?_) rfl (by kernel_rfl) (by kernel_rfl) (by kernel_rfl) (fun _ _ _ h => h) (Or.inl ⟨by rfl, ?_⟩) hHeld ?_
                  rotate_left
                  · (intro wS hSw; (try dsimp only at hSw); go_simp; try with_reducible rfl)
                  try simp only [Act.put, List.getElem_toArray, List.getElem_cons_zero, List.getElem_cons_succ, List.setIfInBounds_toArray, List.set_cons_zero, List.set_cons_succ]
                  refine wpAnyH_take (i := 20) (v := ?_) rfl (by kernel_rfl) (by kernel_rfl) (by kernel_rfl) (fun _ _ _ h => h) (Or.inl ⟨by rfl, ?_⟩) hHeld ?_
                  rotate_left
                  · (intro wS hSw; (try dsimp only at hSw); go_simp; try with_reducible rfl)
                  try simp only [Act.put, List.getElem_toArray, List.getElem_cons_zero, List.getElem_cons_succ, List.setIfInBounds_toArray, List.set_cons_zero, List.set_cons_succ]
                  refine wpAnyH_take (i := 21) (v := ?_) rfl (by kernel_rfl) (by kernel_rfl) (by kernel_rfl) (fun _ _ _ h => h) (Or.inl ⟨by rfl, ?_⟩) hHeld ?_
                  rotate_left
                  · (intro wS hSw; (try dsimp only at hSw); go_simp; try with_reducible rfl)
                  try simp only [Act.put, List.getElem_toArray, List.getElem_cons_zero, List.getElem_cons_succ, List.setIfInBounds_toArray, List.set_cons_zero, List.set_cons_succ]
                  refine wpAnyH_take (i := 22) (v := ?_) rfl (by kernel_rfl) (by kernel_rfl) (by kernel_rfl) (fun _ _ _ h => h) (Or.inl ⟨by rfl, ?_⟩) hHeld ?_
                  rotate_left
                  · (intro wS hSw; (try dsimp only at hSw); go_simp; try with_reducible rfl)
                  try simp only [Act.put, List.getElem_toArray, List.getElem_cons_zero, List.getElem_cons_succ, List.setIfInBounds_toArray, List.set_cons_zero, List.set_cons_succ]
                  refine wpAnyH_take (i := 23) (v := ?_) rfl (by kernel_rfl) (by kernel_rfl) (by kernel_rfl) (fun _ _ _ h => h) (Or.inl ⟨by rfl, ?_⟩) hHeld ?_
                  rotate_left
                  · (intro wS hSw; (try dsimp only at hSw); go_simp; try with_reducible rfl)
                  try simp only [Act.put, List.getElem_toArray, List.getElem_cons_zero, List.getElem_cons_succ, List.setIfInBounds_toArray, List.set_cons_zero, List.set_cons_succ]
                  refine wpAnyH_take (i := 24) (v := ?_) rfl (by kernel_rfl) (by kernel_rfl) (by kernel_rfl) (fun _ _ _ h => h) (Or.inl ⟨by rfl, ?_⟩) hHeld ?_
                  rotate_left
                  · (intro wS hSw; (try dsimp only at hSw); go_simp; try with_reducible rfl)
                  try simp only [Act.put, List.getElem_toArray, List.getElem_cons_zero, List.getElem_cons_succ, List.setIfInBounds_toArray, List.set_cons_zero, List.set_cons_succ]
                  refine wpAnyH_take (i := 25) (v := ?_) rfl (by kernel_rfl) (by kernel_rfl) (by kernel_rfl) (fun _ _ _ h => h) (Or.inl ⟨by rfl, ?_⟩) hHeld ?_
                  rotate_left
                  · (intro wS hSw; (try dsimp only at hSw); go_simp; try with_reducible rfl)
                  try simp only [Act.put, List.getElem_toArray, List.getElem_cons_zero, List.getElem_cons_succ, List.setIfInBounds_toArray, List.set_cons_zero, List.set_cons_succ]
                  refine wpAnyH_take (i := 26) (v := ?_) rfl (by kernel_rfl) (by kernel_rfl) (by kernel_rfl) (fun _ _ _ h => h) (Or.inl ⟨by rfl, ?_⟩) hHeld ?_
                  rotate_left
                  · (intro wS hSw; (try dsimp only at hSw); go_simp; try with_reducible rfl)
                  try simp only [Act.put, List.getElem_toArray, List.getElem_cons_zero, List.getElem_cons_succ, List.setIfInBounds_toArray, List.set_cons_zero, List.set_cons_succ]
                  refine wpAnyH_take (i := 27) (v := ?_) rfl (by kernel_rfl) (by kernel_rfl) (by kernel_rfl) (fun _ _ _ h => h) (Or.inl ⟨by rfl, ?_⟩) hHeld ?_
                  rotate_left
                  · (intro wS hSw; (try dsimp only at hSw); go_simp; try with_reducible rfl)
                  try simp only [Act.put, List.getElem_toArray, List.getElem_cons_zero, List.getElem_cons_succ, List.setIfInBounds_toArray, List.set_cons_zero, List.set_cons_succ]
                  refine wpAnyH_take (i := 28) (v := ?_) rfl (by kernel_rfl) (by kernel_rfl) (by kernel_rfl) (fun _ _ _ h => h) (Or.inl ⟨by rfl, ?_⟩) hHeld ?_
                  rotate_left
                  · (intro wS hSw; (try dsimp only at hSw); go_simp; try with_reducible rfl)
                  try simp only [Act.put, List.getElem_toArray, List.getElem_cons_zero, List.getElem_cons_succ, List.setIfInBounds_toArray, List.set_cons_zero, List.set_cons_succ]
                  refine wpAnyH_take (i := 29) (v := ?_) rfl (by kernel_rfl) (by kernel_rfl) (by kernel_rfl) (fun _ _ _ h => h) (Or.inl ⟨by rfl, ?_⟩) hHeld ?_
                  rotate_left
                  · (intro wS hSw; (try dsimp only at hSw); go_simp; try with_reducible rfl)
                  try simp only [Act.put, List.getElem_toArray, List.getElem_cons_zero, List.getElem_cons_succ, List.setIfInBounds_toArray, List.set_cons_zero, List.set_cons_succ]
                  refine wpAnyH_take (i := 30) (v := ?_) rfl (by kernel_rfl) (by kernel_rfl) (by kernel_rfl) (fun _ _ _ h => h) (Or.inl ⟨by rfl, ?_⟩) hHeld ?_
                  rotate_left
                  · (intro wS hSw; (try dsimp only at hSw); go_simp; try with_reducible rfl)
                  try simp only [Act.put, List.getElem_toArray, List.getElem_cons_zero, List.getElem_cons_succ, List.setIfInBounds_toArray, List.set_cons_zero, List.set_cons_succ]
                  refine wpAnyH_ready (rs := [6]) (by kernel_rfl) (by simp) ?_
                  refine AllReadyH.cons rfl (fun K' hK => ?_) AllReadyH.nil
                  go_simp
                  refine (nb_any (t i) _ htl (HRow.out.fol.below hHeld.2.2.2.2.2.2.2.2.2.2.2.1) hnil.out).mono ?_
                  rintro e w' ⟨s, rfl, hs, hr, hb⟩
                  dsimp only
                  have hShb := hHeld.2.2.2.2.2.2.2.below hb
                  have hrP : RdP (w.heap.size + 2) w' s := hr.mono hHeld.2.2.2.2.2.2.2.2.2.2.2.2
                  refine hK.out _ _ (mk.out _ hShb) (fun hHeld2 => ?_)
                  clear hK hHeld hb hr
                  try simp only [Act.put, List.getElem_toArray, List.getElem_cons_zero, List.getElem_cons_succ, List.setIfInBounds_toArray, List.set_cons_zero, List.set_cons_succ]
                  refine wpAnyH_take (i := 31) (v := ?_) rfl (by kernel_rfl) (by kernel_rfl) (by kernel_rfl) (fun _ _ _ h => h) (Or.inl ⟨by rfl, ?_⟩) hHeld2 ?_
                  rotate_left
                  · (intro wS hSw; (try dsimp only at hSw); go_simp; try with_reducible rfl)
                  try simp only [Act.put, List.getElem_toArray, List.getElem_cons_zero, List.getElem_cons_succ, List.setIfInBounds_toArray, List.set_cons_zero, List.set_cons_succ]
                  refine wpAnyH_take (i := 32) (v := ?_) rfl (by kernel_rfl) (by kernel_rfl) (by kernel_rfl) (fun _ _ _ h => h) (Or.inl ⟨by rfl, ?_⟩) hHeld2 ?_
                  rotate_left
                  · (intro wS hSw; (try dsimp only at hSw); go_simp; try with_reducible rfl)
                  try simp only [Act.put, List.getElem_toArray, List.getElem_cons_zero, List.getElem_cons_succ, List.setIfInBounds_toArray, List.set_cons_zero, List.set_cons_succ]
                  refine wpAnyH_ready (rs := [33]) (by kernel_rfl) (by simp) ?_
                  refine AllReadyH.cons rfl (fun K' hK => ?_) AllReadyH.nil
                  rw [if_pos (by rfl)]
                  refine wp_storeN 60 (.tmp 151) (.tmp 150) rfl _ _ _ 16 rfl rfl rfl ?_ size60 (one16' _ _ _ _ _ _ _ _ _ _ _ _ _) ?_
                  · exact there_part hShb.2.2.1 (by omega) (by omega)
                  have hSh' := htab.out _ s hShb hs hrP
                  refine hK.out _ _ (mk.out _ hSh'.weaken) (fun hHeld3 => ?_)
                  clear hK
                  refine wpAnyH_done (by kernel_rfl) ?_ _
                  clear hHeld2 hHeld3 mk htab hShb hrP hfa hba hpw hmw hml hpl
                  go_wp2
                  go_roundg g
                  case measure => omega
                  case rel => exact ⟨i + 1, by omega, by go_num, by rw [HFS.out, HLF.out, HLB.out]; go_num, hSh'⟩
                | succ gk =>
                  have hk : k < lb := by omega
                  have hk1 : (k : Int) < (lb : Int) := by omega
                  obtain ⟨m, hm⟩ : ∃ m, m = F + lf := ⟨_, rfl⟩
                  obtain ⟨p, hp⟩ : ∃ p, p = m + k := ⟨_, rfl⟩
                  have hmw : IntKind.i64.wrap ((F : Int) + (lf : Int)) = (m : Int) := by rw [IntKind.wrap_i64]; omega
                  have hpw : IntKind.i64.wrap ((m : Int) + (k : Int)) = (p : Int) := by rw [IntKind.wrap_i64]; omega
                  have hpN : (p : Int) < (N : Int) := by omega
                  have hpN' : p < N := by omega
                  have HM : Hid (m = F + lf) := hm
                  have HP : Hid (p = m + k) := hp
                  clear hm hp
                  obtain ⟨fb, fo, x, v, hfa, hx, hv⟩ := HRow.out.bck.at (by rw [HLB.out]; exact hk)
                  have mk : Hid (∀ w', Sh w w.heap.size t n N node i w' → (w'.cell? ⟨b, off + i * 7 + 6, none⟩ = some (.slice (some ⟨fb, fo, none⟩) lb (t i).bck.c) ∧ w'.cell? ⟨fb, fo + k * 2, none⟩ = some (.int .i32 x) ∧ w'.cell? ⟨fb, fo + k * 2 + 1, none⟩ = some (.bool v) ∧ Sh w w.heap.size t n N node i w')) := fun w' h => by
                    have hb := h.2.2.2.2.1
                    refine ⟨?_, ?_, ?_, h⟩
                    · rw [hb.cell (World.block_lt_of_cell? w _ HRow.out.c6), HRow.out.c6, hfa, HLB.out]
                    · rw [hb.cell (World.block_lt_of_cell? w _ hx)]; exact hx
                    · rw [hb.cell (World.block_lt_of_cell? w _ hv)]; exact hv
                  clear hfa hx hv
                  go_wp2
                  refine wp_region_held_drew (S := fun w' => w'.cell? ⟨b, off + i * 7 + 6, none⟩ = some (.slice (some ⟨fb, fo, none⟩) lb (t i).bck.c) ∧ w'.cell? ⟨fb, fo + k * 2, none⟩ = some (.int .i32 x) ∧ w'.cell? ⟨fb, fo + k * 2 + 1, none⟩ = some (.bool v) ∧ Sh w w.heap.size t n N node i w') (by kernel_rfl) (mk.out _ hSh.drew) (fun hHeld => ?_)
                  clear hSh
                  refine wpAnyH_take (i := 0) (v := ?_) rfl (by kernel_rfl) (by kernel_rfl) (by kernel_rfl) (fun _ _ _ h => h) (Or.inl ⟨by rfl, ?_⟩) hHeld ?_
                  rotate_left
                  · (intro wS hSw; (try dsimp only at hSw); go_simp; try with_reducible rfl)
                  try simp only [Act.put, List.getElem_toArray, List.getElem_cons_zero, List.getElem_cons_succ, List.setIfInBounds_toArray, List.set_cons_zero, List.set_cons_succ]
                  refine wpAnyH_take (i := 1) (v := ?_) rfl (by kernel_rfl) (by kernel_rfl) (by kernel_rfl) (fun _ _ _ h => h) (Or.inl ⟨by rfl, ?_⟩) hHeld ?_
                  rotate_left
                  · (intro wS hSw; (try dsimp only at hSw); go_simp; try with_reducible rfl)
                  try simp only [Act.put, List.getElem_toArray, List.getElem_cons_zero, List.getElem_cons_succ, List.setIfInBounds_toArray, List.set_cons_zero, List.set_cons_succ]
                  refine wpAnyH_take (i := 2) (v := ?_) rfl (by kernel_rfl) (by kernel_rfl) (by kernel_rfl) (fun _ _ _ h => h) (Or.inl ⟨by rfl, ?_⟩) hHeld ?_
                  rotate_left
                  · (intro wS hSw; (try dsimp only at hSw); go_simp; try with_reducible rfl)
                  try simp only [Act.put, List.getElem_toArray, List.getElem_cons_zero, List.getElem_cons_succ, List.setIfInBounds_toArray, List.set_cons_zero, List.set_cons_succ]
                  refine wpAnyH_take (i := 3) (v := ?_) rfl (by kernel_rfl) (by kernel_rfl) (by kernel_rfl) (fun _ _ _ h => h) (Or.inl ⟨by rfl, ?_⟩) hHeld ?_
                  rotate_left
                  · (intro wS hSw; (try dsimp only at hSw); go_simp; try with_reducible rfl)
                  try simp only [Act.put, List.getElem_toArray, List.getElem_cons_zero, List.getElem_cons_succ, List.setIfInBounds_toArray, List.set_cons_zero, List.set_cons_succ]
                  refine wpAnyH_take (i := 4) (v := ?_) rfl (by kernel_rfl) (by kernel_rfl) (by kernel_rfl) (fun _ _ _ h => h) (Or.inl ⟨by rfl, ?_⟩) hHeld ?_
                  rotate_left
                  · (intro wS hSw; (try dsimp only at hSw); go_simp; try with_reducible rfl)
                  try simp only [Act.put, List.getElem_toArray, List.getElem_cons_zero, List.getElem_cons_succ, List.setIfInBounds_toArray, List.set_cons_zero, List.set_cons_succ]
                  refine wpAnyH_take (i := 5) (v := ?_) rfl (by kernel_rfl) (by kernel_rfl) (by kernel_rfl) (fun _ _ _ h => h) (Or.inl ⟨by rfl, ?_⟩) hHeld ?_
                  rotate_left
                  · (intro wS hSw; (try dsimp only at hSw); go_simp; try with_reducible rfl)
                  try simp only [Act.put, List.getElem_toArray, List.getElem_cons_zero, List.getElem_cons_succ, List.setIfInBounds_toArray, List.set_cons_zero, List.set_cons_succ]
                  refine wpAnyH_take (i := 6) (v := ?_) rfl (by kernel_rfl) (by kernel_rfl) (by kernel_rfl) (fun _ _ _ h => h) (Or.inl ⟨by rfl, ?_⟩) hHeld ?_
                  rotate_left
                  · (intro wS hSw; (try dsimp only at hSw); go_simp; try with_reducible rfl)
                  try simp only [Act.put, List.getElem_toArray, List.getElem_cons_zero, List.getElem_cons_succ, List.setIfInBounds_toArray, List.set_cons_zero, List.set_cons_succ]
                  refine wpAnyH_take (i := 7) (v := ?_) rfl (by kernel_rfl) (by kernel_rfl) (by kernel_rfl) (fun _ _ _ h => h) (Or.inl ⟨by rfl, ?_⟩) hHeld ?_
                  rotate_left
                  · (intro wS hSw; (try dsimp only at hSw); go_simp; try with_reducible rfl)
                  try simp only [Act.put, List.getElem_toArray, List.getElem_cons_zero, List.getElem_cons_succ, List.setIfInBounds_toArray, List.set_cons_zero, List.set_cons_succ]
                  refine wpAnyH_take (i := 8) (v := ?_) rfl (by kernel_rfl) (by kernel_rfl) (by kernel_rfl) (fun _ _ _ h => h) (Or.inl ⟨by rfl, ?_⟩) hHeld ?_
                  rotate_left
                  · (intro wS hSw; (try dsimp only at hSw); go_simp; try with_reducible rfl)
                  try simp only [Act.put, List.getElem_toArray, List.getElem_cons_zero, List.getElem_cons_succ, List.setIfInBounds_toArray, List.set_cons_zero, List.set_cons_succ]
                  refine wpAnyH_take (i := 9) (v := ?_) rfl (by kernel_rfl) (by kernel_rfl) (by kernel_rfl) (fun _ _ _ h => h) (Or.inl ⟨by rfl, ?_⟩) hHeld ?_
                  rotate_left
                  · (intro wS hSw; (try dsimp only at hSw); go_simp; try with_reducible rfl)
                  try simp only [Act.put, List.getElem_toArray, List.getElem_cons_zero, List.getElem_cons_succ, List.setIfInBounds_toArray, List.set_cons_zero, List.set_cons_succ]
                  refine wpAnyH_take (i := 10) (v := ?_) rfl (by kernel_rfl) (by kernel_rfl) (by kernel_rfl) (fun _ _ _ h => h) (Or.inl ⟨by rfl, ?_⟩) hHeld ?_
                  rotate_left
                  · (intro wS hSw; (try dsimp only at hSw); go_simp; try with_reducible rfl)
                  try simp only [Act.put, List.getElem_toArray, List.getElem_cons_zero, List.getElem_cons_succ, List.setIfInBounds_toArray, List.set_cons_zero, List.set_cons_succ]
                  refine wpAnyH_take (i := 11) (v := ?_) rfl (by kernel_rfl) (by kernel_rfl) (by kernel_rfl) (fun _ _ _ h => h) (Or.inl ⟨by rfl, ?_⟩) hHeld ?_
                  rotate_left
                  · (intro wS hSw; (try dsimp only at hSw); go_simp; try with_reducible rfl)
                  try simp only [Act.put, List.getElem_toArray, List.getElem_cons_zero, List.getElem_cons_succ, List.setIfInBounds_toArray, List.set_cons_zero, List.set_cons_succ]
                  refine wpAnyH_take (i := 12) (v := ?_) rfl (by kernel_rfl) (by kernel_rfl) (by kernel_rfl) (fun _ _ _ h => h) (Or.inl ⟨by rfl, ?_⟩) hHeld ?_
                  rotate_left
                  · (intro wS hSw; (try dsimp only at hSw); go_simp; try with_reducible rfl)
                  try simp only [Act.put, List.getElem_toArray, List.getElem_cons_zero, List.getElem_cons_succ, List.setIfInBounds_toArray, List.set_cons_zero, List.set_cons_succ]
                  refine wpAnyH_take (i := 13) (v := ?_) rfl (by kernel_rfl) (by kernel_rfl) (by kernel_rfl) (fun _ _ _ h => h) (Or.inl ⟨by rfl, ?_⟩) hHeld ?_
                  rotate_left
                  · (intro wS hSw; (try dsimp only at hSw); go_simp; try with_reducible rfl)
                  try simp only [Act.put, List.getElem_toArray, List.getElem_cons_zero, List.getElem_cons_succ, List.setIfInBounds_toArray, List.set_cons_zero, List.set_cons_succ]
                  refine wpAnyH_take (i := 14) (v := ?_) rfl (by kernel_rfl) (by kernel_rfl) (by kernel_rfl) (fun _ _ _ h => h) (Or.inl ⟨by rfl, ?_⟩) hHeld ?_
                  rotate_left
                  · (intro wS hSw; (try dsimp only at hSw); go_simp; try with_reducible rfl)
                  try simp only [Act.put, List.getElem_toArray, List.getElem_cons_zero, List.getElem_cons_succ, List.setIfInBounds_toArray, List.set_cons_zero, List.set_cons_succ]
                  refine wpAnyH_take (i := 16) (v := ?_) rfl (by kernel_rfl) (by kernel_rfl) (by kernel_rfl) (fun _ _ _ h => h) (Or.inl ⟨by rfl, ?_⟩) hHeld ?_
                  rotate_left
                  · (intro wS hSw; (try dsimp only at hSw); go_simp; try with_reducible rfl)
                  try simp only [Act.put, List.getElem_toArray, List.getElem_cons_zero, List.getElem_cons_succ, List.setIfInBounds_toArray, List.set_cons_zero, List.set_cons_succ]
                  refine wpAnyH_take (i := 17) (v := ?_) rfl (by kernel_rfl) (by kernel_rfl) (by kernel_rfl) (fun _ _ _ h => h) (Or.inl ⟨by rfl, ?_⟩) hHeld ?_
                  rotate_left
                  · (intro wS hSw; (try dsimp only at hSw); go_simp; try with_reducible rfl)
                  try simp only [Act.put, List.getElem_toArray, List.getElem_cons_zero, List.getElem_cons_succ, List.setIfInBounds_toArray, List.set_cons_zero, List.set_cons_succ]
                  refine wpAnyH_take (i := 18) (v := ?_) rfl (by kernel_rfl) (by kernel_rfl) (by kernel_rfl) (fun _ _ _ h => h) (Or.inl ⟨by rfl, ?_⟩) hHeld ?_
                  rotate_left
                  · (intro wS hSw; (try dsimp only at hSw); go_simp; try with_reducible rfl)
                  try simp only [Act.put, List.getElem_toArray, List.getElem_cons_zero, List.getElem_cons_succ, List.setIfInBounds_toArray, List.set_cons_zero, List.set_cons_succ]
                  refine wpAnyH_take (i := 19) (v := ?_) rfl (by kernel_rfl) (by kernel_rfl) (by kernel_rfl) (fun _ _ _ h => h) (Or.inl ⟨by rfl, ?_⟩) hHeld ?_
                  rotate_left
                  · (intro wS hSw; (try dsimp only at hSw); go_simp; try with_reducible rfl)
                  try simp only [Act.put, List.getElem_toArray, List.getElem_cons_zero, List.getElem_cons_succ, List.setIfInBounds_toArray, List.set_cons_zero, List.set_cons_succ]
                  refine wpAnyH_take (i := 20) (v := ?_) rfl (by kernel_rfl) (by kernel_rfl) (by kernel_rfl) (fun _ _ _ h => h) (Or.inl ⟨by rfl, ?_⟩) hHeld ?_
                  rotate_left
                  · (intro wS hSw; (try dsimp only at hSw); go_simp; try with_reducible rfl)
                  try simp only [Act.put, List.getElem_toArray, List.getElem_cons_zero, List.getElem_cons_succ, List.setIfInBounds_toArray, List.set_cons_zero, List.set_cons_succ]
                  refine wpAnyH_take (i := 21) (v := ?_) rfl (by kernel_rfl) (by kernel_rfl) (by kernel_rfl) (fun _ _ _ h => h) (Or.inl ⟨by rfl, ?_⟩) hHeld ?_
                  rotate_left
                  · (intro wS hSw; (try dsimp only at hSw); go_simp; try with_reducible rfl)
                  try simp only [Act.put, List.getElem_toArray, List.getElem_cons_zero, List.getElem_cons_succ, List.setIfInBounds_toArray, List.set_cons_zero, List.set_cons_succ]
                  refine wpAnyH_take (i := 22) (v := ?_) rfl (by kernel_rfl) (by kernel_rfl) (by kernel_rfl) (fun _ _ _ h => h) (Or.inl ⟨by rfl, ?_⟩) hHeld ?_
                  rotate_left
                  · (intro wS hSw; (try dsimp only at hSw); go_simp; try with_reducible rfl)
                  try simp only [Act.put, List.getElem_toArray, List.getElem_cons_zero, List.getElem_cons_succ, List.setIfInBounds_toArray, List.set_cons_zero, List.set_cons_succ]
                  refine wpAnyH_take (i := 23) (v := ?_) rfl (by kernel_rfl) (by kernel_rfl) (by kernel_rfl) (fun _ _ _ h => h) (Or.inl ⟨by rfl, ?_⟩) hHeld ?_
                  rotate_left
                  · (intro wS hSw; (try dsimp only at hSw); go_simp; try with_reducible rfl)
                  try simp only [Act.put, List.getElem_toArray, List.getElem_cons_zero, List.getElem_cons_succ, List.setIfInBounds_toArray, List.set_cons_zero, List.set_cons_succ]
                  refine wpAnyH_take (i := 24) (v := ?_) rfl (by kernel_rfl) (by kernel_rfl) (by kernel_rfl) (fun _ _ _ h => h) (Or.inl ⟨by rfl, ?_⟩) hHeld ?_
                  rotate_left
                  · (intro wS hSw; (try dsimp only at hSw); go_simp; try with_reducible rfl)
                  try simp only [Act.put, List.getElem_toArray, List.getElem_cons_zero, List.getElem_cons_succ, List.setIfInBounds_toArray, List.set_cons_zero, List.set_cons_succ]
                  refine wpAnyH_ready (rs := [15]) (by kernel_rfl) (by simp) ?_
                  refine AllReadyH.cons rfl (fun K' hK => ?_) AllReadyH.nil
                  go_simp
                  refine (peer_any _ _).mono ?_
                  rintro e w' ⟨rfl, rfl⟩
                  dsimp only
                  refine hK.out _ _ (mk.out _ (hHeld.2.2.2.alloc _)) (fun hHeld2 => ?_)
                  clear hK
                  try simp only [Act.put, List.getElem_toArray, List.getElem_cons_zero, List.getElem_cons_succ, List.setIfInBounds_toArray, List.set_cons_zero, List.set_cons_succ]
                  clear hHeld
                  refine wpAnyH_take (i := 25) (v := ?_) rfl (by kernel_rfl) (by kernel_rfl) (by kernel_rfl) (fun _ _ _ h => h) (Or.inl ⟨by rfl, ?_⟩) hHeld2 ?_
                  rotate_left
                  · (intro wS hSw; (try dsimp only at hSw); go_simp; try with_reducible rfl)
                  try simp only [Act.put, List.getElem_toArray, List.getElem_cons_zero, List.getElem_cons_succ, List.setIfInBounds_toArray, List.set_cons_zero, List.set_cons_succ]
                  refine wpAnyH_take (i := 26) (v := ?_) rfl (by kernel_rfl) (by kernel_rfl) (by kernel_rfl) (fun _ _ _ h => h) (Or.inl ⟨by rfl, ?_⟩) hHeld2 ?_
                  rotate_left
                  · (intro wS hSw; (try dsimp only at hSw); go_simp; try with_reducible rfl)
                  try simp only [Act.put, List.getElem_toArray, List.getElem_cons_zero, List.getElem_cons_succ, List.setIfInBounds_toArray, List.set_cons_zero, List.set_cons_succ]
                  refine wpAnyH_ready (rs := [27]) (by kernel_rfl) (by simp) ?_
                  refine AllReadyH.cons rfl (fun K' hK => ?_) AllReadyH.nil
                  rw [if_pos (by rfl)]
                  refine wp_storeN 70 (.tmp 118) (.tmp 117) rfl _ _ _ 5 rfl rfl rfl ?_ size70 (one5 x v) ?_
                  · exact there_part hHeld2.2.2.2.1 (by omega) (by omega)
                  refine hK.out _ _ (mk.out _ (hHeld2.2.2.2.finger hpN' x v)) (fun hHeld3 => ?_)
                  clear hK
                  refine wpAnyH_done (by kernel_rfl) ?_ _
                  have hSh := hHeld3.2.2.2
                  clear hHeld2 hHeld3 mk
                  go_wp2
                  go_roundg gk
                  case measure => omega
                  case rel => exact ⟨k + 1, by omega, by go_num, hSh⟩
            | succ gk =>
              have hk : k < lf := by omega
              have hk1 : (k : Int) < (lf : Int) := by omega
              obtain ⟨p, hp⟩ : ∃ p, p = F + k := ⟨_, rfl⟩
              have hpw : IntKind.i64.wrap ((F : Int) + (k : Int)) = (p : Int) := by rw [IntKind.wrap_i64]; omega
              have hpN : (p : Int) < (N : Int) := by omega
              have hpN' : p < N := by omega
              have HP : Hid (p = F + k) := hp
              clear hp
              obtain ⟨fb, fo, x, v, hfa, hx, hv⟩ := HRow.out.fwd.at (by rw [HLF.out]; exact hk)
              have mk : Hid (∀ w', Sh w w.heap.size t n N node i w' → (w'.cell? ⟨b, off + i * 7 + 5, none⟩ = some (.slice (some ⟨fb, fo, none⟩) lf (t i).fwd.c) ∧ w'.cell? ⟨fb, fo + k * 2, none⟩ = some (.int .i32 x) ∧ w'.cell? ⟨fb, fo + k * 2 + 1, none⟩ = some (.bool v) ∧ Sh w w.heap.size t n N node i w')) := fun w' h => by
                have hb := h.2.2.2.2.1
                refine ⟨?_, ?_, ?_, h⟩
                · rw [hb.cell (World.block_lt_of_cell? w _ HRow.out.c5), HRow.out.c5, hfa, HLF.out]
                · rw [hb.cell (World.block_lt_of_cell? w _ hx)]; exact hx
                · rw [hb.cell (World.block_lt_of_cell? w _ hv)]; exact hv
              clear hfa hx hv
              go_wp2
              refine wp_region_held_drew (S := fun w' => w'.cell? ⟨b, off + i * 7 + 5, none⟩ = some (.slice (some ⟨fb, fo, none⟩) lf (t i).fwd.c) ∧ w'.cell? ⟨fb, fo + k * 2, none⟩ = some (.int .i32 x) ∧ w'.cell? ⟨fb, fo + k * 2 + 1, none⟩ = some (.bool v) ∧ Sh w w.heap.size t n N node i w') (by kernel_rfl) (mk.out _ hSh.drew) (fun hHeld => ?_)
              clear hSh
              refine wpAnyH_take (i := 0) (v := ?_) rfl (by kernel_rfl) (by kernel_rfl) (by kernel_rfl) (fun _ _ _ h => h) (Or.inl ⟨by rfl, ?_⟩) hHeld ?_
              rotate_left
              · (intro wS hSw; (try dsimp only at hSw); go_simp; try with_reducible rfl)
              try simp only [Act.put, List.getElem_toArray, List.getElem_cons_zero, List.getElem_cons_succ, List.setIfInBounds_toArray, List.set_cons_zero, List.set_cons_succ]
              refine wpAnyH_take (i := 1) (v := ?_) rfl (by kernel_rfl) (by kernel_rfl) (by kernel_rfl) (fun _ _ _ h => h) (Or.inl ⟨by rfl, ?_⟩) hHeld ?_
              rotate_left
              · (intro wS hSw; (try dsimp only at hSw); go_simp; try with_reducible rfl)
              try simp only [Act.put, List.getElem_toArray, List.getElem_cons_zero, List.getElem_cons_succ, List.setIfInBounds_toArray, List.set_cons_zero, List.set_cons_succ]
              refine wpAnyH_take (i := 2) (v := ?_) rfl (by kernel_rfl) (by kernel_rfl) (by kernel_rfl) (fun _ _ _ h => h) (Or.inl ⟨by rfl, ?_⟩) hHeld ?_
              rotate_left
              · (intro wS hSw; (try dsimp only at hSw); go_simp; try with_reducible rfl)
              try simp only [Act.put, List.getElem_toArray, List.getElem_cons_zero, List.getElem_cons_succ, List.setIfInBounds_toArray, List.set_cons_zero, List.set_cons_succ]
              refine wpAnyH_take (i := 3) (v := ?_) rfl (by kernel_rfl) (by kernel_rfl) (by kernel_rfl) (fun _ _ _ h => h) (Or.inl ⟨by rfl, ?_⟩) hHeld ?_
              rotate_left
              · (intro wS hSw; (try dsimp only at hSw); go_simp; try with_reducible rfl)
              try simp only [Act.put, List.getElem_toArray, List.getElem_cons_zero, List.getElem_cons_succ, List.setIfInBounds_toArray, List.set_cons_zero, List.set_cons_succ]
              refine wpAnyH_take (i := 4) (v := ?_) rfl (by kernel_rfl) (by kernel_rfl) (by kernel_rfl) (fun _ _ _ h => h) (Or.inl ⟨by rfl, ?_⟩) hHeld ?_
              rotate_left
              · (intro wS hSw; (try dsimp only at hSw); go_simp; try with_reducible rfl)
              try simp only [Act.put, List.getElem_toArray, List.getElem_cons_zero, List.getElem_cons_succ, List.setIfInBounds_toArray, List.set_cons_zero, List.set_cons_succ]
              refine wpAnyH_take (i := 5) (v := ?_) rfl (by kernel_rfl) (by kernel_rfl) (by kernel_rfl) (fun _ _ _ h => h) (Or.inl ⟨by rfl, ?_⟩) hHeld ?_
              rotate_left
              · (intro wS hSw; (try dsimp only at hSw); go_simp; try with_reducible rfl)
              try simp only [Act.put, List.getElem_toArray, List.getElem_cons_zero, List.getElem_cons_succ, List.setIfInBounds_toArray, List.set_cons_zero, List.set_cons_succ]
              refine wpAnyH_take (i := 6) (v := ?_) rfl (by kernel_rfl) (by kernel_rfl) (by kernel_rfl) (fun _ _ _ h => h) (Or.inl ⟨by rfl, ?_⟩) hHeld ?_
              rotate_left
              · (intro wS hSw; (try dsimp only at hSw); go_simp; try with_reducible rfl)
              try simp only [Act.put, List.getElem_toArray, List.getElem_cons_zero, List.getElem_cons_succ, List.setIfInBounds_toArray, List.set_cons_zero, List.set_cons_succ]
              refine wpAnyH_take (i := 7) (v := ?_) rfl (by kernel_rfl) (by kernel_rfl) (by kernel_rfl) (fun _ _ _ h => h) (Or.inl ⟨by rfl, ?_⟩) hHeld ?_
              rotate_left
              · (intro wS hSw; (try dsimp only at hSw); go_simp; try with_reducible rfl)
              try simp only [Act.put, List.getElem_toArray, List.getElem_cons_zero, List.getElem_cons_succ, List.setIfInBounds_toArray, List.set_cons_zero, List.set_cons_succ]
              refine wpAnyH_take (i := 8) (v := ?_) rfl (by kernel_rfl) (by kernel_rfl) (by kernel_rfl) (fun _ _ _ h => h) (Or.inl ⟨by rfl, ?_⟩) hHeld ?_
              rotate_left
              · (intro wS hSw; (try dsimp only at hSw); go_simp; try with_reducible rfl)
              try simp only [Act.put, List.getElem_toArray, List.getElem_cons_zero, List.getElem_cons_succ, List.setIfInBounds_toArray, List.set_cons_zero, List.set_cons_succ]
              refine wpAnyH_take (i := 9) (v := ?_) rfl (by kernel_rfl) (by kernel_rfl) (by kernel_rfl) (fun _ _ _ h => h) (Or.inl ⟨by rfl, ?_⟩) hHeld ?_
              rotate_left
              · (intro wS hSw; (try dsimp only at hSw); go_simp; try with_reducible rfl)
              try simp only [Act.put, List.getElem_toArray, List.getElem_cons_zero, List.getElem_cons_succ, List.setIfInBounds_toArray, List.set_cons_zero, List.set_cons_succ]
              refine wpAnyH_take (i := 10) (v := ?_) rfl (by kernel_rfl) (by kernel_rfl) (by kernel_rfl) (fun _ _ _ h => h) (Or.inl ⟨by rfl, ?_⟩) hHeld ?_
              rotate_left
              · (intro wS hSw; (try dsimp only at hSw); go_simp; try with_reducible rfl)
              try simp only [Act.put, List.getElem_toArray, List.getElem_cons_zero, List.getElem_cons_succ, List.setIfInBounds_toArray, List.set_cons_zero, List.set_cons_succ]
              refine wpAnyH_take (i := 11) (v := ?_) rfl (by kernel_rfl) (by kernel_rfl) (by kernel_rfl) (fun _ _ _ h => h) (Or.inl ⟨by rfl, ?_⟩) hHeld ?_
              rotate_left
              · (intro wS hSw; (try dsimp only at hSw); go_simp; try with_reducible rfl)
              try simp only [Act.put, List.getElem_toArray, List.getElem_cons_zero, List.getElem_cons_succ, List.setIfInBounds_toArray, List.set_cons_zero, List.set_cons_succ]
              refine wpAnyH_take (i := 12) (v := ?_) rfl (by kernel_rfl) (by kernel_rfl) (by kernel_rfl) (fun _ _ _ h => h) (Or.inl ⟨by rfl, ?_⟩) hHeld ?_
              rotate_left
              · (intro wS hSw; (try dsimp only at hSw); go_simp; try with_reducible rfl)
              try simp only [Act.put, List.getElem_toArray, List.getElem_cons_zero, List.getElem_cons_succ, List.setIfInBounds_toArray, List.set_cons_zero, List.set_cons_succ]
              refine wpAnyH_take (i := 14) (v := ?_) rfl (by kernel_rfl) (by kernel_rfl) (by kernel_rfl) (fun _ _ _ h => h) (Or.inl ⟨by rfl, ?_⟩) hHeld ?_
              rotate_left
              · (intro wS hSw; (try dsimp only at hSw); go_simp; try with_reducible rfl)
              try simp only [Act.put, List.getElem_toArray, List.getElem_cons_zero, List.getElem_cons_succ, List.setIfInBounds_toArray, List.set_cons_zero, List.set_cons_succ]
              refine wpAnyH_take (i := 15) (v := ?_) rfl (by kernel_rfl) (by kernel_rfl) (by kernel_rfl) (fun _ _ _ h => h) (Or.inl ⟨by rfl, ?_⟩) hHeld ?_
              rotate_left
              · (intro wS hSw; (try dsimp only at hSw); go_simp; try with_reducible rfl)
              try simp only [Act.put, List.getElem_toArray, List.getElem_cons_zero, List.getElem_cons_succ, List.setIfInBounds_toArray, List.set_cons_zero, List.set_cons_succ]
              refine wpAnyH_take (i := 16) (v := ?_) rfl (by kernel_rfl) (by kernel_rfl) (by kernel_rfl) (fun _ _ _ h => h) (Or.inl ⟨by rfl, ?_⟩) hHeld ?_
              rotate_left
              · (intro wS hSw; (try dsimp only at hSw); go_simp; try with_reducible rfl)
              try simp only [Act.put, List.getElem_toArray, List.getElem_cons_zero, List.getElem_cons_succ, List.setIfInBounds_toArray, List.set_cons_zero, List.set_cons_succ]
              refine wpAnyH_take (i := 17) (v := ?_) rfl (by kernel_rfl) (by kernel_rfl) (by kernel_rfl) (fun _ _ _ h => h) (Or.inl ⟨by rfl, ?_⟩) hHeld ?_
              rotate_left
              · (intro wS hSw; (try dsimp only at hSw); go_simp; try with_reducible rfl)
              try simp only [Act.put, List.getElem_toArray, List.getElem_cons_zero, List.getElem_cons_succ, List.setIfInBounds_toArray, List.set_cons_zero, List.set_cons_succ]
              refine wpAnyH_take (i := 18) (v := ?_) rfl (by kernel_rfl) (by kernel_rfl) (by kernel_rfl) (fun _ _ _ h => h) (Or.inl ⟨by rfl, ?_⟩) hHeld ?_
              rotate_left
              · (intro wS hSw; (try dsimp only at hSw); go_simp; try with_reducible rfl)
              try simp only [Act.put, List.getElem_toArray, List.getElem_cons_zero, List.getElem_cons_succ, List.setIfInBounds_toArray, List.set_cons_zero, List.set_cons_succ]
              refine wpAnyH_take (i := 19) (v := ?_) rfl (by kernel_rfl) (by kernel_rfl) (by kernel_rfl) (fun _ _ _ h => h) (Or.inl ⟨by rfl, ?_⟩) hHeld ?_
              rotate_left
              · (intro wS hSw; (try dsimp only at hSw); go_simp; try with_reducible rfl)
              try simp only [Act.put, List.getElem_toArray, List.getElem_cons_zero, List.getElem_cons_succ, List.setIfInBounds_toArray, List.set_cons_zero, List.set_cons_succ]
              refine wpAnyH_take (i := 20) (v := ?_) rfl (by kernel_rfl) (by kernel_rfl) (by kernel_rfl) (fun _ _ _ h => h) (Or.inl ⟨by rfl, ?_⟩) hHeld ?_
              rotate_left
              · (intro wS hSw; (try dsimp only at hSw); go_simp; try with_reducible rfl)
              try simp only [Act.put, List.getElem_toArray, List.getElem_cons_zero, List.getElem_cons_succ, List.setIfInBounds_toArray, List.set_cons_zero, List.set_cons_succ]
              refine wpAnyH_take (i := 21) (v := ?_) rfl (by kernel_rfl) (by kernel_rfl) (by kernel_rfl) (fun _ _ _ h => h) (Or.inl ⟨by rfl, ?_⟩) hHeld ?_
              rotate_left
              · (intro wS hSw; (try dsimp only at hSw); go_simp; try with_reducible rfl)
              try simp only [Act.put, List.getElem_toArray, List.getElem_cons_zero, List.getElem_cons_succ, List.setIfInBounds_toArray, List.set_cons_zero, List.set_cons_succ]
              refine wpAnyH_take (i := 22) (v := ?_) rfl (by kernel_rfl) (by kernel_rfl) (by kernel_rfl) (fun _ _ _ h => h) (Or.inl ⟨by rfl, ?_⟩) hHeld ?_
              rotate_left
              · (intro wS hSw; (try dsimp only at hSw); go_simp; try with_reducible rfl)
              try simp only [Act.put, List.getElem_toArray, List.getElem_cons_zero, List.getElem_cons_succ, List.setIfInBounds_toArray, List.set_cons_zero, List.set_cons_succ]
              refine wpAnyH_ready (rs := [13]) (by kernel_rfl) (by simp) ?_
              refine AllReadyH.cons rfl (fun K' hK => ?_) AllReadyH.nil
              go_simp
              refine (peer_any _ _).mono ?_
              rintro e w' ⟨rfl, rfl⟩
              dsimp only
              refine hK.out _ _ (mk.out _ (hHeld.2.2.2.alloc _)) (fun hHeld2 => ?_)
              clear hK
              try simp only [Act.put, List.getElem_toArray, List.getElem_cons_zero, List.getElem_cons_succ, List.setIfInBounds_toArray, List.set_cons_zero, List.set_cons_succ]
              clear hHeld
              refine wpAnyH_take (i := 23) (v := ?_) rfl (by kernel_rfl) (by kernel_rfl) (by kernel_rfl) (fun _ _ _ h => h) (Or.inl ⟨by rfl, ?_⟩) hHeld2 ?_
              rotate_left
              · (intro wS hSw; (try dsimp only at hSw); go_simp; try with_reducible rfl)
              try simp only [Act.put, List.getElem_toArray, List.getElem_cons_zero, List.getElem_cons_succ, List.setIfInBounds_toArray, List.set_cons_zero, List.set_cons_succ]
              refine wpAnyH_take (i := 24) (v := ?_) rfl (by kernel_rfl) (by kernel_rfl) (by kernel_rfl) (fun _ _ _ h => h) (Or.inl ⟨by rfl, ?_⟩) hHeld2 ?_
              rotate_left
              · (intro wS hSw; (try dsimp only at hSw); go_simp; try with_reducible rfl)
              try simp only [Act.put, List.getElem_toArray, List.getElem_cons_zero, List.getElem_cons_succ, List.setIfInBounds_toArray, List.set_cons_zero, List.set_cons_succ]
              refine wpAnyH_ready (rs := [25]) (by kernel_rfl) (by simp) ?_
              refine AllReadyH.cons rfl (fun K' hK => ?_) AllReadyH.nil
              rw [if_pos (by rfl)]
              refine wp_storeN 70 (.tmp 86) (.tmp 85) rfl _ _ _ 5 rfl rfl rfl ?_ size70 (one5 x v) ?_
              · exact there_part hHeld2.2.2.2.1 (by omega) (by omega)
              refine hK.out _ _ (mk.out _ (hHeld2.2.2.2.finger hpN' x v)) (fun hHeld3 => ?_)
              clear hK
              refine wpAnyH_done (by kernel_rfl) ?_ _
              have hSh := hHeld3.2.2.2
              clear hHeld2 hHeld3 mk
              go_wp2
              go_roundg gk
              case measure => omega
              case rel => exact ⟨k + 1, by omega, by go_num, hSh⟩
    | succ g =>
      have hi : i < n := by omega
      have hi1 : (i : Int) < (n : Int) := by omega
      have hfs := fin_step (t := t) hi
      obtain ⟨c0, c1, c2, c3, c4, c5, c6, hf1, hf2, hf3, p1, p2, p3, p4, l1, l2, l3⟩ := HT.out i hi
      obtain ⟨F, hFe⟩ : ∃ F, fin t i = F := ⟨_, rfl⟩
      have HF : Hid (fin t (i + 1) = F + ((t i).fwd.n + (t i).bck.n)) := by show fin t (i + 1) = _; rw [fin, hFe]
      rw [hFe] at hfs ⊢
      clear hf1 hf2 hf3 p1 p2 p3 p4 c0 c1 c2 c3 c4 hFe l1
      go_wp2
      go_quiet (fail)
      go_wp2
      go_roundg g
      case measure => omega
      case rel => exact ⟨i + 1, _, by omega, by go_num, by rw [HF.out]; go_num, rfl⟩
end Go.Proofs.Qxb6600017a
