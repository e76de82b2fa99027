/-
  THE WALKS: buildMap, ZZMakeHostRules.
-/
import Derived.Test.Qxb6600159aE5
import Derived.Maps.Own
import Derived.Maps.Views
import Derived.Deep.RegionHeld3
namespace Go.Proofs.Qxb6600159a
open Go.RowKit Plain Go.Maps Go.WideMaps
set_option linter.unusedSimpArgs false

/-- How an element of the map reads: as itself. -/
def Rh (v : Value) : Option (DataW Value × List MemPlace) := some (.held v, [])
theorem law9 : Keyed Try.prog 9 := string_keyed Try.underlying9
def keyL (s : ByteArray) : Lit := .string s.data.toList
/-- The map's datum after i rounds. -/
def Dm (K : Nat → ByteArray) (L : Nat → Sl) : Nat → DataW Value
  | 0 => .map []
  | i + 1 => (Dm K L i).put (keyL (K i)) (.held (.slice (L i).a (L i).n (L i).c))
theorem dm_map (K : Nat → ByteArray) (L : Nat → Sl) (i : Nat) : IsMap (Dm K L i) := by
  induction i with
  | zero => exact ⟨[], rfl⟩
  | succ i ih => obtain ⟨es, e⟩ := ih; rw [Dm, e]; exact ⟨_, rfl⟩
/-- What a look-up gives: nil, or the list of an index whose key it is. -/
theorem dm_at (K : Nat → ByteArray) (L : Nat → Sl) (s : ByteArray) (n : Nat) :
    ((∀ j, j < n → K j ≠ s) ∧ (Dm K L n).atKey (keyL s) (.held (.slice none 0 0)) = .held (.slice none 0 0)) ∨ ∃ j, j < n ∧ K j = s ∧ (Dm K L n).atKey (keyL s) (.held (.slice none 0 0)) = .held (.slice (L j).a (L j).n (L j).c) := by
  induction n with
  | zero => exact .inl ⟨fun j hj => absurd hj (by omega), rfl⟩
  | succ n ih =>
    by_cases e : K n = s
    · exact .inr ⟨n, by omega, e, by rw [Dm, e]; exact atKey_put_same (dm_map K L n) (by unfold keyL; exact trivial) _ _⟩
    · have hne : keyL s ≠ keyL (K n) := fun h => e (by
        unfold keyL at h
        have h1 := Lit.string.inj h
        exact (ByteArray.ext (Array.ext' h1)).symm)
      rw [Dm, atKey_put_other hne]
      rcases ih with ⟨h1, h2⟩ | ⟨j, hj, h1, h2⟩
      · refine .inl ⟨fun j hj => ?_, h2⟩
        by_cases ej : j = n
        · subst ej; exact e
        · exact h1 j (by omega)
      · exact .inr ⟨j, by omega, h1, h2⟩

def MpI (w : World) (K : Nat → ByteArray) (L : Nat → Sl) (i : Nat) (w' : World) : Prop := w'.ownsMap Try.prog 9 Rh w.heap.size i (Dm K L i) ∧ Below w.heap.size w w'
theorem MpI.drew {w w' : World} {K : Nat → ByteArray} {L : Nat → Sl} {i : Nat} (h : MpI w K L i w') : MpI w K L i w'.drew := ⟨h.1.drew, h.2.drew⟩

theorem wp_mapUpdate_own {H : Type} {P : Program} {w : World} {o : Oper} {a : Act} {K' : Act → World → Prop} {Q : Exit → Act → World → Prop}
    (m x v : Operand) (t : TypeId) (hop : o.op = Op.mapUpdate t m x v)
    (k e : TypeId) (KK : Keyed P k) (ht : P.underlying t = some (.map k e)) (R : Value → Option (DataW H × List MemPlace)) (b n : Nat) (D : DataW H)
    (hm : a.eval m = .map (some b)) (hown : w.ownsMap P k R b n D) (hn : n < maxLen) (key val : Value) (kl : Lit) (hx : a.eval x = key) (hv : a.eval v = val) (hkey : keyOf P k key = some kl)
    (d : DataW H) (ps : List MemPlace) (hval : R val = some (d, ps))
    (hK : ∀ w', w'.ownsMap P k R b (n + 1) (D.put kl d) → w.grownBy w' (some b) → K' (a.put o.dst undef) w') : o.wp P a w K' Q := by
  obtain ⟨w', hrun, r1, r2⟩ := hown.update KK ht hn hkey hval
  unfold Oper.wp
  simp [execOp, hop, hm, hx, hv, hrun, Result.andThen]
  exact hK w' r1 r2

def BmPost (w : World) (n : Nat) (K : Nat → ByteArray) (L : Nat → Sl) (e : Ending) (w' : World) : Prop :=
  (n = 0 ∧ e = .returned (.map none) ∧ w' = w) ∨ (0 < n ∧ e = .returned (.map (some w.heap.size)) ∧ MpI w K L n w')

set_option maxHeartbeats 2000000 in
set_option maxRecDepth 100000 in
theorem build_any (sk sl : Sl) (K : Nat → ByteArray) (L : Nat → Sl) (n : Nat) (w : World) (hnk : n ≤ sk.n) (hnl : n ≤ sl.n) (hn : n ≤ 1048576) (hks : ∀ k, k < sk.n → (K k).size ≤ 1048576) (hK : RdB w.heap.size w sk K) (hL : RdS w.heap.size w sl L) :
    Calls Try.prog 28 #[.slice sk.a sk.n sk.c, .slice sl.a sl.n sl.c, .int .i64 n] w (BmPost w n K L) := by
  obtain ⟨ak, nk, ck⟩ := sk
  obtain ⟨al, nl, cl⟩ := sl
  dsimp only at hnk hnl hks ⊢
  by_cases h0 : n = 0
  · subst h0
    clear hK hL hks
    go_enter Try.func28, Try.ntmps28
    go_wp2
    go_ret
    exact .inl ⟨rfl, rfl, rfl⟩
  · obtain ⟨bk, ok, hak, hbk, hck⟩ := hK (by dsimp only; omega)
    obtain rfl : ak = some ⟨bk, ok, none⟩ := hak
    obtain ⟨bl, ol, hal, hbl, hcl⟩ := hL (by dsimp only; omega)
    obtain rfl : al = some ⟨bl, ol, none⟩ := hal
    have HK : Hid (∀ k, k < nk → w.cell? ⟨bk, ok + k, none⟩ = some (.string (K k))) := hck
    have HL : Hid (∀ k, k < nl → w.cell? ⟨bl, ol + k, none⟩ = some (.slice (L k).a (L k).n (L k).c)) := hcl
    have HKS : Hid (∀ k, k < nk → (K k).size ≤ 1048576) := hks
    have h0' : ((n : Int) == 0) = false := by rw [beq_eq_false_iff_ne]; omega
    clear hK hL hks hck hcl
    have hmm := @run_makeMap Try.prog
    go_enter Try.func28, Try.ntmps28
    go_wp2
    have hW : MpI w K L 0 (w.alloc (.map #[] 0)) := ⟨World.ownsMap_made _ _ _ _, (Below.refl _ _).alloc (Nat.le_refl _) _⟩
    go_loopg [8] n (fun g s8 wx => ∃ i : Nat, i + g = n ∧ s8 = .int .i64 i ∧ MpI w K L i wx)
    case atStart => exact ⟨0, by omega, rfl, hW⟩
    case round =>
      obtain ⟨i, hig, rfl, hI⟩ := hrel
      have HI : Hid (MpI w K L i wr) := hI
      clear hI hW
      cases gk with
      | zero =>
        obtain rfl : n = i := by omega
        go_wp2
        go_ret
        exact .inr ⟨by omega, rfl, HI.out⟩
      | succ g =>
        have hi : i < n := by omega
        have hi1 : (i : Int) < (n : Int) := by omega
        have hi2 : (i : Int) < (nk : Int) := by omega
        have hi3 : (i : Int) < (nl : Int) := by omega
        have mk : Hid (∀ w', Below w.heap.size w w' → (w'.cell? ⟨bk, ok + i, none⟩ = some (.string (K i)) ∧ w'.cell? ⟨bl, ol + i, none⟩ = some (.slice (L i).a (L i).n (L i).c) ∧ Below w.heap.size w w')) := fun w' h => ⟨by rw [h.cell (p := ⟨bk, ok + i, none⟩) hbk]; exact HK.out i (by omega), by rw [h.cell (p := ⟨bl, ol + i, none⟩) hbl]; exact HL.out i (by omega), h⟩
        have hkey : keyOf Try.prog 9 (.string (K i)) = some (keyL (K i)) := keyOf_string_mk Try.underlying9 (by have := HKS.out i (by omega); unfold maxLen; omega)
        have HKey : Hid _ := hkey
        clear hkey
        go_upto_region 7 with fail
        refine wp_region_held_drew (S := fun w' => w'.cell? ⟨bk, ok + i, none⟩ = some (.string (K i)) ∧ w'.cell? ⟨bl, ol + i, none⟩ = some (.slice (L i).a (L i).n (L i).c) ∧ Below w.heap.size w w') (by kernel_rfl) (mk.out _ HI.out.2.drew) (fun hHeld => ?_)
        refine wpAnyH_take (i := 0) (v := ?_) rfl (by kernel_rfl) (by kernel_rfl) (by kernel_rfl) (fun _ _ _ h => h) (Or.inl ⟨by rfl, ?_⟩) hHeld ?_
        rotate_left
        · (intro wS hSw; (try dsimp only at hSw); go_simp; try with_reducible rfl)
        try simp only [Act.put, List.getElem_toArray, List.getElem_cons_zero, List.getElem_cons_succ, List.setIfInBounds_toArray, List.set_cons_zero, List.set_cons_succ]
        refine wpAnyH_take (i := 1) (v := ?_) rfl (by kernel_rfl) (by kernel_rfl) (by kernel_rfl) (fun _ _ _ h => h) (Or.inl ⟨by rfl, ?_⟩) hHeld ?_
        rotate_left
        · (intro wS hSw; (try dsimp only at hSw); go_simp; try with_reducible rfl)
        try simp only [Act.put, List.getElem_toArray, List.getElem_cons_zero, List.getElem_cons_succ, List.setIfInBounds_toArray, List.set_cons_zero, List.set_cons_succ]
        refine wpAnyH_take (i := 2) (v := ?_) rfl (by kernel_rfl) (by kernel_rfl) (by kernel_rfl) (fun _ _ _ h => h) (Or.inl ⟨by rfl, ?_⟩) hHeld ?_
        rotate_left
        · (intro wS hSw; (try dsimp only at hSw); go_simp; try with_reducible rfl)
        try simp only [Act.put, List.getElem_toArray, List.getElem_cons_zero, List.getElem_cons_succ, List.setIfInBounds_toArray, List.set_cons_zero, List.set_cons_succ]
        refine wpAnyH_take (i := 3) (v := ?_) rfl (by kernel_rfl) (by kernel_rfl) (by kernel_rfl) (fun _ _ _ h => h) (Or.inl ⟨by rfl, ?_⟩) hHeld ?_
        rotate_left
        · (intro wS hSw; (try dsimp only at hSw); go_simp; try with_reducible rfl)
        try simp only [Act.put, List.getElem_toArray, List.getElem_cons_zero, List.getElem_cons_succ, List.setIfInBounds_toArray, List.set_cons_zero, List.set_cons_succ]
        refine wpAnyH_take (i := 4) (v := ?_) rfl (by kernel_rfl) (by kernel_rfl) (by kernel_rfl) (fun _ _ _ h => h) (Or.inl ⟨by rfl, ?_⟩) hHeld ?_
        rotate_left
        · (intro wS hSw; (try dsimp only at hSw); go_simp; try with_reducible rfl)
        try simp only [Act.put, List.getElem_toArray, List.getElem_cons_zero, List.getElem_cons_succ, List.setIfInBounds_toArray, List.set_cons_zero, List.set_cons_succ]
        refine wpAnyH_take (i := 5) (v := ?_) rfl (by kernel_rfl) (by kernel_rfl) (by kernel_rfl) (fun _ _ _ h => h) (Or.inl ⟨by rfl, ?_⟩) hHeld ?_
        rotate_left
        · (intro wS hSw; (try dsimp only at hSw); go_simp; try with_reducible rfl)
        try simp only [Act.put, List.getElem_toArray, List.getElem_cons_zero, List.getElem_cons_succ, List.setIfInBounds_toArray, List.set_cons_zero, List.set_cons_succ]
        refine wpAnyH_take (i := 6) (v := ?_) rfl (by kernel_rfl) (by kernel_rfl) (by kernel_rfl) (fun _ _ _ h => h) (Or.inl ⟨by rfl, ?_⟩) hHeld ?_
        rotate_left
        · (intro wS hSw; (try dsimp only at hSw); go_simp; try with_reducible rfl)
        try simp only [Act.put, List.getElem_toArray, List.getElem_cons_zero, List.getElem_cons_succ, List.setIfInBounds_toArray, List.set_cons_zero, List.set_cons_succ]
        refine wpAnyH_take (i := 7) (v := ?_) rfl (by kernel_rfl) (by kernel_rfl) (by kernel_rfl) (fun _ _ _ h => h) (Or.inl ⟨by rfl, ?_⟩) hHeld ?_
        rotate_left
        · (intro wS hSw; (try dsimp only at hSw); go_simp; try with_reducible rfl)
        try simp only [Act.put, List.getElem_toArray, List.getElem_cons_zero, List.getElem_cons_succ, List.setIfInBounds_toArray, List.set_cons_zero, List.set_cons_succ]
        refine wpAnyH_take (i := 8) (v := ?_) rfl (by kernel_rfl) (by kernel_rfl) (by kernel_rfl) (fun _ _ _ h => h) (Or.inl ⟨by rfl, ?_⟩) hHeld ?_
        rotate_left
        · (intro wS hSw; (try dsimp only at hSw); go_simp; try with_reducible rfl)
        try simp only [Act.put, List.getElem_toArray, List.getElem_cons_zero, List.getElem_cons_succ, List.setIfInBounds_toArray, List.set_cons_zero, List.set_cons_succ]
        refine wpAnyH_ready (rs := [9]) (by kernel_rfl) (by simp) ?_
        refine AllReadyH.cons rfl (fun K' hK => ?_) AllReadyH.nil
        rw [if_pos (by rfl)]
        refine wp_mapUpdate_own (.tmp 17) (.tmp 21) (.tmp 25) 47 rfl 9 26 law9 Try.underlying47 Rh w.heap.size i _ rfl HI.out.1.drew (by unfold maxLen; omega) _ _ _ rfl rfl HKey.out _ [] rfl ?_
        intro w1 hown1 hgrow1
        have hn1 : MpI w K L (i + 1) w1 := ⟨hown1, hHeld.2.2.grown hgrow1 hHeld.2.2.size (fun j hj => by cases hj; exact Nat.le_refl _)⟩
        refine hK.out _ _ (mk.out _ hn1.2) (fun hH1 => ?_)
        clear hK hHeld hH1
        refine wpAnyH_done (by kernel_rfl) ?_ _
        have HN1 : Hid (MpI w K L (i + 1) w1) := hn1
        clear hn1 hown1 hgrow1
        go_wp2
        go_roundg g
        case measure => omega
        case rel => exact ⟨i + 1, by omega, by go_num, HN1.out⟩

def HrPost (w : World) (pm : Option Nat) (s : Sl) (e : Ending) (w' : World) : Prop := e = .returned (.pointer (some ⟨w.heap.size, 0, none⟩)) ∧ w'.heap[w.heap.size]? = some (.cells #[.map pm, .map none, .slice s.a s.n s.c] 63 (0, 0)) ∧ Below w.heap.size w w'
set_option maxHeartbeats 1000000 in
set_option maxRecDepth 100000 in
theorem host_any (pm : Option Nat) (s : Sl) (w : World) : Calls Try.prog 29 #[.map pm, .map none, .slice s.a s.n s.c] w (HrPost w pm s) := by
  go_enter Try.func29, Try.ntmps29
  go_wp2
  go_ret
  exact ⟨rfl, heap_alloc_new w _, (Below.refl _ _).alloc (Nat.le_refl _) _⟩
end Go.Proofs.Qxb6600159a
