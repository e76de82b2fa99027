/-
  THE WALKS: zzNodeTable_b1, ZZRelaxedView_b1.
-/
import Derived.Test.Qxb6600017aD8
namespace Go.Proofs.Qxb6600017a
open Go.RowKit
set_option linter.unusedSimpArgs false

def NtPost (w : World) (x y : Int) (l1 l2 l3 : Nat) (e : Ending) (w' : World) : Prop :=
  ∃ s1 s2 s3 : Sl, e = .returned (.agg #[.int .i64 x, .int .i64 y, .slice s1.a s1.n s1.c, .slice s2.a s2.n s2.c, .slice s3.a s3.n s3.c]) ∧ s1.n = l1 ∧ s2.n = l2 ∧ s3.n = l3 ∧ Below w.heap.size w w'
theorem size37 : (Try.prog.info? 37).map (·.size) = some 5 := by kernel_rfl
def NtI (w : World) (x y : Int) (sf s1 s2 : Sl) (w' : World) : Prop := Below (w.heap.size + 1) (w.alloc (.cells #[.int .i64 x, .int .i64 y, .slice sf.a sf.n sf.c, .slice s1.a s1.n s1.c, .slice s2.a s2.n s2.c] 75)) w' ∧ ∃ cs : Array Value, cs.size = 5 ∧ w'.heap[w.heap.size + 1]? = some (.cells cs 37 (0, 0))
section
variable {w : World} {x y : Int} {sf s1 s2 : Sl} {w' w'' : World}
theorem NtI.start : NtI w x y sf s1 s2 ((w.alloc (.cells #[.int .i64 x, .int .i64 y, .slice sf.a sf.n sf.c, .slice s1.a s1.n s1.c, .slice s2.a s2.n s2.c] 75)).alloc (.cells #[.int .i64 0, .int .i64 0, .slice none 0 0, .slice none 0 0, .slice none 0 0] 37)) := ⟨(Below.refl _ _).alloc (by simp) _, _, rfl, heap_alloc2_new w _ _⟩
theorem NtI.drew (h : NtI w x y sf s1 s2 w') : NtI w x y sf s1 s2 w'.drew := ⟨h.1.drew, h.2⟩
theorem NtI.down (h : NtI w x y sf s1 s2 w') : Below w.heap.size w w' := ((Below.refl _ _).alloc (Nat.le_refl _) _).trans (h.1.mono (by omega))
theorem NtI.size (h : NtI w x y sf s1 s2 w') : w.heap.size + 2 ≤ w'.heap.size := by
  obtain ⟨_, cs, _, h⟩ := h
  by_cases e : w.heap.size + 1 < w'.heap.size
  · omega
  · rw [Array.getElem?_eq_none (by omega)] at h; cases h
theorem NtI.next (h : NtI w x y sf s1 s2 w') (hb : Below w'.heap.size w' w'') : NtI w x y sf s1 s2 w'' := by
  have hs := h.size
  obtain ⟨h1, cs, h2, h3⟩ := h
  exact ⟨h1.trans (hb.mono (by omega)), cs, h2, by rw [hb.block _ (by omega)]; exact h3⟩
theorem NtI.put (h : NtI w x y sf s1 s2 w') (c : Array Value) (hc : c.size = 5) : NtI w x y sf s1 s2 (w'.setRow (w.heap.size + 1) c) := by
  obtain ⟨h1, cs, h2, h3⟩ := h
  exact ⟨below_setRow h1 _ (by omega) _, c, hc, setRow_heap _ _ _ _ _ _ h3⟩
theorem NtI.box (h : NtI w x y sf s1 s2 w') : w'.heap[w.heap.size]? = some (.cells #[.int .i64 x, .int .i64 y, .slice sf.a sf.n sf.c, .slice s1.a s1.n s1.c, .slice s2.a s2.n s2.c] 75 (0, 0)) := by
  rw [h.1.block _ (by omega)]; exact heap_alloc_new w _
end

set_option maxHeartbeats 2000000 in
set_option maxRecDepth 100000 in
theorem table_any (x y : Int) (sf s1 s2 : Sl) (w : World) (l0 : sf.n ≤ 1048576) (l1 : s1.n ≤ 1048576) (l2 : s2.n ≤ 1048576) (hf : RdE isInt1 1 0 w sf) (h1 : RdE isInt2 2 0 w s1) (h2 : RdE isInt2 2 0 w s2) :
    Calls Try.prog 35 #[.agg #[.int .i64 x, .int .i64 y, .slice sf.a sf.n sf.c, .slice s1.a s1.n s1.c, .slice s2.a s2.n s2.c]] w (NtPost w x y sf.n s1.n s2.n) := by
  have HF : Hid (RdE isInt1 1 0 w sf) := hf
  have H1 : Hid (RdE isInt2 2 0 w s1) := h1
  have H2 : Hid (RdE isInt2 2 0 w s2) := h2
  clear hf h1 h2
  have mk : Hid (∀ w', NtI w x y sf s1 s2 w' → (w'.cell? ⟨w.heap.size, 0, none⟩ = some (.int .i64 x) ∧ w'.cell? ⟨w.heap.size, 1, none⟩ = some (.int .i64 y) ∧ w'.cell? ⟨w.heap.size, 2, none⟩ = some (.slice sf.a sf.n sf.c) ∧ w'.cell? ⟨w.heap.size, 3, none⟩ = some (.slice s1.a s1.n s1.c) ∧ w'.cell? ⟨w.heap.size, 4, none⟩ = some (.slice s2.a s2.n s2.c) ∧ NtI w x y sf s1 s2 w')) := fun w' h =>
    ⟨cell_of_row w' _ 0 _ _ _ h.box, cell_of_row w' _ 1 _ _ _ h.box, cell_of_row w' _ 2 _ _ _ h.box, cell_of_row w' _ 3 _ _ _ h.box, cell_of_row w' _ 4 _ _ _ h.box, h⟩
  go_enter Try.func35, Try.ntmps35
  go_wp2
  refine wp_region_held_drew (S := fun w' => w'.cell? ⟨w.heap.size, 0, none⟩ = some (.int .i64 x) ∧ w'.cell? ⟨w.heap.size, 1, none⟩ = some (.int .i64 y) ∧ w'.cell? ⟨w.heap.size, 2, none⟩ = some (.slice sf.a sf.n sf.c) ∧ w'.cell? ⟨w.heap.size, 3, none⟩ = some (.slice s1.a s1.n s1.c) ∧ w'.cell? ⟨w.heap.size, 4, none⟩ = some (.slice s2.a s2.n s2.c) ∧ NtI w x y sf s1 s2 w') (by kernel_rfl) (mk.out _ NtI.start.drew) (fun hHeld => ?_)
  refine wpAnyH_take (i := 0) (v := ?_) rfl (by kernel_rfl) (by kernel_rfl) (by kernel_rfl) (fun _ _ _ h => h) (Or.inl ⟨by rfl, ?_⟩) hHeld ?_
  rotate_left
  · (intro wS hSw; (try dsimp only at hSw); go_simp; try with_reducible rfl)
  try simp only [Act.put, List.getElem_toArray, List.getElem_cons_zero, List.getElem_cons_succ, List.setIfInBounds_toArray, List.set_cons_zero, List.set_cons_succ]
  refine wpAnyH_take (i := 1) (v := ?_) rfl (by kernel_rfl) (by kernel_rfl) (by kernel_rfl) (fun _ _ _ h => h) (Or.inl ⟨by rfl, ?_⟩) hHeld ?_
  rotate_left
  · (intro wS hSw; (try dsimp only at hSw); go_simp; try with_reducible rfl)
  try simp only [Act.put, List.getElem_toArray, List.getElem_cons_zero, List.getElem_cons_succ, List.setIfInBounds_toArray, List.set_cons_zero, List.set_cons_succ]
  refine wpAnyH_take (i := 2) (v := ?_) rfl (by kernel_rfl) (by kernel_rfl) (by kernel_rfl) (fun _ _ _ h => h) (Or.inl ⟨by rfl, ?_⟩) hHeld ?_
  rotate_left
  · (intro wS hSw; (try dsimp only at hSw); go_simp; try with_reducible rfl)
  try simp only [Act.put, List.getElem_toArray, List.getElem_cons_zero, List.getElem_cons_succ, List.setIfInBounds_toArray, List.set_cons_zero, List.set_cons_succ]
  refine wpAnyH_take (i := 3) (v := ?_) rfl (by kernel_rfl) (by kernel_rfl) (by kernel_rfl) (fun _ _ _ h => h) (Or.inl ⟨by rfl, ?_⟩) hHeld ?_
  rotate_left
  · (intro wS hSw; (try dsimp only at hSw); go_simp; try with_reducible rfl)
  try simp only [Act.put, List.getElem_toArray, List.getElem_cons_zero, List.getElem_cons_succ, List.setIfInBounds_toArray, List.set_cons_zero, List.set_cons_succ]
  refine wpAnyH_take (i := 4) (v := ?_) rfl (by kernel_rfl) (by kernel_rfl) (by kernel_rfl) (fun _ _ _ h => h) (Or.inl ⟨by rfl, ?_⟩) hHeld ?_
  rotate_left
  · (intro wS hSw; (try dsimp only at hSw); go_simp; try with_reducible rfl)
  try simp only [Act.put, List.getElem_toArray, List.getElem_cons_zero, List.getElem_cons_succ, List.setIfInBounds_toArray, List.set_cons_zero, List.set_cons_succ]
  refine wpAnyH_take (i := 5) (v := ?_) rfl (by kernel_rfl) (by kernel_rfl) (by kernel_rfl) (fun _ _ _ h => h) (Or.inl ⟨by rfl, ?_⟩) hHeld ?_
  rotate_left
  · (intro wS hSw; (try dsimp only at hSw); go_simp; try with_reducible rfl)
  try simp only [Act.put, List.getElem_toArray, List.getElem_cons_zero, List.getElem_cons_succ, List.setIfInBounds_toArray, List.set_cons_zero, List.set_cons_succ]
  refine wpAnyH_take (i := 7) (v := ?_) rfl (by kernel_rfl) (by kernel_rfl) (by kernel_rfl) (fun _ _ _ h => h) (Or.inl ⟨by rfl, ?_⟩) hHeld ?_
  rotate_left
  · (intro wS hSw; (try dsimp only at hSw); go_simp; try with_reducible rfl)
  try simp only [Act.put, List.getElem_toArray, List.getElem_cons_zero, List.getElem_cons_succ, List.setIfInBounds_toArray, List.set_cons_zero, List.set_cons_succ]
  refine wpAnyH_take (i := 8) (v := ?_) rfl (by kernel_rfl) (by kernel_rfl) (by kernel_rfl) (fun _ _ _ h => h) (Or.inl ⟨by rfl, ?_⟩) hHeld ?_
  rotate_left
  · (intro wS hSw; (try dsimp only at hSw); go_simp; try with_reducible rfl)
  try simp only [Act.put, List.getElem_toArray, List.getElem_cons_zero, List.getElem_cons_succ, List.setIfInBounds_toArray, List.set_cons_zero, List.set_cons_succ]
  refine wpAnyH_take (i := 10) (v := ?_) rfl (by kernel_rfl) (by kernel_rfl) (by kernel_rfl) (fun _ _ _ h => h) (Or.inl ⟨by rfl, ?_⟩) hHeld ?_
  rotate_left
  · (intro wS hSw; (try dsimp only at hSw); go_simp; try with_reducible rfl)
  try simp only [Act.put, List.getElem_toArray, List.getElem_cons_zero, List.getElem_cons_succ, List.setIfInBounds_toArray, List.set_cons_zero, List.set_cons_succ]
  refine wpAnyH_take (i := 11) (v := ?_) rfl (by kernel_rfl) (by kernel_rfl) (by kernel_rfl) (fun _ _ _ h => h) (Or.inl ⟨by rfl, ?_⟩) hHeld ?_
  rotate_left
  · (intro wS hSw; (try dsimp only at hSw); go_simp; try with_reducible rfl)
  try simp only [Act.put, List.getElem_toArray, List.getElem_cons_zero, List.getElem_cons_succ, List.setIfInBounds_toArray, List.set_cons_zero, List.set_cons_succ]
  refine wpAnyH_ready (rs := [6]) (by kernel_rfl) (by simp) ?_
  refine AllReadyH.cons rfl (fun K' hK => ?_) AllReadyH.nil
  go_simp
  refine (ints_any _ _ l0 (HF.out.below isInt1_hd (hHeld.2.2.2.2.2.down) (Nat.le_refl _))).mono ?_
  rintro e wa ⟨ra, rfl, hna, hba⟩
  have Hna : Hid _ := hna
  clear hna
  dsimp only
  refine hK.out _ _ (mk.out _ (hHeld.2.2.2.2.2.next hba)) (fun hA => ?_)
  clear hK hHeld
  try simp only [Act.put, List.getElem_toArray, List.getElem_cons_zero, List.getElem_cons_succ, List.setIfInBounds_toArray, List.set_cons_zero, List.set_cons_succ]
  refine wpAnyH_ready (rs := [9]) (by kernel_rfl) (by simp) ?_
  refine AllReadyH.cons rfl (fun K' hK => ?_) AllReadyH.nil
  go_simp
  refine (fingers_any _ _ l1 (H1.out.below isInt2_hd (hA.2.2.2.2.2.down) (Nat.le_refl _))).mono ?_
  rintro e wb ⟨rb, rfl, hnb, hbb⟩
  have Hnb : Hid _ := hnb
  clear hnb
  dsimp only
  refine hK.out _ _ (mk.out _ (hA.2.2.2.2.2.next hbb)) (fun hB => ?_)
  clear hK hA
  try simp only [Act.put, List.getElem_toArray, List.getElem_cons_zero, List.getElem_cons_succ, List.setIfInBounds_toArray, List.set_cons_zero, List.set_cons_succ]
  refine wpAnyH_ready (rs := [12]) (by kernel_rfl) (by simp) ?_
  refine AllReadyH.cons rfl (fun K' hK => ?_) AllReadyH.nil
  go_simp
  refine (fingers_any _ _ l2 (H2.out.below isInt2_hd (hB.2.2.2.2.2.down) (Nat.le_refl _))).mono ?_
  rintro e wc ⟨rc, rfl, hnc, hbc⟩
  have Hnc : Hid _ := hnc
  clear hnc
  dsimp only
  refine hK.out _ _ (mk.out _ (hB.2.2.2.2.2.next hbc)) (fun hC => ?_)
  clear hK hB
  try simp only [Act.put, List.getElem_toArray, List.getElem_cons_zero, List.getElem_cons_succ, List.setIfInBounds_toArray, List.set_cons_zero, List.set_cons_succ]
  refine wpAnyH_take (i := 13) (v := ?_) rfl (by kernel_rfl) (by kernel_rfl) (by kernel_rfl) (fun _ _ _ h => h) (Or.inl ⟨by rfl, ?_⟩) hC ?_
  rotate_left
  · (intro wS hSw; (try dsimp only at hSw); go_simp; try with_reducible rfl)
  try simp only [Act.put, List.getElem_toArray, List.getElem_cons_zero, List.getElem_cons_succ, List.setIfInBounds_toArray, List.set_cons_zero, List.set_cons_succ]
  refine wpAnyH_ready (rs := [14]) (by kernel_rfl) (by simp) ?_
  refine AllReadyH.cons rfl (fun K' hK => ?_) AllReadyH.nil
  rw [if_pos (by rfl)]
  obtain ⟨old, ho5, hold⟩ := hC.2.2.2.2.2.2
  refine wp_store_row 37 (.tmp 2) (.tmp 16) rfl _ _ rfl rfl 37 _ hold size37 ho5 (one75 _ _ _ _ _ _ _ _ _ _ _) ?_
  have hfin := below_setRow hC.2.2.2.2.2.down (w.heap.size + 1) (by omega) #[.int .i64 x, .int .i64 y, .slice ra.a ra.n ra.c, .slice rb.a rb.n rb.c, .slice rc.a rc.n rc.c]
  have hout := setRow_heap wc (w.heap.size + 1) _ #[.int .i64 x, .int .i64 y, .slice ra.a ra.n ra.c, .slice rb.a rb.n rb.c, .slice rc.a rc.n rc.c] _ _ hold
  refine hK.out _ _ (mk.out _ (hC.2.2.2.2.2.put _ rfl)) (fun hD => ?_)
  clear hK hD
  refine wpAnyH_done (by kernel_rfl) ?_ _
  go_wp2
  refine bodyPost_ret (v := .agg #[.int .i64 x, .int .i64 y, .slice ra.a ra.n ra.c, .slice rb.a rb.n rb.c, .slice rc.a rc.n rc.c]) ?_ rfl ⟨ra, rb, rc, rfl, Hna.out, Hnb.out, Hnc.out, hfin⟩
  exact results_cell_row (p := 2) (ty := 37) rfl _ _ (w.heap.size + 1) 37 _ (0, 0) _ rfl hout Try.underlying37 rfl size37

theorem VIn.below {w w' : World} {B o : Nat} {pre suc : Int} {np : Bool} {s : Sl} {fa ba : Option Addr} {lf lb : Nat} {dead : Bool} {L : Nat} (h : VIn w B o pre suc np s fa ba lf lb dead) (hb : Below L w w') (hL : w.heap.size ≤ L) : VIn w' B o pre suc np s fa ba lf lb dead := by
  have hB : B < L := by have := World.block_lt_of_cell? w _ h.c6; exact Nat.lt_of_lt_of_le this hL
  exact ⟨by rw [hb.cell hB]; exact h.c6, by rw [hb.cell hB]; exact h.c10, by rw [hb.cell hB]; exact h.c11, by rw [hb.cell hB]; exact h.c13, by rw [hb.cell hB]; exact h.c14, by rw [hb.cell hB]; exact h.c15,
    h.fwd.below hb hL, h.bck.below hb hL, h.fol.below hb hL, h.lfol, h.lfwd, h.lbck, h.p1, h.p2, h.s1, h.s2⟩

def RvPost (w : World) (suc pr : Int) (none' : Bool) (e : Ending) (w' : World) : Prop :=
  ∃ s1 s2 s3 : Sl, e = .returned (.agg #[.int .i64 suc, .int .i64 pr, .slice s1.a s1.n s1.c, .slice s2.a s2.n s2.c, .slice s3.a s3.n s3.c]) ∧ (none' = true → s1.n = 0 ∧ s2.n = 0 ∧ s3.n = 0) ∧ Below w.heap.size w w'

set_option maxHeartbeats 2000000 in
set_option maxRecDepth 100000 in
theorem rview_any (B n c node : Nat) (pre suc : Int) (np : Bool) (s : Sl) (fa ba : Option Addr) (lf lb : Nat) (dead : Bool) (w : World) (hnode : node < n) (pr : Int) (hpr : (if np = true then -1 else pre) = pr)
    (h : VIn w B (node * 16) pre suc np s fa ba lf lb dead) :
    Calls Try.prog 23 #[.slice (some ⟨B, 0, none⟩) n c, .int .i64 node] w (RvPost w suc pr (dead && decide (s.n = 0))) := by
  have HI : Hid (VIn w B (node * 16) pre suc np s fa ba lf lb dead) := h
  clear h
  go_enter Try.func23, Try.ntmps23
  go_wp2_with (first
    | (go_at_call 40; refine (view_any B n c node pre suc np s fa ba lf lb dead _ hnode pr hpr (HI.out.below ((Below.refl _ _).alloc (Nat.le_refl _) _) (Nat.le_refl _))).mono ?_; rintro e w1 ⟨v, rfl, ⟨sf, s1, s2, rfl, l0, l1, l2, r0, r1, r2, hz⟩, hb1⟩)
    | (go_at_call 35; refine (table_any suc pr sf s1 s2 _ l0 l1 l2 r0 r1 r2).mono ?_; rintro e w2 ⟨ra, rb, rc, rfl, hna, hnb, hnc, hb2⟩;
       have hO : w2.heap[w.heap.size]? = some (.cells #[.int .i64 0, .int .i64 0, .slice none 0 0, .slice none 0 0, .slice none 0 0] 37 (0, 0)) := (hb2.block _ (by have := hb1.size; simp at this; omega)).trans ((hb1.block _ (by simp)).trans (heap_alloc_new w _));
       have Hn : Hid _ := And.intro hna (And.intro hnb hnc); clear hna hnb hnc)
    | (refine wpList_store_row rfl 37 (.tmp 4) (.tmp 8) rfl w.heap.size _ rfl rfl 37 _ hO size37 rfl (one75 _ _ _ _ _ _ _ _ _ _ _) ?_))
  refine bodyPost_ret (v := .agg #[.int .i64 suc, .int .i64 pr, .slice ra.a ra.n ra.c, .slice rb.a rb.n rb.c, .slice rc.a rc.n rc.c]) ?_ rfl ⟨ra, rb, rc, rfl, fun h => ?_, ?_⟩
  · exact results_cell_row (p := 4) (ty := 37) rfl _ _ w.heap.size 37 _ (0, 0) _ rfl (setRow_heap _ _ _ _ _ _ hO) Try.underlying37 rfl size37
  · obtain ⟨q1, q2, q3⟩ := Hn.out
    obtain ⟨z1, z2, z3⟩ := hz h
    rw [q1, q2, q3, z1, z2, z3]
    exact ⟨rfl, rfl, rfl⟩
  · exact below_setRow ((((Below.refl _ _).alloc (Nat.le_refl _) _).trans (hb1.mono (by simp))).trans (hb2.mono (by have := hb1.size; simp at this; omega))) _ (Nat.le_refl _) _
end Go.Proofs.Qxb6600017a
