/-
  THE WALKS, fifth part: '==' of a table with itself; the law.
-/
import Derived.Test.Qxb6600052aW4
import Derived.Deep.RegionHeld3
namespace Go.Proofs.Qxb6600052a
open Go.RowKit

theorem part22 {A : Array Value} {f : Nat → Nat} (hT : Tab A f) (i : Nat) (hi : i < 33) (w : World) : (part 22 A (i * 1)).run Try.prog w = .ok (.int .u64 (f i : Nat)) w := by
  simp [part, Try.isAgg22, hT.get hi]

theorem eqlSelf_at {A : Array Value} {f : Nat → Nat} (hT : Tab A f) (d : Nat) (hd : ∀ (a : Int) w, (Op.equalIn d 22 (.int .u64 a) (.int .u64 a)).run Try.prog w = .ok true w) (w : World) :
    (Op.equalIn (d + 1) 23 (.agg A) (.agg A)).run Try.prog w = .ok true w := by
  have hl : ∀ (l : List Nat) (w : World), (∀ i ∈ l, i < 33) → (forIn (m := Sem) l ((none, ()) : Option Bool × Unit) (fun i _ => do
      let x ← part 22 A (i * 1)
      let y ← part 22 A (i * 1)
      let b ← Op.equalIn d 22 x y
      if (!b) = true then pure (ForInStep.done (some false, ())) else pure (ForInStep.yield (none, ())))).run Try.prog w = .ok (none, ()) w := by
    intro l
    induction l with
    | nil => intro w _; simp
    | cons i l ih =>
      intro w hm
      have hi := hm i (by simp)
      simp only [List.forIn_cons, Sem.run_bind, part22 hT i hi, Result.andThen_ok, hd]
      simp only [Bool.not_true, Bool.false_eq_true, if_false, Sem.run_pure, Result.andThen_ok]
      exact ih w fun j hj => hm j (by simp [hj])
  simp only [Op.equalIn, Sem.run_bind, run_underlying Try.underlying23, Result.andThen_ok, Try.sizeOf22]
  rw [Std.Legacy.Range.forIn_eq_forIn_range']
  have h33 := hl (List.range' 0 33 1) w (fun i hi => by simp at hi; omega)
  refine (congrArg (fun r => Result.andThen r _) h33).trans ?_
  simp
theorem eqlSelf {A : Array Value} {f : Nat → Nat} (hT : Tab A f) (w : World) : (Op.equalIn 10000 23 (.agg A) (.agg A)).run Try.prog w = .ok true w :=
  eqlSelf_at hT 9999 (fun a w => by rw [run_equalIn_int w 9998 22 .u64 .u64 _ _ Try.underlying22]; simp) w

theorem Tab.one' {A : Array Value} {f : Nat → Nat} (h : Tab A f) : ∀ v ∈ A.toList, v.oneCell' = true := fun v hv =>
  Array.all_eq_true_iff_forall_mem.1 h.one v (by simpa using hv)
theorem Tab.len {A : Array Value} {f : Nat → Nat} (h : Tab A f) : A.toList.length = 33 := by simp [h.1]
theorem range_block {w : World} {b : Nat} {C : Array Value} {t : TypeId} {fr : Nat × Nat} (hb : w.heap[b]? = some (.cells C t fr)) : w.rangeAt b 0 C.toList := fun j v hv => by
  rw [Nat.zero_add, cell_of_row w b j C t fr hb]; simpa using hv
theorem range_below {B : Nat} {w w' : World} (h : Below B w w') {b : Nat} (hb : b < B) {cs : List Value} (hr : w.rangeAt b 0 cs) : w'.rangeAt b 0 cs := fun j v hv => by
  rw [h.cell (p := ⟨b, 0 + j, none⟩) hb]; exact hr j v hv
theorem ok_zero {f : Nat → Nat} {n : Nat} (hn : n ≤ 32) (hz : ∀ a, 33 ≤ a → f a = 0) (h : ∀ a, a < 33 → Plain.Ok f n a) : (∀ a, n < a → f a = 0) ∧ ∀ a, f a < 2 ^ (n + 1) := by
  have h0 : ∀ a, n < a → f a = 0 := fun a ha => by
    by_cases h33 : a < 33
    · exact (h a h33).1 ha
    · exact hz a (by omega)
  refine ⟨h0, fun a => ?_⟩
  by_cases ha : n < a
  · rw [h0 a ha]; exact Nat.two_pow_pos _
  · exact Plain.lt_of_div ((h a (by omega)).2 (by omega))

theorem keepA {W : World} {N K : Nat} {xs ys : List Value} (r1 : W.rangeAt N 0 xs) (r2 : W.rangeAt K 0 ys) : W.drew.rangeAt N 0 xs ∧ W.drew.rangeAt K 0 ys ∧ Below (K + 1) W W.drew :=
  ⟨r1, r2, (Below.refl _ _).drew⟩
theorem keepB {W w' w3 : World} {N K : Nat} {xs ys : List Value} (hS : w'.rangeAt N 0 xs ∧ w'.rangeAt K 0 ys ∧ Below (K + 1) W w') (hb : Below w'.heap.size w' w3) (hWs : W.heap.size = K + 1) (hN : N + 2 ≤ K) :
    w3.rangeAt N 0 xs ∧ w3.rangeAt K 0 ys ∧ Below (K + 1) W w3 := by
  obtain ⟨r1, r2, h⟩ := hS
  have hs := h.size
  exact ⟨range_below hb (by omega) r1, range_below hb (by omega) r2, h.trans (hb.mono (by omega))⟩

def LawPost (w : World) (e : Ending) (w' : World) : Prop := e = .returned (.bool true) ∧ Below w.heap.size w w'

set_option maxHeartbeats 1000000 in
set_option maxRecDepth 100000 in
theorem law_out (A : Array Value) (s : Nat) (n : Int) (hn : n < 0 ∨ 32 < n) (w : World) :
    Calls Try.prog 3 #[.agg A, .int .u8 s, .int .i64 n] w (LawPost w) := by
  rcases hn with hn | hn
  · go_enter Try.func3, Try.ntmps3
    go_wp2
    go_ret
    exact ⟨rfl, (Below.refl _ _).alloc (Nat.le_refl _) _⟩
  · have hn' : ¬ n < 0 := by omega
    go_enter Try.func3, Try.ntmps3
    go_wp2
    go_ret
    exact ⟨rfl, (Below.refl _ _).alloc (Nat.le_refl _) _⟩

set_option maxHeartbeats 1000000 in
set_option maxRecDepth 100000 in
theorem law_in (A : Array Value) (f : Nat → Nat) (hT : Tab A f) (hz : ∀ a, 33 ≤ a → f a = 0) (s n : Nat) (hn : n ≤ 32) (hs : s < 256) (w : World) :
    Calls Try.prog 3 #[.agg A, .int .u8 s, .int .i64 n] w (LawPost w) := by
  have HZ : Hid (∀ a, 33 ≤ a → f a = 0) := hz
  clear hz
  have I23 : Hid _ := info23 hT
  go_enter Try.func3, Try.ntmps3
  go_wp2_with (first
    | (refine wpList_load_row rfl 23 (.tmp 3) rfl w.heap.size rfl 23 A (0, 0) (.array 33 22) (heap_alloc_last w _) Try.underlying23 rfl I23.out ?_)
    | fail)
  refine (well_any A f hT n hn _).mono ?_
  rintro e w' ⟨b, rfl, hb, rfl⟩
  cases b with
  | false =>
    clear hb
    go_wp2
    go_ret
    exact ⟨rfl, ((Below.refl _ _).alloc (Nat.le_refl _) _).alloc (by simp) _⟩
  | true =>
    obtain ⟨h0, hlt⟩ := ok_zero hn HZ.out (hb.1 rfl)
    have H0 : Hid (∀ a, n < a → f a = 0) := h0
    have HL : Hid (∀ a, f a < 2 ^ (n + 1)) := hlt
    clear h0 hlt hb
    go_wp2_with (first
      | (refine wpList_load_row rfl 23 (.tmp 3) rfl w.heap.size rfl 23 A (0, 0) (.array 33 22) (heap_alloc2_old w _ _) Try.underlying23 rfl I23.out ?_)
      | fail)
    refine (zz_any A f hT s n hn hs H0.out HL.out _).mono ?_
    rintro e w2 ⟨B, g, rfl, hB, hI, hbel⟩
    go_wp2_with (first
      | (refine wpList_store_last rfl 23 (.tmp 7) (.tmp 21) rfl w2.heap.size B rfl rfl 23 _ rfl (info23 hB) (by exact hB.1.symm) hB.one ?_)
      | fail)
    have hsz : w.heap.size + 2 ≤ w2.heap.size := by have := hbel.size; simp at this; omega
    have r1 : (w2.alloc (.cells B 23)).rangeAt w.heap.size 0 A.toList := by
      refine World.rangeAt_alloc (range_below hbel (by simp; omega) ?_) _
      exact range_block (heap_alloc2_old w _ _)
    have r2 : (w2.alloc (.cells B 23)).rangeAt w2.heap.size 0 B.toList := range_block (heap_alloc_last w2 _)
    have u23 := Try.underlying23
    have i1 : (Try.prog.info? 23).map (·.size) = some A.toList.length := by rw [hT.len]; kernel_rfl
    have i2 : (Try.prog.info? 23).map (·.size) = some B.toList.length := by rw [hB.len]; kernel_rfl
    have l1 := hT.len
    have l2 := hB.len
    have o1 := hT.one'
    have o2 := hB.one'
    have hE := eqlSelf hB
    have HI : Hid (Plain.Inv f s n 0 g) := hI
    clear hI
    have hbel' : Below w.heap.size w (w2.alloc (.cells B 23)) := by
      refine Below.alloc ?_ (by omega) _
      exact (((Below.refl _ _).alloc (Nat.le_refl _) _).alloc (by simp) _).trans (hbel.mono (by simp; omega))
    clear hbel
    generalize hW : w2.alloc (.cells B 23) = W at *
    have hWs : W.heap.size = w2.heap.size + 1 := by rw [← hW]; simp
    clear hW
    generalize w2.heap.size = K at *
    dsimp only [Act.put]
    -- the region by hand: 'go_region_held3' takes ONE long load alone (its named holes are not made anew for a second)
    refine wp_region_held_drew (S := fun w' => w'.rangeAt w.heap.size 0 A.toList ∧ w'.rangeAt K 0 B.toList ∧ Below (K + 1) W w') (by kernel_rfl) (keepA r1 r2) (fun hHeld => ?_)
    refine wpAnyH_take (i := 0) rfl (by kernel_rfl) (by kernel_rfl) (by kernel_rfl) (fun _ _ _ h => h) (yieldsIf_load_mid (by rfl) 23 (.tmp 7) rfl K 0 rfl B.toList (.array 33 22) (fun w h => h.2.1) Try.underlying23 rfl i2) hHeld ?_
    refine wpAnyH_take (i := 1) rfl (by kernel_rfl) (by kernel_rfl) (by kernel_rfl) (fun _ _ _ h => h) (yieldsIf_load_mid (by rfl) 23 (.tmp 3) rfl w.heap.size 0 rfl A.toList (.array 33 22) (fun w h => h.1) Try.underlying23 rfl i1) hHeld ?_
    refine wpAnyH_take (i := 2) (v := .int .u8 (s : Nat)) rfl (by kernel_rfl) (by kernel_rfl) (by kernel_rfl) (fun _ _ _ h => h) (Or.inl ⟨by rfl, fun w _ => by go_simp⟩) hHeld ?_
    refine wpAnyH_take (i := 3) (v := .int .i64 (n : Nat)) rfl (by kernel_rfl) (by kernel_rfl) (by kernel_rfl) (fun _ _ _ h => h) (Or.inl ⟨by rfl, fun w _ => by go_simp⟩) hHeld ?_
    refine wpAnyH_ready (rs := [4]) (by kernel_rfl) (by simp) ?_
    refine AllReadyH.cons rfl (fun K' hK => ?_) AllReadyH.nil
    go_simp
    refine (model_any A f hT s n hn hs HL.out _).mono ?_
    rintro e w3 ⟨B', g', rfl, hB', hM, hb3⟩
    obtain rfl : B' = B := hB'.unique (Plain.same HI.out hM ▸ hB)
    dsimp only
    refine hK.out _ _ (keepB hHeld hb3 hWs hsz) (fun hHeld' => ?_)
    clear hK hHeld
    refine wpAnyH_take (i := 5) (v := .bool true) rfl (by kernel_rfl) (by kernel_rfl) (by kernel_rfl) (fun _ _ _ h => h) (Or.inl ⟨by rfl, fun w _ => by go_simp⟩) hHeld' ?_
    refine wpAnyH_take (i := 6) (v := .bool true) rfl (by kernel_rfl) (by kernel_rfl) (by kernel_rfl) (fun _ _ _ h => h) (Or.inl ⟨by rfl, fun w _ => by go_simp⟩) hHeld' ?_
    refine wpAnyH_done (by kernel_rfl) ?_ _
    go_wp2
    go_ret
    exact ⟨rfl, hbel'.trans (hHeld'.2.2.mono (by omega))⟩
end Go.Proofs.Qxb6600052a
