/-
  THE LAW's WALK.
-/
import Derived.Test.Qxb6600159aE18
namespace Go.Proofs.Qxb6600159a
open Go.RowKit Plain Go.Maps Go.WideMaps
set_option linter.unusedSimpArgs false

set_option maxHeartbeats 4000000 in
set_option maxRecDepth 100000 in
theorem law_any (sa sk sl : Sl) (A : List Int) (K : Nat → ByteArray) (L : Nat → Sl) (f : Nat → List Int) (p r : ByteArray) (w : World) (hA : RdI w.heap.size w sa A) (hK : RdB w.heap.size w sk K) (hL : RdS w.heap.size w sl L) (hf : ∀ k, k < sl.n → RdI w.heap.size w (L k) (f k))
    (ha : sa.n ≤ 9223372036854775807) (hk : sk.n ≤ 9223372036854775807) (hl : sl.n ≤ 9223372036854775807) (hks : ∀ i, i < sk.n → (K i).size ≤ 9223372036854775807) (hls : ∀ i, i < sl.n → (L i).n ≤ 9223372036854775807) (hp : p.size ≤ 9223372036854775807) (hr : r.size ≤ 9223372036854775807) :
    Calls Try.prog 6 #[.slice sa.a sa.n sa.c, .slice sk.a sk.n sk.c, .slice sl.a sl.n sl.c, .string p, .string r] w (LawPost w) := by
  have HA : Hid (RdI w.heap.size w sa A) := hA
  have HK : Hid (RdB w.heap.size w sk K) := hK
  have HL : Hid (RdS w.heap.size w sl L) := hL
  have Hf : Hid (∀ k, k < sl.n → RdI w.heap.size w (L k) (f k)) := hf
  have HZ : Hid (Calls Try.prog 33 #[.slice sa.a sa.n sa.c, .slice sk.a sk.n sk.c, .slice sl.a sl.n sl.c, .string p, .string r] w (ZbPost w (sa.n + sk.n + sumK K sk.n + sl.n + sumL L sl.n + p.size + r.size))) := zz_any sa sk sl K L p r w.heap.size w hK hL ha hk hl hks hls hp hr
  clear hA hK hL hf hks hls
  go_enter Try.func6, Try.ntmps6
  go_upto_if 27 with (go_at_call 33; refine Calls.mono HZ.out ?_; rintro e w0 ⟨b, rfl, rfl, hT⟩)
  cases b with
  | false =>
    go_wp2
    go_ret
    exact ⟨rfl, Below.refl _ _⟩
  | true =>
    have hT' := hT (by simp)
    have hsK : ∀ k, k < sk.n → (K k).size ≤ 1048576 := fun k hk => by have := sumK_le (K := K) hk; omega
    have hsL : ∀ k, k < sl.n → (L k).n ≤ 1048576 := fun k hk => by have := sumL_le (L := L) hk; omega
    have HT : Hid (sa.n + sk.n + sumK K sk.n + sl.n + sumL L sl.n + p.size + r.size ≤ 1048576) := hT'
    have C1 : Hid (Calls Try.prog 21 #[.slice sa.a sa.n sa.c] w0 (NumPost 4194304 w0)) := listBytes_any sa.a sa.n sa.c w0 (by omega)
    have C2 : Hid (Calls Try.prog 22 #[.slice sk.a sk.n sk.c] w0 (NumPost 33554432 w0)) := stringsBytes_any sk K _ w0 (by omega) hsK HK.out
    have C3 : Hid (Calls Try.prog 9 #[.slice sl.a sl.n sl.c] w0 (NumPost 33554432 w0)) := listsBytes_any sl L _ w0 (by omega) hsL HL.out
    have C4 : Hid (Calls Try.prog 23 #[.string p] w0 (NumPost 4194304 w0)) := strBytes_any p w0 (by omega)
    have C5 : Hid (Calls Try.prog 23 #[.string r] w0 (NumPost 4194304 w0)) := strBytes_any r w0 (by omega)
    clear hT hT'
    go_upto_if 42 with (first
      | (go_at_call 21; refine Calls.mono C1.out ?_; rintro e w1 ⟨⟨r1, rfl, h1⟩, rfl⟩)
      | (go_at_call 22; refine Calls.mono C2.out ?_; rintro e w1 ⟨⟨r2, rfl, h2⟩, rfl⟩)
      | (go_at_call 9; refine Calls.mono C3.out ?_; rintro e w1 ⟨⟨r3, rfl, h3⟩, rfl⟩)
      | (go_at_call 23; refine Calls.mono C4.out ?_; rintro e w1 ⟨⟨r4, rfl, h4⟩, rfl⟩)
      | (go_at_call 23; refine Calls.mono C5.out ?_; rintro e w1 ⟨⟨r5, rfl, h5⟩, rfl⟩))
    have C6 : Hid (Calls Try.prog 24 #[.slice sa.a sa.n sa.c] w1 (AscPost w1 A)) := asc_any sa A w1 (by have := HT.out; omega) HA.out
    clear C1 C2 C3 C4 C5 HZ
    go_upto_region 5 with fail
    all_goals first | (go_ret; exact ⟨rfl, Below.refl _ _⟩) | skip
    have C7 : Hid (∀ w2, Below w1.heap.size w1 w2 → Calls Try.prog 10 #[.slice sl.a sl.n sl.c] w2 (AllPost w2 sl.n f)) := fun w2 hb => allAsc_any sl L f w2 (by have := HT.out; omega) hsL (fun h => by
        obtain ⟨b, o, e, hB, hc⟩ := (HL.out.below hb) h
        exact ⟨b, o, e, Nat.lt_of_lt_of_le hB hb.size, hc⟩) (fun k hk => ((Hf.out k hk).below hb).mono hb.size)
    go_upto_if 50 with (first
      | (go_at_call 24; refine Calls.mono C6.out ?_; rintro e w2 ⟨(_ | _), rfl, hb2, hr2⟩)
      | (go_at_call 10; refine Calls.mono (C7.out _ hb2) ?_; rintro e w3 ⟨(_ | _), rfl, hb3, hr3⟩))
    · go_wp2
      go_ret
      exact ⟨rfl, hb2⟩
    · go_wp2
      go_ret
      exact ⟨rfl, hb2.trans (hb3.mono hb2.size)⟩
    · have aA : Hid (Asc A) := hr2 (by simp)
      have aF : Hid (∀ k, k < sl.n → Asc (f k)) := hr3 (by simp)
      have hb : Below w1.heap.size w1 w3 := hb2.trans (hb3.mono hb2.size)
      have CA : Hid (Calls Try.prog 25 #[.slice sa.a sa.n sa.c] w3 (ClPost w3 A)) := clone_any sa A w3 (by have := HT.out; omega) ((HA.out.below hb).mono hb.size)
      have CB : Hid (∀ w4, Below w1.heap.size w1 w4 → Calls Try.prog 26 #[.slice sk.a sk.n sk.c] w4 (CsPost w4 sk.n K)) := fun w4 h4 => cloneS_any sk K w4 (by have := HT.out; omega) (fun h => by
        obtain ⟨b, o, e, hB, hc⟩ := (HK.out.below h4) h
        exact ⟨b, o, e, Nat.lt_of_lt_of_le hB h4.size, hc⟩)
      have CC : Hid (∀ w5, Below w1.heap.size w1 w5 → Calls Try.prog 11 #[.slice sl.a sl.n sl.c] w5 (CsLPost w5 sl.n f)) := fun w5 h5 => cloneL_any sl L f w5 (by have := HT.out; omega) hsL (fun h => by
        obtain ⟨b, o, e, hB, hc⟩ := (HL.out.below h5) h
        exact ⟨b, o, e, Nat.lt_of_lt_of_le hB h5.size, hc⟩) (fun k hk => ((Hf.out k hk).below h5).mono h5.size)
      clear C6 C7 hr2 hr3
      go_upto_region 8 with (go_at_call 25; refine Calls.mono CA.out ?_; rintro e w4 ⟨ta, rfl, hA4, _, hb4⟩)
      have hc4 : Below w1.heap.size w1 w4 := hb.trans (hb4.mono hb.size)
      go_upto_region 9 with (go_at_call 26; refine Calls.mono (CB.out _ hc4) ?_; rintro e w5 ⟨tk, rfl, hkn, hK5, hb5⟩; have HKn : Hid (tk.n = sk.n) := hkn; clear hkn)
      have hc5 : Below w1.heap.size w1 w5 := hc4.trans (hb5.mono hc4.size)
      go_upto_region 10 with (go_at_call 11; refine Calls.mono (CC.out _ hc5) ?_; rintro e w6 ⟨tl, Lc, rfl, hln, hL6, hf6, hb6⟩; have HLn : Hid (tl.n = sl.n) := hln; clear hln)
      have HC : Hid (Cl w1 w6 w6.heap.size ta tk tl A K Lc f) := by
        have e1 := HKn.out
        have e2 := HLn.out
        have e3 := HT.out
        have e4 := hA4.1
        have e5 := HA.out.1
        have e6 : sumL Lc tl.n = sumL L sl.n := by
          rw [e2, ← sum_eq (f := f) (fun k hk => (hf6 k hk).1), ← sum_eq (f := f) (fun k hk => (Hf.out k hk).1)]
        have hs6 := hb6.size
        have hs5 := hb5.size
        have hs4 := hb4.size
        exact ⟨((hA4.below hb5).below (hb6.mono hs5)).mono (by omega), (hK5.below hb6).mono hs6, hL6, fun k hk => ⟨hf6 k (by omega), aF.out k (by omega)⟩, aA.out, fun k hk => hsK k (by omega), by omega, by omega, by omega, Nat.le_refl _, hc5.trans (hb6.mono hc5.size), Nat.le_trans hc5.size hs6⟩
      have hpr : p.size + r.size ≤ 1048576 := by have := HT.out; omega
      clear HA HK HL Hf HT hsK hsL aA aF CA CB CC hA4 hK5 hL6 hf6 hb4 hc4 hb5 hc5 hb6 HKn HLn hb2 hb3 hb
      go_upto_region 11 with (go_at_call 27; refine Calls.mono (pair_num tk.n tl.n _) ?_; rintro e w7 ⟨m, rfl, hm, rfl⟩)
      go_upto_region 12 with (go_at_call 28; refine Calls.mono (HC.out.build hm.out) ?_; rintro e w8 ⟨pm, rfl, HM⟩)
      clear HC
      go_upto_region 13 with (go_at_call 29; refine Calls.mono HM.out.host ?_; rintro e w9 ⟨Hb, rfl, HH⟩)
      clear HM
      have hta : ta.n ≤ 1048576 := by have := HH.out.tot; omega
      go_upto_region 14 with (go_at_call 14; refine Calls.mono HH.out.total ?_; rintro e w10 ⟨t, rfl, ht, Ht, rfl⟩)
      obtain ⟨T, HTT, hTe⟩ : ∃ T : Nat, Hid (T = ta.n + t) ∧ Hid ((ta.n : Int) + (t : Int) = (T : Int)) := ⟨ta.n + t, rfl, by show _ = _; omega⟩
      rw [hTe.out]
      have hT20 : T ≤ 1048576 := by have h1 := HTT.out; have h2 := Ht.out; have h3 := HH.out.tot; omega
      have HW := HH.out.two2 HTT.out Ht.out 29 29
      go_upto_region 15 with fail
      obtain ⟨C1, hC1⟩ : ∃ C1, w10.heap.size = C1 := ⟨_, rfl⟩
      obtain ⟨w11, hw11⟩ : ∃ w11, (w10.alloc (.cells zz18 29)).alloc (.cells zz18 29) = w11 := ⟨_, rfl⟩
      rw [hC1, hw11] at HW
      unfold zz18 at hw11
      rw [hC1, hw11]
      have H11 : Hid (Two w1 w11 _ Hb C1 m T pm ta A K Lc f) := HW
      clear HW hw11 hC1 HH Ht HTT hTe
      have hq : (p ++ ⟨#[47]⟩ ++ r).size ≤ 2097150 := by rw [deep_size]; omega
      have Hq : Hid ((p ++ ⟨#[47]⟩ ++ r).size ≤ 2097150) := hq
      clear hq
      have Hsub : Hid (∀ v, In A K f m p v → In A K f m (p ++ ⟨#[47]⟩ ++ r) v) := fun v hv => deep_sub hv
      go_upto_region 16 with (go_at_call 30; refine Calls.mono (H11.out.short (p := p) (by omega)) ?_; rintro e w12 ⟨rfl, H12⟩)
      clear H11
      go_upto_region 17 with (go_at_call 30; refine Calls.mono (H12.out.deep (q := _) ?_) ?_; (exact Hq.out); rintro e w13 ⟨rfl, H13⟩; clear H12; generalize p ++ ⟨#[47]⟩ ++ r = Q at *; generalize p ++ ⟨#[47]⟩ = Q1)
      go_upto_region 18 with (go_at_call 13; refine Calls.mono (H13.out.drain hT20) ?_; rintro e w14 ⟨s, rfl, H14⟩)
      clear H13
      go_upto_region 19 with (go_at_call 13; refine Calls.mono (H14.out.drain hT20 Hsub.out) ?_; rintro e w15 ⟨t', rfl, H15⟩)
      clear H14
      go_wp2_with (go_at_call 34; refine Calls.mono H15.out.sub ?_; rintro e w16 ⟨rfl, H16⟩)
      go_ret
      exact ⟨rfl, H16.out⟩
end Go.Proofs.Qxb6600159a
