/-
  THE WALK: candidates.next.
-/
import Derived.Test.Qxb6600159aE13
namespace Go.Proofs.Qxb6600159a
open Go.RowKit Plain Go.Maps Go.WideMaps
set_option linter.unusedSimpArgs false

set_option maxHeartbeats 4000000 in
set_option maxRecDepth 100000 in
theorem next_any (C g N Bc : Nat) (sm : Sl) (Ls : Nat → Sl) (f : Nat → List Int) (w : World) (h : Dr w C g N sm Ls) (hN : N ≤ 2097152) (hR : ∀ k, k < N → RdI Bc w (Ls k) (f k) ∧ Asc (f k)) (hB : Bc < C) :
    Calls Try.prog 41 #[.pointer (some ⟨C, 0, none⟩)] w (NxPost w C g N Bc sm Ls f) := by
  have c16 := h.num
  have c17 := h.mv
  obtain ⟨u0, c0⟩ : ∃ u, w.cell? ⟨C, 0, none⟩ = some u := (there_at h.th (show 0 < 18 by omega)).1
  obtain ⟨m, hm⟩ : ∃ m, min N 16 = m := ⟨_, rfl⟩
  have hm16 : m ≤ 16 := by omega
  rw [hm] at c16
  have hm16' : (m : Int) ≤ 16 := by omega
  have hCl := h.lt
  have hgl := h.gt
  have hne := h.ne
  have H : Hid (Dr w C g N sm Ls) := h
  have HR : Hid (∀ k, k < N → RdI Bc w (Ls k) (f k) ∧ Asc (f k)) := hR
  clear h hR
  go_enter Try.func41, Try.ntmps41
  go_upto_region 2 with fail
  go_region
  have hb1 : Below w.heap.size w (w.alloc (.cells #[.slice (some ⟨C, 0, none⟩) m 16, .slice sm.a sm.n sm.c] 22)).drew := ((Below.refl _ _).alloc (Nat.le_refl _) _).drew
  have H1 : Hid (Dr (w.alloc (.cells #[.slice (some ⟨C, 0, none⟩) m 16, .slice sm.a sm.n sm.c] 22)).drew C g N sm Ls) := H.out.keep (by have := hb1.size; omega) (hb1.block _ hCl) (fun _ => hb1.block _ hgl)
  have a0 : (w.alloc (.cells #[.slice (some ⟨C, 0, none⟩) m 16, .slice sm.a sm.n sm.c] 22)).drew.cell? ⟨w.heap.size, 0, none⟩ = some (.slice (some ⟨C, 0, none⟩) m 16) := cell_of_row _ _ 0 _ _ _ (heap_alloc_new w _)
  have a1 : (w.alloc (.cells #[.slice (some ⟨C, 0, none⟩) m 16, .slice sm.a sm.n sm.c] 22)).drew.cell? ⟨w.heap.size, 1, none⟩ = some (.slice sm.a sm.n sm.c) := cell_of_row _ _ 1 _ _ _ (heap_alloc_new w _)
  have HR1 : Hid (∀ k, k < N → RdI Bc (w.alloc (.cells #[.slice (some ⟨C, 0, none⟩) m 16, .slice sm.a sm.n sm.c] 22)).drew (Ls k) (f k) ∧ Asc (f k)) := fun k hk => ⟨(HR.out k hk).1.below (hb1.mono (by omega)), (HR.out k hk).2⟩
  have hP0 : ∀ j, j < 2 → ∃ s : Sl, (w.alloc (.cells #[.slice (some ⟨C, 0, none⟩) m 16, .slice sm.a sm.n sm.c] 22)).drew.cell? ⟨w.heap.size, j, none⟩ = some (.slice s.a s.n s.c) ∧ idx N j + s.n = idx N (j + 1) ∧ s.n ≤ N ∧ Part (w.alloc (.cells #[.slice (some ⟨C, 0, none⟩) m 16, .slice sm.a sm.n sm.c] 22)).drew s (idx N j) C g Ls := fun j hj => H1.out.part hm a0 a1 hj
  clear a0 a1
  generalize (w.alloc (.cells #[.slice (some ⟨C, 0, none⟩) m 16, .slice sm.a sm.n sm.c] 22)).drew = W1 at *
  have HP0 : Hid (∀ j, j < 2 → ∃ s : Sl, W1.cell? ⟨w.heap.size, j, none⟩ = some (.slice s.a s.n s.c) ∧ idx N j + s.n = idx N (j + 1) ∧ s.n ≤ N ∧ Part W1 s (idx N j) C g Ls) := hP0
  clear hP0 c16 c17 c0 HR
  go_wp2
  go_loopg [4, 27] 2 (fun gh s4 s27 wx => ∃ j : Nat, j + gh = 2 ∧ s27 = .int .i64 j ∧ s4 = .int .i32 (least f (idx N j)) ∧ wx = W1)
  case atStart => exact ⟨0, by omega, rfl, by simp [idx, least], rfl⟩
  case round =>
    obtain ⟨j, hjg, rfl, rfl, hwr⟩ := hrel
    subst hwr
    cases gk with
    | zero =>
      obtain rfl : j = 2 := by omega
      rw [show idx N 2 = N by simp [idx]]
      obtain ⟨l, hlq⟩ : ∃ l, least f N = l := ⟨_, rfl⟩
      rw [hlq]
      have HLQ : Hid (least f N = l) := hlq
      clear hlq HP0
      by_cases hl : l < 0
      · go_wp2
        go_ret2
        exact ⟨Fr2.of_below hb1, .inl ⟨by rw [HLQ.out]; exact hl, rfl, H1.out⟩⟩
      · have c16 := H1.out.num
        have c17 := H1.out.mv
        obtain ⟨u0, c0⟩ : ∃ u, wr.cell? ⟨C, 0, none⟩ = some u := (there_at H1.out.th (show 0 < 18 by omega)).1
        rw [hm] at c16
        have hCl1 := H1.out.lt
        have hgl1 := H1.out.gt
        go_upto_region 14 with fail
        go_region
        have hb2 : Below wr.heap.size wr (wr.alloc (.cells #[.slice (some ⟨C, 0, none⟩) m 16, .slice sm.a sm.n sm.c] 22)).drew := ((Below.refl _ _).alloc (Nat.le_refl _) _).drew
        have hP2 : P2 w C g N Bc wr.heap.size m sm l f 0 (wr.alloc (.cells #[.slice (some ⟨C, 0, none⟩) m 16, .slice sm.a sm.n sm.c] 22)).drew :=
          ⟨(Fr2.of_below hb1).trans (Fr2.of_below hb2), cell_of_row _ _ 0 _ _ _ (heap_alloc_new wr _), cell_of_row _ _ 1 _ _ _ (heap_alloc_new wr _), Ls, H1.out.keep (by have := hb2.size; omega) (hb2.block _ hCl1) (fun _ => hb2.block _ hgl1), fun k hk => by
            unfold upd; rw [if_neg (by omega)]; exact (HR1.out k hk).1.below (hb2.mono (by omega))⟩
        have HP2 : Hid (P2 w C g N Bc wr.heap.size m sm l f 0 (wr.alloc (.cells #[.slice (some ⟨C, 0, none⟩) m 16, .slice sm.a sm.n sm.c] 22)).drew) := hP2
        clear hP2 hb2 c16 c17 c0
        generalize (wr.alloc (.cells #[.slice (some ⟨C, 0, none⟩) m 16, .slice sm.a sm.n sm.c] 22)).drew = W2 at *
        have hAC : wr.heap.size ≠ C := by omega
        have hAg : wr.heap.size ≠ g := by omega
        generalize wr.heap.size = Ar at *
        go_wp2
        go_loopg [72] 2 (fun gh s72 wx => ∃ j : Nat, j + gh = 2 ∧ s72 = .int .i64 j ∧ P2 w C g N Bc Ar m sm l f (idx N j) wx)
        case atStart => exact ⟨0, by omega, rfl, HP2.out⟩
        case round =>
          obtain ⟨j, hjg, rfl, hPw⟩ := hrel
          have HPw : Hid (P2 w C g N Bc Ar m sm l f (idx N j) wr) := hPw
          clear hPw HP2
          cases gk with
          | zero =>
            obtain rfl : j = 2 := by omega
            have HD : Hid (NxPost w C g N Bc sm Ls f (.returned (.tuple #[.int .i32 l, .bool true])) wr) := by
              have h := HPw.out
              rw [show idx N 2 = N by simp [idx], ← HLQ.out] at h
              have h' := h.done (by rw [HLQ.out]; omega) Ls
              rw [HLQ.out] at h'
              exact h'
            go_wp2
            go_ret2
            exact HD.out
          | succ gh =>
            have hj : j < 2 := by omega
            have hj1 : (j : Int) < 2 := by omega
            obtain ⟨_, a0, a1, Lx, hDx, _⟩ := HPw.out
            obtain ⟨⟨sa, sn, sc⟩, k0, hix, hsn, _⟩ := hDx.part hm a0 a1 hj
            dsimp only at k0 hix hsn
            have HK0 : Hid (wr.cell? ⟨Ar, j, none⟩ = some (.slice sa sn sc)) := k0
            have HIX : Hid (idx N j + sn = idx N (j + 1)) := hix
            have hbase : idx N j + sn ≤ N := by
              have : idx N (j + 1) ≤ N := by unfold idx; split <;> (try split) <;> omega
              omega
            clear hDx hix a0 a1
            generalize hbq : idx N j = base at *
            have HBQ : Hid (idx N j = base) := hbq
            clear hbq
            go_wp2
            go_loopg [78] sn (fun g2 s78 wx => ∃ i : Nat, i + g2 = sn ∧ s78 = .int .i64 i ∧ P2 w C g N Bc Ar m sm l f (base + i) wx)
            case atStart => exact ⟨0, by omega, rfl, HPw.out⟩
            case round =>
              obtain ⟨i, hig, rfl, hPx⟩ := hrel
              have HPx : Hid (P2 w C g N Bc Ar m sm l f (base + i) wr) := hPx
              clear hPx
              cases gk with
              | zero =>
                obtain rfl : i = sn := by omega
                go_wp2
                go_roundg gh
                case measure => omega
                case rel => exact ⟨j + 1, by omega, by go_num, by rw [← HIX.out]; exact HPx.out⟩
              | succ g2 =>
                have hi : i < sn := by omega
                have hi1 : (i : Int) < (sn : Int) := by omega
                obtain ⟨hF, a0, a1, Lx, hDx, hRx⟩ := HPx.out
                obtain ⟨⟨sa', sn', sc'⟩, k0', _, _, hPt⟩ := hDx.part hm a0 a1 hj
                dsimp only at k0'
                have ehd := P2.hdr HPx.out HPw.out hj
                rw [HK0.out, k0'] at ehd
                simp at ehd
                obtain ⟨rfl, rfl, rfl⟩ := ehd
                obtain ⟨b, hsa, hbc, kc, kf⟩ := hPt i hi
                obtain rfl : sa' = some ⟨b, 0, none⟩ := hsa
                rw [HBQ.out] at hbc kc
                have hRz := hRx (base + i) (by omega)
                rw [show upd l f (base + i) (base + i) = f (base + i) by unfold upd; rw [if_neg (Nat.lt_irrefl _)]] at hRz
                have HRx : Hid (∀ k, k < N → RdI Bc wr (Lx k) (upd l f (base + i) k)) := hRx
                have HDx : Hid (Dr wr C g N sm Lx) := hDx
                have HF2 : Hid (Fr2 C g w wr) := hF
                have A0 : Hid (wr.cell? ⟨Ar, 0, none⟩ = some (.slice (some ⟨C, 0, none⟩) m 16)) := a0
                have A1 : Hid (wr.cell? ⟨Ar, 1, none⟩ = some (.slice sm.a sm.n sm.c)) := a1
                have hput : ∀ Z' : Sl, RdI Bc wr Z' (drop1 l (f (base + i))) → P2 w C g N Bc Ar m sm l f (base + i + 1) (wr.setCell ⟨b, i, none⟩ (.slice Z'.a Z'.n Z'.c)) := fun Z' hZ' => P2.put HF2.out A0.out A1.out HDx.out HRx.out hAC hAg hB hbc (by omega) hZ'
                clear hPt hF a0 a1 k0' hDx hRx hbc
                generalize Lx (base + i) = Z at kc hRz
                obtain ⟨za, zn, zc⟩ := Z
                dsimp only at kc
                have hzl := hRz.1
                dsimp only at hzl
                cases e : f (base + i) with
                | nil =>
                  have HN : Hid (P2 w C g N Bc Ar m sm l f (base + i + 1) wr) := HPx.out.skip (by rw [e]; rfl)
                  rw [e] at hzl
                  simp at hzl
                  subst hzl
                  clear hput hRz e
                  go_wp2
                  go_roundg g2
                  case measure => omega
                  case rel => exact ⟨i + 1, by omega, by go_num, HN.out⟩
                | cons x r =>
                  rw [e] at hzl hRz
                  have hz0 : 0 < zn := by rw [hzl]; simp
                  have hz1 : (0 : Int) < (zn : Int) := by omega
                  obtain ⟨b', o', hza, hbB, hcc⟩ := hRz.2.2 hz0
                  obtain rfl : za = some ⟨b', o', none⟩ := hza
                  have k1 := hcc 0 x rfl
                  simp only [Nat.add_zero] at k1
                  by_cases hxl : x = l
                  · have hxl' : (x == l) = true := by simp [hxl]
                    have HZ : Hid (zn = r.length + 1 ∧ (∀ v ∈ r, -2147483648 ≤ v ∧ v ≤ 2147483647) ∧ ∀ k v, r[k]? = some v → wr.cell? ⟨b', o' + 1 + k, none⟩ = some (.int .i32 v)) := ⟨by rw [hzl]; rfl, fun v hv => hRz.2.1.2 v (by simp [hv]), fun k v hv => by have := hcc (k + 1) v (by simpa using hv); rwa [show o' + (k + 1) = o' + 1 + k by omega] at this⟩
                    have hE : drop1 l (f (base + i)) = r := by rw [e, hxl]; simp [drop1]
                    have HE : Hid (drop1 l (f (base + i)) = r) := hE
                    have HPut : Hid (∀ Z' : Sl, RdI Bc wr Z' (drop1 l (f (base + i))) → P2 w C g N Bc Ar m sm l f (base + i + 1) (wr.setCell ⟨b, i, none⟩ (.slice Z'.a Z'.n Z'.c))) := hput
                    have hzc : zn ≤ zc := hRz.2.1.1
                    clear hput hRz e hcc hzl hE
                    have hrd : ∀ ad : Addr, (0 < zn - 1 → ad = ⟨b', o' + 1, none⟩) → RdI Bc wr ⟨some ad, zn - 1, zc - 1⟩ (drop1 l (f (base + i))) := fun ad had => by
                      rw [HE.out]
                      refine ⟨by have := HZ.out.1; dsimp only; omega, ⟨by dsimp only; omega, HZ.out.2.1⟩, fun h0 => ⟨b', o' + 1, ?_, hbB, HZ.out.2.2⟩⟩
                      dsimp only at h0 ⊢
                      rw [had h0]
                    have HRD : Hid (∀ ad : Addr, (0 < zn - 1 → ad = ⟨b', o' + 1, none⟩) → RdI Bc wr ⟨some ad, zn - 1, zc - 1⟩ (drop1 l (f (base + i)))) := hrd
                    clear hrd
                    go_wp2
                    · have hz : zc = 1 := by assumption
                      go_roundg g2
                      case measure => omega
                      case rel => exact ⟨i + 1, by omega, by go_num, by
                        have := HPut.out ⟨some ⟨b', o', none⟩, zn - 1, zc - 1⟩ (HRD.out _ (fun h => absurd h (by omega)))
                        rw [hz] at this
                        exact this⟩
                    · go_roundg g2
                      case measure => omega
                      case rel => exact ⟨i + 1, by omega, by go_num, HPut.out ⟨some ⟨b', o' + 1, none⟩, zn - 1, zc - 1⟩ (HRD.out _ (fun _ => rfl))⟩
                  · have hxl' : (x == l) = false := by simp [hxl]
                    have HN : Hid (P2 w C g N Bc Ar m sm l f (base + i + 1) wr) := HPx.out.skip (by rw [e]; simp [drop1, hxl])
                    clear hput hRz e hcc hzl
                    go_wp2
                    go_roundg g2
                    case measure => omega
                    case rel => exact ⟨i + 1, by omega, by go_num, HN.out⟩
    | succ gh =>
      have hj : j < 2 := by omega
      have hj1 : (j : Int) < 2 := by omega
      obtain ⟨⟨sa, sn, sc⟩, k0, hix, hsn, hPt⟩ := HP0.out j hj
      dsimp only at k0 hix hsn
      have HPt : Hid (Part wr ⟨sa, sn, sc⟩ (idx N j) C g Ls) := hPt
      have HIX : Hid (idx N j + sn = idx N (j + 1)) := hix
      have hbase : idx N j + sn ≤ N := by
        have : idx N (j + 1) ≤ N := by unfold idx; split <;> (try split) <;> omega
        omega
      clear hPt hix
      generalize idx N j = base at *
      go_wp2
      go_loopg [4, 33] sn (fun g2 s4 s33 wx => ∃ i : Nat, i + g2 = sn ∧ s33 = .int .i64 i ∧ s4 = .int .i32 (least f (base + i)) ∧ wx = wr)
      case atStart => exact ⟨0, by omega, rfl, by simp, rfl⟩
      case round =>
        obtain ⟨i, hig, rfl, rfl, hwr⟩ := hrel
        subst hwr
        cases gk with
        | zero =>
          obtain rfl : i = sn := by omega
          go_wp2
          go_roundg gh
          case measure => omega
          case rel => exact ⟨j + 1, by omega, by go_num, by rw [← HIX.out], rfl⟩
        | succ g2 =>
          have hi : i < sn := by omega
          have hi1 : (i : Int) < (sn : Int) := by omega
          obtain ⟨b, hsa, _, kc, _⟩ := HPt.out i hi
          obtain rfl : sa = some ⟨b, 0, none⟩ := hsa
          obtain ⟨⟨hzl, _, hzc⟩, _⟩ := HR1.out (base + i) (by omega)
          have hst := least_step f (base + i)
          generalize Ls (base + i) = Z at *
          obtain ⟨za, zn, zc⟩ := Z
          dsimp only at kc hzl hzc
          cases e : f (base + i) with
          | nil =>
            have HE : Hid (least f (base + i + 1) = least f (base + i)) := hst.1 e
            rw [e] at hzl
            simp at hzl
            subst hzl
            clear hst hzc e
            generalize least f (base + i) = l at *
            go_wp2
            go_roundg g2
            case measure => omega
            case rel => exact ⟨i + 1, by omega, by go_num, by rw [← Nat.add_assoc, HE.out], rfl⟩
          | cons x r =>
            have HE : Hid (least f (base + i + 1) = if least f (base + i) < 0 ∨ x < least f (base + i) then x else least f (base + i)) := hst.2 x r e
            rw [e] at hzl hzc
            have hz0 : 0 < zn := by rw [hzl]; simp
            have hz1 : (0 : Int) < (zn : Int) := by omega
            obtain ⟨b', o', hza, _, hcc⟩ := hzc hz0
            obtain rfl : za = some ⟨b', o', none⟩ := hza
            have k1 := hcc 0 x rfl
            simp only [Nat.add_zero] at k1
            clear hst hzc hcc e hzl
            generalize least f (base + i) = l at *
            by_cases hl : l < 0
            · go_wp2
              go_roundg g2
              case measure => omega
              case rel => exact ⟨i + 1, by omega, by go_num, by rw [← Nat.add_assoc, HE.out, if_pos (.inl hl)], rfl⟩
            · by_cases hxl : x < l
              · go_wp2
                go_roundg g2
                case measure => omega
                case rel => exact ⟨i + 1, by omega, by go_num, by rw [← Nat.add_assoc, HE.out, if_pos (.inr hxl)], rfl⟩
              · go_wp2
                go_roundg g2
                case measure => omega
                case rel => exact ⟨i + 1, by omega, by go_num, by rw [← Nat.add_assoc, HE.out, if_neg (by omega)], rfl⟩
end Go.Proofs.Qxb6600159a
