/-
  THE ROW: 'Rows.FnVotesAddIsSaturatedPairSumSaid'.
-/
import Derived.Test.Qxb6600052aW5
import Derived.ProofKit
import Derived.OpenShut
import Derived.ShutString
import Derived.ChangeOld
namespace Go.Proofs.Qxb6600052a
open Go.ChangeShapes Go.WideShapes Go.ChangeAt Go.RowKit

theorem own : ownKnob Try.prog.godebug = none := by kernel_rfl
theorem laidOut : laidOutB Try.prog = true := by kernel_rfl
theorem cells22 : Try.prog.cellsOf 22 = 1 := by kernel_rfl
theorem cells23 : Try.prog.cellsOf 23 = 33 := by kernel_rfl

theorem okWide_arr {w : World} {r : Reach} {base : Nat} {v : Value} (h : Value.okWide Try.prog w r base 23 v) : ∃ cs, v = .agg cs ∧ cs.size = 33 := by
  simp only [Value.okWide, Try.underlying23] at h
  obtain ⟨cs, h1, h2, _⟩ := h
  exact ⟨cs, h1, h2.trans cells23⟩

def numAt (A : Array Value) (k : Nat) : Nat := match A[k]? with | some (.int _ n) => n.toNat | _ => 0

theorem open_tab {H : Type} {enc : TypeId × Value → H} {w : World} {base : Nat} {spare : Nat → Bool} {held : Bool} {A : Array Value} (hs : A.size = 33) {d : DataW H} {p : List MemPlace}
    (h : DataW.Trod enc Try.prog w base spare held 23 (.agg A) d p) : ∃ f, Tab A f ∧ ∀ a, 33 ≤ a → f a = 0 := by
  obtain ⟨fuel, hf⟩ := h
  obtain ⟨xs, m, _, hx, hl, hxl, hi⟩ := DataW.trod_array Try.underlying23 hf
  refine ⟨numAt A, ⟨hs, fun k hk => ?_⟩, fun a ha => ?_⟩
  · have h1 := hi k hk
    rw [cells22, Nat.mul_one] at h1
    have hk' : k < A.toList.length := by simpa [hs] using hk
    have e : ((Value.agg A).cells.toList.drop k).take 1 = [A[k]] := by
      show (A.toList.drop k).take 1 = _
      rw [List.drop_eq_getElem_cons hk']; simp
    rw [e, List.getElem?_eq_getElem (by omega)] at h1
    obtain ⟨n, e0, _, wn⟩ := DataW.trod_int Try.underlying22 h1
    simp at e0
    have h0 : 0 ≤ n := by simp [Lit.wf, IntKind.min, IntKind.max, IntKind.signed, IntKind.bits] at wn; omega
    have eA : A[k]? = some (.int .u64 n) := by rw [Array.getElem?_eq_getElem (by omega), e0]
    have en : ((numAt A k : Nat) : Int) = n := by unfold numAt; rw [eA]; simp [Int.toNat_of_nonneg h0]
    rw [eA, en]
  · unfold numAt
    rw [Array.getElem?_eq_none (by omega)]

theorem walk (A : Array Value) (f : Nat → Nat) (hT : Tab A f) (hz : ∀ a, 33 ≤ a → f a = 0) (s n : Int) (ws : (Lit.int .u8 s).wf = true) (w : World) :
    Calls Try.prog 3 #[.agg A, .int .u8 s, .int .i64 n] w (LawPost w) := by
  simp [Lit.wf, IntKind.min, IntKind.max, IntKind.signed, IntKind.bits] at ws
  obtain ⟨s, rfl⟩ := Int.eq_ofNat_of_zero_le ws.1
  by_cases h : n < 0 ∨ 32 < n
  · exact law_out A s n h w
  · obtain ⟨n, rfl⟩ := Int.eq_ofNat_of_zero_le (a := n) (by omega)
    exact law_in A f hT hz s n (by omega) (by omega) w

set_option maxRecDepth 100000 in
theorem lifted (os : Os) (started : os.Started) (H : Type) (enc : TypeId × Value → H) :
    ReturnsInHanded {} Try.checked os 3 .any (Rows.fnVotesAddIsSaturatedPairSumSpec.pre6 enc Try.prog Try.f3 Rows.fnVotesAddIsSaturatedPairSumRow.domain false) (Rows.fnVotesAddIsSaturatedPairSumSpec.post enc Try.prog Try.f3 false true false false) := by
  refine returnsInHanded_of_change (C := Try.checked) own started (by kernel_rfl) Try.func3
    (ChangeSpec.witness6 (enc := enc) (C := Try.checked) false ⟨#[], #[.agg (Array.replicate 33 (.int .u64 0)), .int .u8 0, .int .i64 0], []⟩ 8 (by kernel_rfl) (by kernel_rfl) (by kernel_rfl) (by kernel_rfl)) ?_
  intro W base args ds gs before hval0 hW hcnd _
  have hval : ∀ (j : Nat) t v, Try.f3.params[j]? = some t → args[j]? = some v → Value.okWide Try.prog W .any base t v := hval0
  have hW' := hW
  obtain ⟨p, q, hA0, hV, rfl, hfz, hnd⟩ := hW
  have hA : DataW.TrodAll enc Try.prog W 0 (fun _ => true) true Try.f3.params.toList args.toList ds p := hA0
  rw [Try.params3] at hA hval
  obtain ⟨v0, vs0, d0, ds0, p0, q0, hargs, rfl, rfl, h0, r0⟩ := trodAll_cons hA
  obtain ⟨v1, vs1, d1, ds1, p1, q1, rfl, rfl, rfl, h1, r1⟩ := trodAll_cons r0
  obtain ⟨v2, vs2, d2, ds2, p2, q2, rfl, rfl, rfl, h2, r2⟩ := trodAll_cons r1
  obtain ⟨rfl, rfl, rfl⟩ := trodAll_nil r2
  obtain rfl : args = #[v0, v1, v2] := by cases args; simp_all
  obtain ⟨rfl, rfl⟩ := trodVars_none hV
  obtain ⟨A, rfl, hs⟩ := okWide_arr (hval 0 23 v0 rfl rfl)
  have k0 := h0
  have lt0 : ∀ x ∈ p0, x.block < W.heap.size := by obtain ⟨m, hm⟩ := k0; exact DataW.trod_lt m _ _ _ hm
  obtain ⟨f, hT, hz⟩ := open_tab hs h0
  obtain ⟨a1, rfl, rfl, rfl, w1⟩ := open_int Try.underlying5 (hval 1 5 v1 rfl rfl) h1
  obtain ⟨a2, rfl, rfl, rfl, w2⟩ := open_int Try.underlying3 (hval 2 3 v2 rfl rfl) h2
  clear hA0 hval0
  refine (walk A f hT hz a1 a2 w1 W).mono fun e W' ⟨he, bel⟩ => ?_
  subst he
  exact ⟨_, rfl, _, _, _, [], _, [], hW', trodAll_mk1 (shut_bool Try.underlying4 _), (trodAll_cons_mk (Below.trod laidOut (by kernel_rfl) (of_decide_eq_true (by kernel_rfl)) k0 bel lt0) (trodAll_cons_mk (shut_int Try.underlying5 w1) (trodAll_cons_mk (shut_int Try.underlying3 w2) trodAll_mk0))), rfl, bel.frame _, fun h => by cases h⟩

theorem over : Rows.fnVotesAddIsSaturatedPairSumRow.holds Try.pinned (OpenSpec.ofChange Rows.fnVotesAddIsSaturatedPairSumSpec) :=
  OpenClaim.holds_of_wide 3 Try.f3 rfl rfl rfl rfl rfl rfl rfl ⟨rfl, rfl, rfl, rfl, rfl⟩ rfl rfl rfl rfl rfl (by kernel_rfl) Try.func3 (by kernel_rfl)
    (of_decide_eq_true (by kernel_rfl)) (by unfold Func.isWrapper; first | (rw [if_pos (by decide +kernel)]; kernel_rfl) | (rw [if_neg (by decide +kernel)]; exact ⟨rfl, rfl⟩))
    (fun os started H enc _ => lifted os started H enc)

theorem fnVotesAddIsSaturatedPairSum_holds : Rows.FnVotesAddIsSaturatedPairSumSaid := over
end Go.Proofs.Qxb6600052a
