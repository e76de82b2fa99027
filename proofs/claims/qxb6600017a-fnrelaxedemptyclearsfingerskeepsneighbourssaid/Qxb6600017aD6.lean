/-
  THE WALKS: validFingers.
-/
import Derived.Test.Qxb6600017aD5
namespace Go.Proofs.Qxb6600017a
open Go.RowKit
set_option linter.unusedSimpArgs false

def isInt2 (cs : List Value) : Prop := ∃ p q : Int, cs = [.int .i64 p, .int .i64 q]
def isInt1 (cs : List Value) : Prop := ∃ p : Int, cs = [.int .i64 p]
/-- A slice whose elements can be read. -/
def RdE (p : List Value → Prop) (size L : Nat) (w : World) (s : Sl) : Prop := 0 < s.n → ∃ b o, s.a = some ⟨b, o, none⟩ ∧ L ≤ b ∧ Elems p w b o size s.n
/-- A side of a table. -/
def Fg (w : World) (a : Option Addr) (l : Nat) (dead : Bool) : Prop := 0 < l → ∃ b o, a = some ⟨b, o, none⟩ ∧ Elems (fun cs => isFinger cs ∧ (dead = true → cs = [.int .u64 0, .int .u64 0, .int .u64 0, .int .i32 0, .bool false])) w b o 5 l
theorem Fg.lt {w : World} {b o l : Nat} {dead : Bool} (hl : 0 < l) (he : Elems (fun cs => isFinger cs ∧ (dead = true → cs = [.int .u64 0, .int .u64 0, .int .u64 0, .int .i32 0, .bool false])) w b o 5 l) : b < w.heap.size := by
  obtain ⟨cs, h1, ⟨⟨x, v, rfl⟩, _⟩, h3⟩ := he 0 hl
  exact World.block_lt_of_cell? w _ (h3 0 (.int .u64 0) rfl)
theorem Fg.below {B : Nat} {w w' : World} (hb : Below B w w') (hB : w.heap.size ≤ B) {a : Option Addr} {l : Nat} {dead : Bool} (h : Fg w a l dead) : Fg w' a l dead := fun hl => by
  obtain ⟨b, o, e, he⟩ := h hl
  exact ⟨b, o, e, he.below hb (by have := Fg.lt hl he; omega)⟩

theorem info92 : (Try.prog.info? 92).map (fun i => (i.zero, i.size, i.bytes)) = some (some (.agg #[.int .i64 0, .int .i64 0]), 2, 16) := by kernel_rfl

theorem news_new {W : World} {C : Array Value} {e : TypeId} : ∀ (j : Nat) u, C.toList[j]? = some u → (W.alloc (.cells C e)).cell? ((⟨W.heap.size, 0, none⟩ : Addr).add j) = some u := fun j u h => by
  rw [Addr.add_mid, Nat.zero_add, cell_of_row _ _ _ C e (0, 0) (heap_alloc_new W _)]; simpa using h

def allInt (xs : List Value) : Prop := ∀ u ∈ xs, ∃ n : Int, u = .int .i64 n
theorem gath_ints {xs : List Value} (h : allInt xs) (a b : Int) : allInt (xs ++ [.int .i64 a, .int .i64 b]) := fun u hu => by
  simp at hu
  rcases hu with hu | rfl | rfl
  · exact h u hu
  · exact ⟨_, rfl⟩
  · exact ⟨_, rfl⟩
theorem gath_below {w wr w1 : World} {e size m : Nat} {v : Value} {xs : List Value} {o1 o2 : Obj} (hb : Below w.heap.size w wr) (hown : wr.ownsRow w.heap.size e size v m xs) (hg : ((wr.alloc o1).alloc o2).grownBy w1 v.ownBlock) : Below w.heap.size w w1 :=
  ((hb.alloc hb.size _).alloc (by have := hb.size; simp; omega) _).grown hg (by have := hb.size; simp; omega) (fun k hk => (hown.lt k hk).1)
/-- What the loop has gathered. -/
def Gath (w : World) (e size : Nat) (dead : Bool) (i : Nat) (v : Value) (wx : World) : Prop :=
  ∃ m xs, m ≤ i ∧ wx.ownsRow w.heap.size e size v m xs ∧ allInt xs ∧ Below w.heap.size w wx ∧ (dead = true → v = .slice none 0 0)

def VfPost (w : World) (l : Nat) (dead : Bool) (e : Ending) (w' : World) : Prop :=
  ∃ v, e = .returned v ∧ Gath w 92 2 dead l v w'

set_option maxHeartbeats 2000000 in
set_option maxRecDepth 100000 in
theorem valid_any (a : Option Addr) (l c : Nat) (dead : Bool) (w : World) (hl : l ≤ 1048576) (hF : Fg w a l dead) :
    Calls Try.prog 46 #[.slice a l c] w (VfPost w l dead) := by
  have HF : Hid _ := hF
  clear hF
  go_enter Try.func46, Try.ntmps46
  go_wp2
  go_loopg [3, 8] l (fun g s3 s8 wx => ∃ i : Nat, i + g = l ∧ s8 = .int .i64 i ∧ Gath w 92 2 dead i s3 wx)
  case atStart => exact ⟨0, by omega, rfl, 0, [], by omega, World.ownsRow_nil _ _ _ _, fun u h => absurd h (by simp), Below.refl _ _, fun _ => rfl⟩
  case round =>
    obtain ⟨i, hig, rfl, hG⟩ := hrel
    cases gk with
    | zero =>
      obtain rfl : l = i := by omega
      go_wp2
      go_ret
      exact ⟨_, rfl, hG⟩
    | succ g =>
      have hi : i < l := by omega
      have hi1 : (i : Int) < (l : Int) := by omega
      obtain ⟨m, xs, hm, hown, hxs, hb, hd⟩ := hG
      obtain ⟨b, o, rfl, he⟩ := HF.out (by omega)
      obtain ⟨cs, h1, ⟨⟨x, v, rfl⟩, hdd⟩, h3⟩ := he.below hb (Fg.lt (by omega) he) i hi
      have k0 := h3 0 _ rfl
      have k1 := h3 1 _ rfl
      have k2 := h3 2 _ rfl
      have k3 := h3 3 _ rfl
      have k4 := h3 4 _ rfl
      simp only [Nat.add_zero] at k0
      have HG : Hid (wr.ownsRow w.heap.size 92 2 u3 m xs) := hown
      clear hown he h3 h1
      cases v with
      | false =>
        go_wp2
        go_roundg g
        case measure => omega
        case rel => exact ⟨i + 1, by omega, by go_num, m, xs, by omega, World.ownsRow.alloc HG.out _, hxs, hb.alloc hb.size _, hd⟩
      | true =>
        have hdead : dead = true → False := fun h => by have := hdd h; simp at this
        have hsz := hb.size
        obtain ⟨y, hy⟩ : ∃ y, IntKind.i64.wrap x = y := ⟨_, rfl⟩
        obtain ⟨i0, hi0, hz0, hz1, hz2⟩ := info_parts info92
        have HI : Hid _ := hi0
        have HZ0 : Hid _ := hz0
        have HZ1 : Hid _ := hz1
        have HZ2 : Hid _ := hz2
        clear hi0 hz0 hz1 hz2 hdd hd
        go_wp2_with (at_builtin; refine wpList_append_own _ rfl (.tmp 15) (.tmp 22) 73 rfl w.heap.size 92 i0 (.agg #[.int .i64 0, .int .i64 0]) 2 16 Try.underlying73 HI.out HZ0.out HZ1.out HZ2.out rfl (by decide) _ m xs rfl ?_ ⟨wr.heap.size + 1, 0, none⟩ 1 1 [.int .i64 (i : Nat), .int .i64 y] rfl rfl ?_ ?_ (by unfold maxLen; omega) (by omega) ?_ ?_)
        · exact World.ownsRow.alloc (World.ownsRow.alloc HG.out _) _
        · have h := news_new (W := wr.alloc (.cells #[.int .u64 0, .int .u64 0, .int .u64 0, .int .i32 x, .bool true] 70)) (C := #[.int .i64 (i : Nat), .int .i64 y]) (e := 92)
          have e : (wr.alloc (.cells #[.int .u64 0, .int .u64 0, .int .u64 0, .int .i32 x, .bool true] 70)).heap.size = wr.heap.size + 1 := by simp
          rw [e] at h
          exact h
        · intro u hu
          simp at hu
          rcases hu with rfl | rfl <;> rfl
        · simp; omega
        · intro v' w1 hown' hgrow _
          have hb' : Below w.heap.size w w1 := gath_below hb HG.out hgrow
          have hx' : allInt (xs ++ [.int .i64 (i : Nat), .int .i64 y]) := gath_ints hxs _ _
          have HG' : Hid (w1.ownsRow w.heap.size 92 2 v' (m + 1) (xs ++ [.int .i64 (i : Nat), .int .i64 y])) := hown'
          clear hown' hgrow
          go_wp2
          go_roundg g
          case measure => omega
          case rel => exact ⟨i + 1, by omega, by go_num, m + 1, _, by omega, HG'.out, hx', hb', fun h => (hdead h).elim⟩
end Go.Proofs.Qxb6600017a
