/-
  (*strings.Builder).WriteByte and String AT THIS DUMP: the shelf's contracts, laid in plain words. The laying of String was written by the shelf's own tools; that of WriteByte by hand (the tool stops: no body of the closure names the type 'interface {}').
-/
import Derived.Shelf.Strings.Builder1
import Derived.Test.Qxb6600410aProg
namespace Go.Proofs
open Go.Shelf
def Try.lays167_ren : Go.Shelf.Ren := ⟨fun | 167 => 17 | 240 => 20 | 276 => 22 | n => n, fun | 37 => 41 | 70 => 40 | 72 => 43 | 75 => 45 | 80 => 23 | 164 => 53 | n => n, fun | n => n⟩
theorem Try.lays167 : Go.Proofs.Lays.n167 Try.prog Try.lays167_ren := {
  mixed := by kernel_rfl
  f167 := Try.func17.trans (congrArg some (by kernel_rfl))
  f240 := Try.func20.trans (congrArg some (by kernel_rfl))
  f276 := Try.func22.trans (congrArg some (by kernel_rfl))
  t0 := Try.underlying0
  a0 := Try.isAgg0
  z0 := Try.sizeOf0
  v0 := Try.zeroValue0
  t4 := Try.underlying4
  a4 := Try.isAgg4
  z4 := Try.sizeOf4
  v4 := Try.zeroValue4
  t5 := Try.underlying5
  a5 := Try.isAgg5
  z5 := Try.sizeOf5
  v5 := Try.zeroValue5
  t9 := Try.underlying9
  a9 := Try.isAgg9
  z9 := Try.sizeOf9
  v9 := Try.zeroValue9
  t20 := Try.underlying20
  a20 := Try.isAgg20
  z20 := Try.sizeOf20
  v20 := Try.zeroValue20
  t37 := Try.underlying41
  a37 := Try.isAgg41
  z37 := Try.sizeOf41
  v37 := Try.zeroValue41
  t70 := Try.underlying40
  a70 := Try.isAgg40
  z70 := Try.sizeOf40
  v70 := Try.zeroValue40
  t72 := Try.underlying43
  a72 := Try.isAgg43
  z72 := Try.sizeOf43
  v72 := Try.zeroValue43
  t75 := Try.underlying45
  a75 := Try.isAgg45
  z75 := Try.sizeOf45
  v75 := Try.zeroValue45
  t164 := Try.underlying53
  a164 := Try.isAgg53
  z164 := Try.sizeOf53
  v164 := Try.zeroValue53 }
theorem Try.Builder_Extra_167 : Builder.Extra Try.prog Try.lays167_ren := {
  sizeBuilder := by kernel_rfl
  liesBuilder := by kernel_rfl
  t5 := Try.underlying5
  a5 := Try.isAgg5
  z5 := Try.sizeOf5
  v5 := Try.zeroValue5
  infoByte := by kernel_rfl
  cellsByte := by kernel_rfl
  sizeByte := by kernel_rfl
  neB5 := by decide }
open Go.RowKit in
theorem Try.Builder_WriteByte (B b : Nat) (bs : List Value) (c : Int) (w : World) (h : Lib.IsBuilder 43 5 B b bs w) (hlen : bs.length + 1 ≤ 140737488355328) (hBw : B ≤ w.heap.size) :
    Calls Try.prog 17 #[.pointer (some ⟨b, 0, none⟩), .int .u8 c] w fun e w' => e = .returned .nilIface ∧ (Lib.BuilderAt 43 5 B b (.pointer (some ⟨b, 0, none⟩)) (bs ++ [.int .u8 c]) w' ∧ Below B w w') := Any.Builder_WriteByte Try.lays167 Try.Builder_Extra_167 B b bs c w h hlen hBw
def Try.lays169_ren : Go.Shelf.Ren := ⟨fun | 169 => 18 | n => n, fun | 70 => 40 | 9 => 9 | 0 => 0 | 72 => 43 | 37 => 41 | 127 => 52 | 3 => 3 | 5 => 5 | n => n, fun | n => n⟩
theorem Try.lays169 : Go.Proofs.Lays.n169 Try.prog Try.lays169_ren := {
  mixed := by kernel_rfl
  f169 := Try.func18.trans (congrArg some (by kernel_rfl))
  t0 := Try.underlying0
  a0 := Try.isAgg0
  z0 := Try.sizeOf0
  v0 := Try.zeroValue0
  t3 := Try.underlying3
  a3 := Try.isAgg3
  z3 := Try.sizeOf3
  v3 := Try.zeroValue3
  t9 := Try.underlying9
  a9 := Try.isAgg9
  z9 := Try.sizeOf9
  v9 := Try.zeroValue9
  t37 := Try.underlying41
  a37 := Try.isAgg41
  z37 := Try.sizeOf41
  v37 := Try.zeroValue41
  t70 := Try.underlying40
  a70 := Try.isAgg40
  z70 := Try.sizeOf40
  v70 := Try.zeroValue40
  t72 := Try.underlying43
  a72 := Try.isAgg43
  z72 := Try.sizeOf43
  v72 := Try.zeroValue43
  t127 := Try.underlying52
  a127 := Try.isAgg52
  z127 := Try.sizeOf52
  v127 := Try.zeroValue52 }
theorem Try.Builder_Extra_169 : Builder.Extra Try.prog Try.lays169_ren := {
  sizeBuilder := by kernel_rfl
  liesBuilder := by kernel_rfl
  t5 := Try.underlying5
  a5 := Try.isAgg5
  z5 := Try.sizeOf5
  v5 := Try.zeroValue5
  infoByte := by kernel_rfl
  cellsByte := by kernel_rfl
  sizeByte := by kernel_rfl
  neB5 := by decide }
open Go.RowKit in
/-- (*strings.Builder).String: "String returns the accumulated string.": WHATEVER THE BUILDER HOLDS. (LAID: no walk: one application.) -/
theorem Try.Builder_String_any (B b : Nat) (l : List UInt8) (w : World) (h : Lib.IsBuilder 43 5 B b (Lib.byteCells l) w) (hBw : B ≤ w.heap.size) :
    Calls Try.prog 18 #[.pointer (some ⟨b, 0, none⟩)] w fun e w' => e = .returned (.string ⟨l.toArray⟩) ∧ Below B w w' := Any.Builder_String_any Try.lays169 Try.Builder_Extra_169 B b l w h hBw
end Go.Proofs
