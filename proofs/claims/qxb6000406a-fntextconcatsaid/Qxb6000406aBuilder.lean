/-
  strings.Builder at this program: WriteString and String off the shelf's contracts, laid in plain words (the one command lays String; WriteString's closure names two types that no body names, so that the command passes it over: laid here by hand).
-/
import Derived.Test.Qxb6000406aRows
import Derived.Shelf.Strings.BuilderK
import Derived.WalkKit
import Derived.WalkSpells
import Derived.WalkLawsBesides
namespace Go.Proofs.Qxb6000406a
open Go.Shelf Go.RowKit
def lays169_ren : Go.Shelf.Ren := ⟨fun | 169 => 30 | n => n, fun | 70 => 54 | 9 => 9 | 0 => 0 | 72 => 56 | 37 => 46 | 127 => 63 | 3 => 3 | 5 => 5 | n => n, fun | n => n⟩
theorem lays169 : Go.Proofs.Lays.n169 Try.prog lays169_ren := {
  mixed := by kernel_rfl
  f169 := Try.func30.trans (congrArg some (by kernel_rfl))
  t0 := Try.underlying0
  a0 := Try.isAgg0
  z0 := Try.sizeOf0
  v0 := Try.zeroValue0
  t3 := Try.underlying3
  a3 := Try.isAgg3
  z3 := Try.sizeOf3
  v3 := Try.zeroValue3
  t9 := Try.underlying9
  a9 := Try.isAgg9
  z9 := Try.sizeOf9
  v9 := Try.zeroValue9
  t37 := Try.underlying46
  a37 := Try.isAgg46
  z37 := Try.sizeOf46
  v37 := Try.zeroValue46
  t70 := Try.underlying54
  a70 := Try.isAgg54
  z70 := Try.sizeOf54
  v70 := Try.zeroValue54
  t72 := Try.underlying56
  a72 := Try.isAgg56
  z72 := Try.sizeOf56
  v72 := Try.zeroValue56
  t127 := Try.underlying63
  a127 := Try.isAgg63
  z127 := Try.sizeOf63
  v127 := Try.zeroValue63 }
theorem extra169 : Builder.Extra Try.prog lays169_ren := {
  sizeBuilder := by kernel_rfl
  liesBuilder := by kernel_rfl
  t5 := Try.underlying5
  a5 := Try.isAgg5
  z5 := Try.sizeOf5
  v5 := Try.zeroValue5
  infoByte := by kernel_rfl
  cellsByte := by kernel_rfl
  sizeByte := by kernel_rfl
  neB5 := by decide }

def lays166_ren : Go.Shelf.Ren := ⟨fun | 166 => 29 | 240 => 32 | 276 => 34 | n => n, fun | 0 => 0 | 3 => 3 | 4 => 4 | 5 => 5 | 9 => 9 | 20 => 20 | 37 => 46 | 70 => 54 | 72 => 56 | 75 => 58 | 80 => 61 | 164 => 65 | n => n, fun | n => n⟩
theorem lays166 : Go.Proofs.Lays.n166 Try.prog lays166_ren := {
  mixed := by kernel_rfl
  f166 := Try.func29.trans (congrArg some (by kernel_rfl))
  f240 := Try.func32.trans (congrArg some (by kernel_rfl))
  f276 := Try.func34.trans (congrArg some (by kernel_rfl))
  t0 := Try.underlying0
  a0 := Try.isAgg0
  z0 := Try.sizeOf0
  v0 := Try.zeroValue0
  t3 := Try.underlying3
  a3 := Try.isAgg3
  z3 := Try.sizeOf3
  v3 := Try.zeroValue3
  t4 := Try.underlying4
  a4 := Try.isAgg4
  z4 := Try.sizeOf4
  v4 := Try.zeroValue4
  t9 := Try.underlying9
  a9 := Try.isAgg9
  z9 := Try.sizeOf9
  v9 := Try.zeroValue9
  t20 := Try.underlying20
  a20 := Try.isAgg20
  z20 := Try.sizeOf20
  v20 := Try.zeroValue20
  t37 := Try.underlying46
  a37 := Try.isAgg46
  z37 := Try.sizeOf46
  v37 := Try.zeroValue46
  t70 := Try.underlying54
  a70 := Try.isAgg54
  z70 := Try.sizeOf54
  v70 := Try.zeroValue54
  t72 := Try.underlying56
  a72 := Try.isAgg56
  z72 := Try.sizeOf56
  v72 := Try.zeroValue56
  t75 := Try.underlying58
  a75 := Try.isAgg58
  z75 := Try.sizeOf58
  v75 := Try.zeroValue58
  t164 := Try.underlying65
  a164 := Try.isAgg65
  z164 := Try.sizeOf65
  v164 := Try.zeroValue65 }
theorem extra166 : Builder.Extra Try.prog lays166_ren := {
  sizeBuilder := by kernel_rfl
  liesBuilder := by kernel_rfl
  t5 := Try.underlying5
  a5 := Try.isAgg5
  z5 := Try.sizeOf5
  v5 := Try.zeroValue5
  infoByte := by kernel_rfl
  cellsByte := by kernel_rfl
  sizeByte := by kernel_rfl
  neB5 := by decide }

/-- String, whatever the builder holds. -/
theorem builder_String (B b : Nat) (l : List UInt8) (w : World) (h : Lib.IsBuilderF 56 5 B b (Lib.byteCells l) w) (hBw : B ≤ w.heap.size) :
    Calls Try.prog 30 #[.pointer (some ⟨b, 0, none⟩)] w fun e w' => e = .returned (.string ⟨l.toArray⟩) ∧ (Lib.IsBuilderF 56 5 B b (Lib.byteCells l) w' ∧ Below B w w' ∧ Lib.OthersKept 5 (some b) w w') :=
  Any.Builder_String_any_k lays169 extra169 B b l w h hBw

/-- WriteString. -/
theorem writeString_k (B b : Nat) (bs : List Value) (s : ByteArray) (w : World) (h : Lib.IsBuilderF 56 5 B b bs w) (hlen : bs.length + s.size ≤ 140737488355328) (hBw : B ≤ w.heap.size) :
    Calls Try.prog 29 #[.pointer (some ⟨b, 0, none⟩), .string s] w fun e w' => e = .returned (.tuple #[.int .i64 s.size, .nilIface]) ∧ (Lib.BuilderAtF 56 5 B b (.pointer (some ⟨b, 0, none⟩)) (bs ++ Lib.strCells s) w' ∧ Below B w w' ∧ Lib.OthersKept 5 (some b) w w') :=
  Any.Builder_WriteString_k lays166 extra166 B b bs s w h hlen hBw
end Go.Proofs.Qxb6000406a
