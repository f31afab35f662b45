/- Two functions of the library's Builder, laid at this dump by hand: the kit's own command leaves two numbers open. -/
import Derived.Shelf.Strings.BuilderK
import Derived.Test.YtiklnckoimeimaaProg
import Derived.Test.YtiklnckoimeimaaShelf
namespace Go.Proofs
open Go.Shelf
def Try.lays240_ren : Go.Shelf.Ren := ⟨fun | 167 => 27 | 240 => 31 | 276 => 32 | n => n, fun | 0 => 0 | 4 => 4 | 5 => 5 | 9 => 9 | 20 => 20 | 37 => 39 | 70 => 45 | 72 => 47 | 75 => 49 | 164 => 54 | 80 => 52 | n => n, fun | n => n⟩
theorem Try.lays240 : Go.Proofs.Lays.n240 Try.prog Try.lays240_ren := {
  mixed := by kernel_rfl
  f240 := Try.func31.trans (congrArg some (by kernel_rfl))
  f276 := Try.func32.trans (congrArg some (by kernel_rfl))
  t0 := Try.underlying0
  a0 := Try.isAgg0
  z0 := Try.sizeOf0
  v0 := Try.zeroValue0
  t4 := Try.underlying4
  a4 := Try.isAgg4
  z4 := Try.sizeOf4
  v4 := Try.zeroValue4
  t9 := Try.underlying9
  a9 := Try.isAgg9
  z9 := Try.sizeOf9
  v9 := Try.zeroValue9
  t20 := Try.underlying20
  a20 := Try.isAgg20
  z20 := Try.sizeOf20
  v20 := Try.zeroValue20
  t70 := Try.underlying45
  a70 := Try.isAgg45
  z70 := Try.sizeOf45
  v70 := Try.zeroValue45
  t72 := Try.underlying47
  a72 := Try.isAgg47
  z72 := Try.sizeOf47
  v72 := Try.zeroValue47
  t164 := Try.underlying54
  a164 := Try.isAgg54
  z164 := Try.sizeOf54
  v164 := Try.zeroValue54 }
theorem Try.lays167 : Go.Proofs.Lays.n167 Try.prog Try.lays240_ren := {
  mixed := by kernel_rfl
  f167 := Try.func27.trans (congrArg some (by kernel_rfl))
  f240 := Try.func31.trans (congrArg some (by kernel_rfl))
  f276 := Try.func32.trans (congrArg some (by kernel_rfl))
  t0 := Try.underlying0
  a0 := Try.isAgg0
  z0 := Try.sizeOf0
  v0 := Try.zeroValue0
  t4 := Try.underlying4
  a4 := Try.isAgg4
  z4 := Try.sizeOf4
  v4 := Try.zeroValue4
  t5 := Try.underlying5
  a5 := Try.isAgg5
  z5 := Try.sizeOf5
  v5 := Try.zeroValue5
  t9 := Try.underlying9
  a9 := Try.isAgg9
  z9 := Try.sizeOf9
  v9 := Try.zeroValue9
  t20 := Try.underlying20
  a20 := Try.isAgg20
  z20 := Try.sizeOf20
  v20 := Try.zeroValue20
  t37 := Try.underlying39
  a37 := Try.isAgg39
  z37 := Try.sizeOf39
  v37 := Try.zeroValue39
  t70 := Try.underlying45
  a70 := Try.isAgg45
  z70 := Try.sizeOf45
  v70 := Try.zeroValue45
  t72 := Try.underlying47
  a72 := Try.isAgg47
  z72 := Try.sizeOf47
  v72 := Try.zeroValue47
  t75 := Try.underlying49
  a75 := Try.isAgg49
  z75 := Try.sizeOf49
  v75 := Try.zeroValue49
  t164 := Try.underlying54
  a164 := Try.isAgg54
  z164 := Try.sizeOf54
  v164 := Try.zeroValue54 }
theorem Try.Builder_Extra_167 : Builder.Extra Try.prog Try.lays240_ren := {
  sizeBuilder := by kernel_rfl
  liesBuilder := by kernel_rfl
  t5 := Try.underlying5
  a5 := Try.isAgg5
  z5 := Try.sizeOf5
  v5 := Try.zeroValue5
  infoByte := by kernel_rfl
  cellsByte := by kernel_rfl
  sizeByte := by kernel_rfl
  neB5 := by decide }
open Go.RowKit in
theorem Try.Builder_WriteByte_k (B b : Nat) (bs : List Value) (c : Int) (w : World) (h : Lib.IsBuilderF 47 5 B b bs w) (hlen : bs.length + 1 ≤ 140737488355328) (hBw : B ≤ w.heap.size) :
    Calls Try.prog 27 #[.pointer (some ⟨b, 0, none⟩), .int .u8 c] w fun e w' => e = .returned .nilIface ∧ (Lib.BuilderAtF 47 5 B b (.pointer (some ⟨b, 0, none⟩)) (bs ++ [.int .u8 c]) w' ∧ Below B w w' ∧ Lib.OthersKept 5 (some b) w w') := Any.Builder_WriteByte_k Try.lays167 Try.Builder_Extra_167 B b bs c w h hlen hBw
end Go.Proofs
