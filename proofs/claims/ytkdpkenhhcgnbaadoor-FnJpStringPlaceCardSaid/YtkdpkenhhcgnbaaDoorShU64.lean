/- The library's contracts at this program (the kit's shelf, laid by its own tools). -/
import Derived.Shelf.Small.Utf8
import Derived.Ground.MnProg
import Derived.Shelf.Bin.LEUint64
import Derived.Shelf.Bin.ReadersZ
import Derived.Shelf.Unicode.DecodeSlow
import Derived.Test.YtkdpkenhhcgnbaaDoorProg
namespace Go.Proofs
open Go.Shelf
def Tryd.laysBin33_ren : Go.Shelf.Ren := ⟨fun | 33 => 87 | n => n, fun | 25 => 129 | 22 => 91 | 33 => 45 | 0 => 0 | 5 => 5 | 45 => 55 | n => n, fun | n => n⟩
theorem Tryd.laysBin33 : Go.Proofs.LaysBin.n33 Tryd.prog Tryd.laysBin33_ren := {
  mixed := by kernel_rfl
  f33 := Tryd.func87.trans (congrArg some (by kernel_rfl))
  t0 := Tryd.underlying0
  a0 := Tryd.isAgg0
  z0 := Tryd.sizeOf0
  v0 := Tryd.zeroValue0
  i0 := by kernel_rfl
  t5 := Tryd.underlying5
  a5 := Tryd.isAgg5
  z5 := Tryd.sizeOf5
  v5 := Tryd.zeroValue5
  i5 := by kernel_rfl
  t22 := Tryd.underlying91
  a22 := Tryd.isAgg91
  z22 := Tryd.sizeOf91
  v22 := Tryd.zeroValue91
  i22 := by kernel_rfl
  t25 := Tryd.underlying129
  a25 := Tryd.isAgg129
  z25 := Tryd.sizeOf129
  v25 := Tryd.zeroValue129
  i25 := by kernel_rfl
  t33 := Tryd.underlying45
  a33 := Tryd.isAgg45
  z33 := Tryd.sizeOf45
  v33 := Tryd.zeroValue45
  i33 := by kernel_rfl
  t45 := Tryd.underlying55
  a45 := Tryd.isAgg55
  z45 := Tryd.sizeOf55
  v45 := Tryd.zeroValue55
  i45 := by kernel_rfl }
open Go.RowKit in
theorem Tryd.binary_LE_Uint64_z (a : Addr) (n c : Nat) (zs : List Int) (w : World) (hn : 8 ≤ n) (hl : 8 ≤ zs.length) (hcell : ∀ i, i < zs.length → w.cell? (a.add i) = some (.int .u8 (zs.getD i 0))) (hw : ∀ z ∈ zs, (Lit.int .u8 z).wf = true) :
    Calls Tryd.prog 87 #[.agg #[], .slice (some a) n c] w fun e w' => e = .returned (.int .u64 (Lib.leZ (zs.take 8))) ∧ Below w.heap.size w w' := Any.binary_LE_Uint64_z Tryd.laysBin33 a n c zs w hn hl hcell hw
end Go.Proofs
