/- unicode/utf8.EncodeRune's contract at this program (the kit's shelf). -/
import Derived.Shelf.Spec.EncodeRune
import Derived.Test.YtfmllmlloekojaaDoorProg
namespace Go.Proofs
open Go.Shelf
def Tryd.laysR_ren : Go.Shelf.Ren := ⟨fun | 30 => 129 | 47 => 135 | n => n, fun | 0 => 0 | 3 => 3 | 4 => 4 | 5 => 5 | 21 => 21 | 25 => 53 | 27 => 153 | 30 => 22 | n => n, fun | n => n⟩
theorem Tryd.laysR : Go.Proofs.Lays7.n30 Tryd.prog Tryd.laysR_ren := {
  mixed := by kernel_rfl
  f30 := Tryd.func129.trans (congrArg some (by kernel_rfl))
  f47 := Tryd.func135.trans (congrArg some (by kernel_rfl))
  t0 := Tryd.underlying0
  a0 := Tryd.isAgg0
  z0 := Tryd.sizeOf0
  v0 := Tryd.zeroValue0
  i0 := by kernel_rfl
  t3 := Tryd.underlying3
  a3 := Tryd.isAgg3
  z3 := Tryd.sizeOf3
  v3 := Tryd.zeroValue3
  i3 := by kernel_rfl
  t4 := Tryd.underlying4
  a4 := Tryd.isAgg4
  z4 := Tryd.sizeOf4
  v4 := Tryd.zeroValue4
  i4 := by kernel_rfl
  t5 := Tryd.underlying5
  a5 := Tryd.isAgg5
  z5 := Tryd.sizeOf5
  v5 := Tryd.zeroValue5
  i5 := by kernel_rfl
  t21 := Tryd.underlying21
  a21 := Tryd.isAgg21
  z21 := Tryd.sizeOf21
  v21 := Tryd.zeroValue21
  i21 := by kernel_rfl
  t25 := Tryd.underlying53
  a25 := Tryd.isAgg53
  z25 := Tryd.sizeOf53
  v25 := Tryd.zeroValue53
  i25 := by kernel_rfl
  t27 := Tryd.underlying153
  a27 := Tryd.isAgg153
  z27 := Tryd.sizeOf153
  v27 := Tryd.zeroValue153
  i27 := by kernel_rfl
  t30 := Tryd.underlying22
  a30 := Tryd.isAgg22
  z30 := Tryd.sizeOf22
  v30 := Tryd.zeroValue22
  i30 := by kernel_rfl }
open Go.RowKit in
theorem Tryd.utf8_EncodeRune (b off len cap : Nat) (r : Int) (hlo : -2147483648 ≤ r) (hhi : r ≤ 2147483647) (w : World) (hl : (Lib.runeCells r).length ≤ len)
    (hc : ∀ j, j < (Lib.runeCells r).length → (w.cell? ⟨b, off + j, none⟩).isSome = true) (hf : ∀ j, j < (Lib.runeCells r).length → w.frozen? ⟨b, off + j, none⟩ = false) :
    Calls Tryd.prog 129 #[.slice (some ⟨b, off, none⟩) len cap, .int .i32 r] w fun e w' => e = .returned (.int .i64 (Lib.runeCells r).length) ∧ w' = w.setCells b off (Lib.runeCells r) := Any7.utf8_EncodeRune Tryd.laysR b off len cap r hlo hhi w hl hc hf
end Go.Proofs
