-- Written for this claim by this session's own program (wip/xprint).
import Derived.Test.YtkhgbacbnkgafaaGreatDoorProg
import Derived.Below
import Derived.Deep.Draws
import Derived.Deep.AppendLies
import Derived.Maps.AppendAt
import Derived.OwnWalk
import Derived.Laws.BytesArg
import Derived.Laws.MakeOwn
import Derived.Laws.OwnMore
import Derived.Deep.OwnRows
import Derived.Tactics
import Derived.Lib.ConvBytes
import Derived.Laws.Slices
import Derived.WalkKit
import Derived.KernelRfl
import Derived.RowKit3
import Derived.Deep.LoopGhost
import Derived.Deep.QuietTactic
import Derived.BigQuiet
import Derived.WideLaws
import Derived.Deep.DeepCutAuto
import Derived.Deep.CutBlock
import Derived.Deep.RegionHeld3
import Derived.Laws.Rows
import Derived.Lib.AppendStr
import Derived.ArgAppend
import Derived.Laws.IdiomCopy
import Derived.OrdersHeld
import Derived.Laws.BitsLemmas
import Derived.RowKit
import Derived.Test.YtkhgbacbnkgafaaGreatDoorXLaidFnGjMatchesLike
import Derived.Test.YtkhgbacbnkgafaaGreatDoorUtf8L
import Derived.Test.YtkhgbacbnkgafaaGreatDoorXWords
import Derived.Test.YtkhgbacbnkgafaaGreatDoorWWords
import Derived.Test.YtkhgbacbnkgafaaGreatDoorWLast
import Derived.Test.YtkhgbacbnkgafaaGreatDoorWTab
import Derived.Test.YtkhgbacbnkgafaaGreatDoorWFour
import Derived.Test.YtkhgbacbnkgafaaGreatDoorWQPut
import Derived.Test.YtkhgbacbnkgafaaGreatDoorWApart
import Derived.Test.YtkhgbacbnkgafaaGreatDoorWArr
import Derived.Test.YtkhgbacbnkgafaaGreatDoorWZeros
import Derived.Test.YtkhgbacbnkgafaaGreatDoorWFoot
import Derived.Test.YtkhgbacbnkgafaaGreatDoorWKept
import Derived.Test.YtkhgbacbnkgafaaGreatDoorWShare
import Derived.Test.YtkhgbacbnkgafaaGreatDoorWN
import Derived.Test.YtkhgbacbnkgafaaGreatDoorWFootNe
import Derived.Test.YtkhgbacbnkgafaaGreatDoorWAt
import Derived.Test.YtkhgbacbnkgafaaGreatDoorWEqStruct
import Derived.Test.YtkhgbacbnkgafaaGreatDoorWRepsOne
import Derived.Test.YtkhgbacbnkgafaaGreatDoorWInv
import Derived.Test.YtkhgbacbnkgafaaGreatDoorWInvWords
import Derived.Test.YtkhgbacbnkgafaaGreatDoorWGuard
import Derived.Test.YtkhgbacbnkgafaaGreatDoorWNEv
import Derived.Test.YtkhgbacbnkgafaaGreatDoorWMore
namespace Go.Proofs.YtkhgbacbnkgafaaGreatDoor.PFnGjMatchesLike
open Go.RowKit Go.Proofs.YtkhgbacbnkgafaaGreatDoorW.PrintWords Go.Proofs.YtkhgbacbnkgafaaGreatDoorW.PrintLast Go.Proofs.YtkhgbacbnkgafaaGreatDoorW.PrintMore
attribute [local go_sem] run_store_float max2_int min2_int max_two min_two max_three min_three max_four min_four   -- for this text's walks alone
set_option linter.unusedVariables false
set_option linter.unusedSimpArgs false



def errW : Option Int → Value
  | none => .nilIface
  | some c => .iface 72 (.int .i64 c)
theorem errW_none : errW none = .nilIface := rfl
theorem errW_some (c : Int) : errW (some c) = .iface 72 (.int .i64 c) := rfl

theorem info3 : (Tryz.prog.info? 3).map (fun i => (i.zero, i.size, i.bytes)) = some (some (.int .i64 0), 1, 8) := by kernel_rfl
theorem info4 : (Tryz.prog.info? 4).map (fun i => (i.zero, i.size, i.bytes)) = some (some (.bool false), 1, 1) := by kernel_rfl
theorem info5 : (Tryz.prog.info? 5).map (fun i => (i.zero, i.size, i.bytes)) = some (some (.int .u8 0), 1, 1) := by kernel_rfl
theorem info56 : (Tryz.prog.info? 56).map (fun i => (i.zero, i.size, i.bytes)) = some (some (.agg #[(.bool false), (.bool false), (.int .i64 0)]), 3, 16) := by kernel_rfl
-- the values' own types
/-! #### struct type 56 -/
structure S56 where
  f0 : Bool
  f1 : Bool
  f2 : Int
def z56 : S56 := ⟨false, false, (0 : Int)⟩
def k56 : Kd S56 := Kd.iso (Kd.pair Kd.bool (Kd.pair Kd.bool (Kd.int .i64))) (fun x : S56 => (x.f0, x.f1, x.f2))
theorem k56_open {w : World} {x : S56} {cs : List Value} (h : k56.K w x cs) : cs = [.bool x.f0, .bool x.f1, .int .i64 x.f2] := by
  obtain ⟨_, _, rfl, rfl, ⟨_, _, rfl, rfl, rfl⟩⟩ := h
  exact rfl
theorem k56_openM {w : World} {base : Nat} {ok : Nat → Prop} {x : S56} {cs : List Value} (h : k56.M w base ok x cs) : cs = [.bool x.f0, .bool x.f1, .int .i64 x.f2] := by
  obtain ⟨_, _, rfl, rfl, ⟨_, _, rfl, rfl, rfl⟩⟩ := h
  exact rfl
theorem k56_mk (w : World) (x : S56)  : k56.K w x [.bool x.f0, .bool x.f1, .int .i64 x.f2] := ⟨[.bool x.f0], [.bool x.f1, .int .i64 x.f2], rfl, rfl, ⟨[.bool x.f1], [.int .i64 x.f2], rfl, rfl, rfl⟩⟩
theorem k56_mkM (w : World) (base : Nat) (ok : Nat → Prop) (x : S56)  : k56.M w base ok x [.bool x.f0, .bool x.f1, .int .i64 x.f2] := ⟨[.bool x.f0], [.bool x.f1, .int .i64 x.f2], rfl, rfl, ⟨[.bool x.f1], [.int .i64 x.f2], rfl, rfl, rfl⟩⟩
def rd_T56 (xs : List S56) (i : Int) : S56 := xs.getD i.toNat z56
theorem at_T56 {w : World} {A : Option Addr} {n : Nat} {xs : List S56} (h : Kd.C k56 w A n xs) (i : Int) (h0 : 0 ≤ i) (h1 : i < n) : ∃ ad , A = some ad ∧ w.cell? (ad.add (i.toNat * 3)) = some (.bool (rd_T56 xs i).f0) ∧ w.cell? ⟨(ad.add (i.toNat * 3)).block, (ad.add (i.toNat * 3)).off + 1, none⟩ = some (.bool (rd_T56 xs i).f1) ∧ w.cell? ⟨(ad.add (i.toNat * 3)).block, (ad.add (i.toNat * 3)).off + 2, none⟩ = some (.int .i64 (rd_T56 xs i).f2) := by
  obtain ⟨ad, c, e, _, hK, hc0⟩ := Kd.C_get h z56 i h0 h1
  have hc : ∀ j u, c[j]? = some u → w.cell? (ad.add (i.toNat * 3 + j)) = some u := hc0
  obtain rfl := k56_open hK
  exact ⟨ad, e, hc 0 _ rfl, by rw [← add_field _ _ 1 (by omega)]; exact hc 1 _ rfl, by rw [← add_field _ _ 2 (by omega)]; exact hc 2 _ rfl⟩

end Go.Proofs.YtkhgbacbnkgafaaGreatDoor.PFnGjMatchesLike
