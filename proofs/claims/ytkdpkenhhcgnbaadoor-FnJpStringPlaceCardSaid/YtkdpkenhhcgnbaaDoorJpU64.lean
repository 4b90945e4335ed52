/- The library's little-endian read of eight bytes (function 87), as a Lean function over the bytes. -/
import Derived.Test.YtkdpkenhhcgnbaaDoorShU64
import Derived.Test.YtkdpkenhhcgnbaaDoorWMore
set_option linter.unusedVariables false
namespace Go.Proofs.YtkdpkenhhcgnbaaDoor.PFnJpStringPlace
open Go Go.RowKit Go.Proofs.YtkdpkenhhcgnbaaDoorW.PrintWords

def binary_littleEndian_Uint64.f (a0 : Unit) (l1 : List Int) : Option Int := if 8 ≤ l1.length ∧ ∀ z ∈ l1.take 8, 0 ≤ z ∧ z ≤ 255 then some (Lib.leZ (l1.take 8)) else none
theorem binary_littleEndian_Uint64.calls (a0 : Unit) (A1 : Option Addr) (c1 : Nat) (l1 : List Int) (r : Int) (w : World) (hr1 : Kd.C (Kd.int .u8) w A1 l1.length l1) (hc1 : l1.length ≤ c1) (h : binary_littleEndian_Uint64.f a0 l1 = some r) :
    Calls Tryd.prog 87 #[.agg #[], .slice A1 l1.length c1] w fun e w' => e = .returned (.int .u64 r) ∧ Below w.heap.size w w' := by
  unfold binary_littleEndian_Uint64.f at h
  split at h
  · rename_i hs
    obtain rfl := Option.some.inj h
    obtain ⟨h8, hz⟩ := hs
    obtain ⟨-, -, hr⟩ := hr1
    obtain ⟨a, rfl, hc⟩ := hr (by omega)
    have hcell : ∀ i, i < (l1.take 8).length → w.cell? (a.add i) = some (.int .u8 ((l1.take 8).getD i 0)) := by
      intro i hi
      have hl : i < l1.length := by simp at hi; omega
      obtain ⟨c, hs, hR, hcl⟩ := hc i _ (List.getElem?_eq_getElem hl)
      have hR' : c = [.int .u8 l1[i]] := hR
      subst hR'
      have h0 := hcl 0 _ rfl
      have e : a.add i = a.add (i * (Kd.int .u8).sz + 0) := by
        rw [show (Kd.int .u8).sz = 1 from rfl]; simp
      rw [e, h0]
      have hi8 : i < 8 := by simp at hi; omega
      simp [List.getD, hl, hi8]
    have hw : ∀ z ∈ l1.take 8, (Lit.int .u8 z).wf = true := fun z hz' => by
      have h2 := hz z hz'
      have e1 : IntKind.u8.min = 0 := rfl
      have e2 : IntKind.u8.max = 255 := rfl
      simp [Lit.wf, e1, e2]
      exact h2
    have hcc := Tryd.binary_LE_Uint64_z a l1.length c1 (l1.take 8) w h8 (by simp; omega) hcell hw
    rw [List.take_take, Nat.min_self] at hcc
    exact hcc
  · cases h

end Go.Proofs.YtkdpkenhhcgnbaaDoor.PFnJpStringPlace
