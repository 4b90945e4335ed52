/- fastjson's check of an object is the check of its members, one after the other, with blanks, colons and commas between, no control character in a name; of every text of at most 4000 bytes in which no control character is followed by a backslash without a quotation mark between the two. No condition beyond the statement's own guards. -/
import Derived.Test.YtfmllmlloekojaaDoorCmMem
set_option linter.unusedVariables false
namespace Go.Proofs.YtfmllmlloekojaaDoor.Pure
open Go.RowKit Go.Proofs.YtfmllmlloekojaaDoor.PFnFjCheckMembers Go.Proofs.YtfmllmlloekojaaDoorW.PrintWords Go.Proofs.YtfmllmlloekojaaDoorW.PrintLast Go.Proofs.YtfmllmlloekojaaDoor.EvL Go.Proofs.YtfmllmlloekojaaDoor.StrL Go.Proofs.YtfmllmlloekojaaDoor.PFnFjCheckMembers.Fj

theorem FnFjCheckMembers : laws_FnFjCheckMembers.Pure := by
  intro s _
  apply EvP.told
  unfold laws_FnFjCheckMembers.f
  refine EvP.ite (fun _ => EvP.ret _ rfl) (fun h1 => ?_)
  have jt : EvP (fun k => laws_FnFjCheckMembers.j0 k s true) (fun r => r = true) := EvP.succ (by simp only [laws_FnFjCheckMembers.j0]; exact EvP.pos trivial (EvP.ret _ rfl))
  refine EvP.ite (fun _ => jt) (fun h2 => EvP.bind (steady_f s (by omega)) (fun b hb => ?_))
  subst hb
  cases hst : stdy false (ints s) with
  | false => exact jt
  | true =>
    refine EvP.succ ?_
    simp only [laws_FnFjCheckMembers.j0]
    obtain ⟨r, her, hr⟩ := mem_f s (by omega) hst
    obtain ⟨k1, y, h1y⟩ := one
    have hone : Ev (fun k => impl_FjCheckObject.f k (⟨#[34, 97, 34, 58, 49, 44, 34, 98, 34, 58, 50, 125]⟩ : ByteArray)) (y, true) := Ev.of (impl_FjCheckObject.mono _) h1y
    refine EvP.neg (by simp) (EvP.bind hr (fun o ho => EvP.sub_ev (cobj her) (EvP.sub_ev hone (EvP.pos rfl ?_))))
    obtain ⟨ho1, ho2⟩ := ho
    cases hn : r.2.isNone with
    | false =>
      rw [hn] at ho1
      have hq : (if false = true then (r.1, true) else ((⟨#[]⟩ : ByteArray), false)) = (⟨#[]⟩, false) := rfl
      rw [hq, ho1]
      exact EvP.pos rfl (EvP.neg (by simp) (EvP.ret _ rfl))
    | true =>
      rw [hn] at ho1
      have hq : (if true = true then (r.1, true) else ((⟨#[]⟩ : ByteArray), false)) = (r.1, true) := rfl
      rw [hq, ho1]
      refine EvP.pos rfl (EvP.pos rfl (EvP.ret _ ?_))
      rw [ho2 hn]
      exact beq_toList_self _

end Go.Proofs.YtfmllmlloekojaaDoor.Pure
