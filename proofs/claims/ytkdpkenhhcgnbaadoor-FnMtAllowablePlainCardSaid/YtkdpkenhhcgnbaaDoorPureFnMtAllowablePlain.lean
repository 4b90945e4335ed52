/- For a pattern without '*', '?' and backslashes, in UTF-8, Allowable gives the pattern itself as the least and as the greatest. No condition beyond the statement's own guards. -/
import Derived.Test.YtkdpkenhhcgnbaaDoorAllowCh
set_option linter.unusedVariables false
namespace Go.Proofs.YtkdpkenhhcgnbaaDoor.Pure
open Go.RowKit Go.Proofs.YtkdpkenhhcgnbaaDoor.PFnMtAllowablePlain Go.Proofs.YtkdpkenhhcgnbaaDoorW.PrintWords Go.Proofs.YtkdpkenhhcgnbaaDoorW.PrintLast Go.Proofs.YtkdpkenhhcgnbaaDoor.EvL Go.Proofs.YtkdpkenhhcgnbaaDoor.StrL Go.Proofs.YtkdpkenhhcgnbaaDoor.PFnMtAllowablePlain.ChA

namespace Allow

theorem l0_any (s : ByteArray) (hn : s.size ≤ 2147483647) (hno : ∀ i, 0 ≤ i → i < (s.size : Int) → bt s i ≠ 42 ∧ bt s i ≠ 63) : ∀ (l : List Int) (i : Int) (acc : List Int), 0 ≤ i → i ≤ s.size → (ints s).drop i.toNat = l → acc ++ l = ints s → EvP (fun k => match_Allowable.l0 k s acc acc false i) (fun r => r = (s, s)) := by
  intro l
  induction l with
  | nil =>
    intro i acc h0 hi hd ha
    have h1 := len_of_drop_nil h0 hd
    rw [ints_length] at h1
    rw [List.append_nil] at ha
    refine EvP.succ ?_
    simp only [match_Allowable.l0]
    refine EvP.neg (by omega) ?_
    refine EvP.succ ?_
    simp only [match_Allowable.j2]
    refine EvP.neg (by simp) (EvP.ret _ ?_)
    rw [ha, strOfNums_ints]
  | cons c t ih =>
    intro i acc h0 hi hd ha
    obtain ⟨hc, hlt, hd2⟩ := bt_of_drop h0 hd
    have h1 := hno i h0 hlt
    have hl := congrArg List.length ha
    rw [List.length_append, ints_length] at hl
    refine EvP.succ ?_
    simp only [match_Allowable.l0]
    rw [w64 (x := i + 1) (by omega) (by omega)]
    refine EvP.pos hlt (EvP.pos h0 (EvP.neg h1.1 (EvP.neg h1.2 (EvP.pos (by omega) (EvP.pos (by omega) ?_)))))
    rw [hc]
    exact ih (i + 1) (acc ++ [c]) (by omega) (by omega) hd2 (by rw [List.append_assoc]; exact ha)

theorem f_any (s : ByteArray) (hn : s.size ≤ 2147483647) (hno : ∀ i, 0 ≤ i → i < (s.size : Int) → bt s i ≠ 42 ∧ bt s i ≠ 63) : EvP (fun k => match_Allowable.f k s) (fun r => r = (s, s)) := by
  unfold match_Allowable.f
  refine EvP.ite (fun h => ?_) (fun h => ?_)
  · have hz : s = (⟨#[]⟩ : ByteArray) := by
      apply ints_inj
      rw [ByteArray.toList_eq] at h
      unfold ints; rw [h]
    refine EvP.succ ?_
    simp only [match_Allowable.j0]
    first | exact EvP.pos rfl (EvP.ret _ (by rw [hz])) | exact EvP.pos trivial (EvP.ret _ (by rw [hz])) | exact EvP.ret _ (by rw [hz])
  · have hp : 0 < (s.size : Int) := by
      have : s.size ≠ 0 := fun hz => h ((toList_nil s).2 hz)
      omega
    refine EvP.pos hp ?_
    have : (bt s 0 == 42) = false := by
      have := (hno 0 (by omega) hp).1
      simpa using this
    rw [this]
    refine EvP.succ ?_
    simp only [match_Allowable.j0]
    refine EvP.neg (by simp) (EvP.pos (by omega) (EvP.pos (by omega) ?_))
    exact l0_any s hn hno (ints s) 0 [] (by omega) (by omega) (by simp) (by simp)

theorem law_l0 (s : ByteArray) (hn : s.size ≤ 2147483647) : ∀ (d : Nat) (i : Int), 0 ≤ i → i ≤ s.size → (s.size : Int) - i = d → (∀ j, 0 ≤ j → j < i → bt s j ≠ 42 ∧ bt s j ≠ 63) → EvP (fun k => laws_FnMtAllowablePlain.l0 k s i) (fun r => r = true) := by
  intro d
  induction d with
  | zero =>
    intro i h0 hi hd hno
    refine EvP.succ ?_
    simp only [laws_FnMtAllowablePlain.l0]
    refine EvP.neg (by omega) ?_
    refine EvP.bind (utf8_f s hn) ?_
    intro r _
    refine EvP.ite (fun _ => ?_) (fun _ => EvP.ret _ rfl)
    unfold impl_MtAllowable.f
    refine EvP.bind (EvP.bind (f_any s hn (fun j h1 h2 => hno j h1 (by omega))) (fun a ha => EvP.ret (P := fun r => r = (s, s)) _ (by rw [ha]))) ?_
    rintro r rfl
    dsimp only
    refine EvP.pos rfl (EvP.ret _ (by simp))
  | succ d ih =>
    intro i h0 hi hd hno
    refine EvP.succ ?_
    simp only [laws_FnMtAllowablePlain.l0]
    rw [w64 (x := i + 1) (by omega) (by omega)]
    refine EvP.pos (by omega) (EvP.pos h0 (EvP.ite (fun _ => EvP.ret _ rfl) (fun h1 => EvP.ite (fun _ => EvP.ret _ rfl) (fun h2 => EvP.ite (fun _ => EvP.ret _ rfl) (fun h3 => ?_)))))
    refine ih (i + 1) (by omega) (by omega) (by omega) (fun j hj1 hj2 => ?_)
    by_cases hj : j = i
    · rw [hj]; exact ⟨h1, h2⟩
    · exact hno j hj1 (by omega)

end Allow

theorem FnMtAllowablePlain : laws_FnMtAllowablePlain.Pure := by
  intro s _
  apply EvP.told
  unfold laws_FnMtAllowablePlain.f
  exact EvP.ite (fun _ => EvP.ret _ rfl) (fun h => Allow.law_l0 s (by omega) s.size 0 (by omega) (by omega) (by omega) (fun j _ _ => by omega))

end Go.Proofs.YtkdpkenhhcgnbaaDoor.Pure
