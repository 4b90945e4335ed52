-- Written for this claim by this session's own program (wip/xprint).
import Derived.Test.YtfmllmlloekojaaDoorPFnFjCheckMembersx0
import Derived.Test.YtfmllmlloekojaaDoorPFnFjCheckMembersx6
import Derived.Test.YtfmllmlloekojaaDoorPFnFjCheckMembersx7
import Derived.Test.YtfmllmlloekojaaDoorPFnFjCheckMembersx8
namespace Go.Proofs.YtfmllmlloekojaaDoor.PFnFjCheckMembers
open Go.RowKit Go.Proofs.YtfmllmlloekojaaDoorW.PrintWords Go.Proofs.YtfmllmlloekojaaDoorW.PrintLast Go.Proofs.YtfmllmlloekojaaDoorW.PrintMore
attribute [local go_sem] max2_int min2_int max_two min_two max_three min_three max_four min_four   -- for this text's walks alone
set_option linter.unusedVariables false
set_option linter.unusedSimpArgs false

theorem grp_fastjson_validateObject.all (k : Nat) : fastjson_validateObject.At k ∧ fastjson_validateArray.At k ∧ fastjson_validateValue.At k := by
  induction k using Nat.strongRecOn with
  | _ k ih => exact ⟨fastjson_validateObject.step k ih, fastjson_validateArray.step k ih, fastjson_validateValue.step k ih⟩
theorem fastjson_validateObject.calls (k : Nat) : fastjson_validateObject.At k := (grp_fastjson_validateObject.all k).1
theorem fastjson_validateArray.calls (k : Nat) : fastjson_validateArray.At k := (grp_fastjson_validateObject.all k).2.1
theorem fastjson_validateValue.calls (k : Nat) : fastjson_validateValue.At k := (grp_fastjson_validateObject.all k).2.2

/-! ### fastjson_DoorCheckValue: function 65 -/
def fastjson_DoorCheckValue.f (k : Nat) (a0 : ByteArray) : Option (ByteArray × Option Int) := (fastjson_validateValue.f k a0).bind fun bt196 => (some (bt196.1, bt196.2))
theorem fastjson_DoorCheckValue.mono : ∀ a0 k, LeO (fastjson_DoorCheckValue.f k a0) (fastjson_DoorCheckValue.f (k + 1) a0) := by
  intro a0 k
  unfold fastjson_DoorCheckValue.f
  repeat' first
      | (with_reducible exact fastjson_validateValue.mono _ _)
      | (with_reducible exact LeO.refl _)
      | (with_reducible exact LeO.none _)
      | (with_reducible refine LeO.ite ?_ ?_)
      | (with_reducible refine LeO.bind ?_ (fun _ => ?_))
      | exact fastjson_validateValue.mono _ _
      | exact LeO.none _
      | refine LeO.ite ?_ ?_
      | refine LeO.bind ?_ (fun _ => ?_)
set_option maxHeartbeats 8000000 in
set_option maxRecDepth 100000 in
theorem fastjson_DoorCheckValue.calls (k : Nat) (a0 : ByteArray) (r1 : ByteArray) (r2 : Option Int) (w : World) (hL : Laid w) (h : fastjson_DoorCheckValue.f k a0 = some (r1, r2)) :
    Calls Tryd.prog 65 #[.string a0] w fun e w' => ∃ x1_ : TypeId × Value, e = .returned (.tuple #[.string r1, errX x1_ r2]) ∧ Below w.heap.size w w' := by
  have HB := Aside0.mk (Below.refl w.heap.size w)
  have HLD := Aside0.mk hL
  clear hL
  have H : ((fastjson_validateValue.f k a0).bind fun bt196 => (some (bt196.1, bt196.2))) = some (r1, r2) := h
  clear h
  replace H := Option.bind_eq_some_iff.mp H
  obtain ⟨⟨t196, t197⟩, A20, H⟩ := H
  replace H : (some (t196, t197)) = some (r1, r2) := H
  have A2 := Aside0.mk A20
  clear A20
  simp only [Option.some.injEq, Prod.mk.injEq] at H
  obtain ⟨rfl, rfl⟩ := H
  go_enter Tryd.func65, Tryd.ntmps65
  go_wp2_with (first | ((with_reducible refine gate_callee (f := 92) rfl ?_); refine goesL_ (some 5) rfl rfl Tryd.func92 (by kernel_rfl) rfl #[.string a0] rfl (by (try simp only [List.map_toArray, List.map_cons, List.map_nil]); first | done | rfl | (simp only [List.length_drop, List.length_take]; rfl)) ?_; (with_reducible refine (fastjson_validateValue.calls k a0 t196 t197 _ ?side1 A2.out).mono ?_); (case side1 => exact Laid.below HLD.out (by repeat (first | (with_reducible first | exact HB.out | apply below_alloc | apply pw_below_drewN | apply below_drew1) | exact HB.out))); rintro e w3 ⟨ex_t197, rfl, hb⟩; refine ⟨_, rfl, ?_⟩; have n0_ := Aside0.mk (below_step (by repeat (first | (with_reducible first | exact HB.out | apply below_alloc | apply pw_below_drewN | apply below_drew1) | exact HB.out)) hb); clear HB; have HB := n0_; clear n0_; (try clear hb); (try clear hb2); (try clear hk); (try clear hi); (try simp only [errX_none, errX_some])))
  go_ret2
  first | exact ⟨ex_t197, by first | rfl | (simp [errX_none, errX_some] <;> rfl) | (simp [*, errX_none, errX_some] <;> rfl), by repeat (first | (with_reducible first | exact HB.out | apply below_alloc | apply pw_below_drewN | apply below_drew1) | exact HB.out)⟩ | exact ⟨ex_t197.1, ex_t197.2, by first | rfl | (simp [errX_none, errX_some] <;> rfl) | (simp [*, errX_none, errX_some] <;> rfl), by repeat (first | (with_reducible first | exact HB.out | apply below_alloc | apply pw_below_drewN | apply below_drew1) | exact HB.out)⟩ | exact ⟨⟨ex_t197, by first | rfl | (simp [errX_none, errX_some] <;> rfl) | (simp [*, errX_none, errX_some] <;> rfl)⟩, by repeat (first | (with_reducible first | exact HB.out | apply below_alloc | apply pw_below_drewN | apply below_drew1) | exact HB.out)⟩ | exact ⟨⟨ex_t197.1, ex_t197.2, by first | rfl | (simp [errX_none, errX_some] <;> rfl) | (simp [*, errX_none, errX_some] <;> rfl)⟩, by repeat (first | (with_reducible first | exact HB.out | apply below_alloc | apply pw_below_drewN | apply below_drew1) | exact HB.out)⟩

/-! ### impl_FjCheckValue: function 36 -/
def impl_FjCheckValue.f (k : Nat) (a0 : ByteArray) : Option (ByteArray × Bool) := (fastjson_DoorCheckValue.f k a0).bind fun bt198 => (if bt198.2.isNone = true then (some (bt198.1, true)) else (some ((⟨#[]⟩ : ByteArray), false)))
theorem impl_FjCheckValue.mono : ∀ a0 k, LeO (impl_FjCheckValue.f k a0) (impl_FjCheckValue.f (k + 1) a0) := by
  intro a0 k
  unfold impl_FjCheckValue.f
  repeat' first
      | (with_reducible exact fastjson_DoorCheckValue.mono _ _)
      | (with_reducible exact LeO.refl _)
      | (with_reducible exact LeO.none _)
      | (with_reducible refine LeO.ite ?_ ?_)
      | (with_reducible refine LeO.bind ?_ (fun _ => ?_))
      | exact fastjson_DoorCheckValue.mono _ _
      | exact LeO.none _
      | refine LeO.ite ?_ ?_
      | refine LeO.bind ?_ (fun _ => ?_)
set_option maxHeartbeats 8000000 in
set_option maxRecDepth 100000 in
theorem impl_FjCheckValue.calls (k : Nat) (a0 : ByteArray) (r1 : ByteArray) (r2 : Bool) (w : World) (hL : Laid w) (h : impl_FjCheckValue.f k a0 = some (r1, r2)) :
    Calls Tryd.prog 36 #[.string a0] w fun e w' => e = .returned (.tuple #[.string r1, .bool r2]) ∧ Below w.heap.size w w' := by
  have hu67 := Tryd.underlying67
  have HB := Aside0.mk (Below.refl w.heap.size w)
  have HLD := Aside0.mk hL
  clear hL
  have H : ((fastjson_DoorCheckValue.f k a0).bind fun bt198 => (if bt198.2.isNone = true then (some (bt198.1, true)) else (some ((⟨#[]⟩ : ByteArray), false)))) = some (r1, r2) := h
  clear h
  replace H := Option.bind_eq_some_iff.mp H
  obtain ⟨⟨t198, t199⟩, A20, H⟩ := H
  replace H : (if t199.isNone = true then (some (t198, true)) else (some ((⟨#[]⟩ : ByteArray), false))) = some (r1, r2) := H
  have A2 := Aside0.mk A20
  clear A20
  rcases t199 with _ | q200
  · have H1 : (some (t198, true)) = some (r1, r2) := by rw [if_pos (show (none : Option Int).isNone = true by rfl)] at H; exact H
    clear H
    have H := H1
    clear H1
    try simp only [errX_none, errX_some]
    simp only [Option.some.injEq, Prod.mk.injEq] at H
    obtain ⟨rfl, rfl⟩ := H
    go_enter Tryd.func36, Tryd.ntmps36
    go_wp2_with (first | ((with_reducible refine gate_callee (f := 65) rfl ?_); refine goesL_ (some 8) rfl rfl Tryd.func65 (by kernel_rfl) rfl #[.string a0] rfl (by (try simp only [List.map_toArray, List.map_cons, List.map_nil]); first | done | rfl | (simp only [List.length_drop, List.length_take]; rfl)) ?_; (with_reducible refine (fastjson_DoorCheckValue.calls k a0 t198 none _ ?side1 A2.out).mono ?_); (case side1 => exact Laid.below HLD.out (by repeat (first | (with_reducible first | exact HB.out | apply below_alloc | apply pw_below_drewN | apply below_drew1) | exact HB.out))); rintro e w3 ⟨_, rfl, hb⟩; refine ⟨_, rfl, ?_⟩; have n0_ := Aside0.mk (below_step (by repeat (first | (with_reducible first | exact HB.out | apply below_alloc | apply pw_below_drewN | apply below_drew1) | exact HB.out)) hb); clear HB; have HB := n0_; clear n0_; (try clear hb); (try clear hb2); (try clear hk); (try clear hi); (try simp only [errX_none, errX_some])))
    go_ret2
    exact ⟨by first | rfl | (simp [errX_none, errX_some] <;> rfl) | (simp [*, errX_none, errX_some] <;> rfl), by repeat (first | (with_reducible first | exact HB.out | apply below_alloc | apply pw_below_drewN | apply below_drew1) | exact HB.out)⟩
  · have H1 : (some ((⟨#[]⟩ : ByteArray), false)) = some (r1, r2) := by rw [if_neg (show ¬ (some q200).isNone = true by simp)] at H; exact H
    clear H
    have H := H1
    clear H1
    try simp only [errX_none, errX_some]
    simp only [Option.some.injEq, Prod.mk.injEq] at H
    obtain ⟨rfl, rfl⟩ := H
    go_enter Tryd.func36, Tryd.ntmps36
    go_wp2_with (first | ((with_reducible refine gate_callee (f := 65) rfl ?_); refine goesL_ (some 8) rfl rfl Tryd.func65 (by kernel_rfl) rfl #[.string a0] rfl (by (try simp only [List.map_toArray, List.map_cons, List.map_nil]); first | done | rfl | (simp only [List.length_drop, List.length_take]; rfl)) ?_; (with_reducible refine (fastjson_DoorCheckValue.calls k a0 t198 (some q200) _ ?side1 A2.out).mono ?_); (case side1 => exact Laid.below HLD.out (by repeat (first | (with_reducible first | exact HB.out | apply below_alloc | apply pw_below_drewN | apply below_drew1) | exact HB.out))); rintro e w4 ⟨ex_t199, rfl, hb⟩; refine ⟨_, rfl, ?_⟩; have n0_ := Aside0.mk (below_step (by repeat (first | (with_reducible first | exact HB.out | apply below_alloc | apply pw_below_drewN | apply below_drew1) | exact HB.out)) hb); clear HB; have HB := n0_; clear n0_; (try clear hb); (try clear hb2); (try clear hk); (try clear hi); (try simp only [errX_none, errX_some])))
    go_ret2
    exact ⟨by first | rfl | (simp [errX_none, errX_some] <;> rfl) | (simp [*, errX_none, errX_some] <;> rfl), by repeat (first | (with_reducible first | exact HB.out | apply below_alloc | apply pw_below_drewN | apply below_drew1) | exact HB.out)⟩

end Go.Proofs.YtfmllmlloekojaaDoor.PFnFjCheckMembers
