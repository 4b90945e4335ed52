-- Written for this claim by this session's own program (wip/xprint).
import Derived.Test.YtfmllmlloekojaaDoorPFnFjCheckMembersx0
import Derived.Test.YtfmllmlloekojaaDoorPFnFjCheckMembersx1
import Derived.Test.YtfmllmlloekojaaDoorPFnFjCheckMembersx4
import Derived.Test.YtfmllmlloekojaaDoorPFnFjCheckMembersx9
namespace Go.Proofs.YtfmllmlloekojaaDoor.PFnFjCheckMembers
open Go.RowKit Go.Proofs.YtfmllmlloekojaaDoorW.PrintWords Go.Proofs.YtfmllmlloekojaaDoorW.PrintLast Go.Proofs.YtfmllmlloekojaaDoorW.PrintMore
attribute [local go_sem] max2_int min2_int max_two min_two max_three min_three max_four min_four   -- for this text's walks alone
set_option linter.unusedVariables false
set_option linter.unusedSimpArgs false

/-! ### laws_fjMembers: function 13 -/
mutual
def laws_fjMembers.j0 : Nat → ByteArray → Bool → Option (ByteArray × Bool)
  | 0, _, _ => none
  | k + 1, x0, x14 => if x14 = true then (if 1 ≤ (x0.size : Int) then (some (x0.extract 1 x0.size, true)) else (none)) else (laws_fjMembers.l0 k x0)
def laws_fjMembers.l0 : Nat → ByteArray → Option (ByteArray × Bool)
  | 0, _ => none
  | k + 1, x0 => (impl_FjSkip.f k x0).bind fun t202 => (if t202.toList = ([] : List UInt8) then (laws_fjMembers.j2 k t202 true) else (if 0 < (t202.size : Int) then (laws_fjMembers.j2 k t202 ((bt t202 0) != 34)) else (none)))
def laws_fjMembers.j2 : Nat → ByteArray → Bool → Option (ByteArray × Bool)
  | 0, _, _ => none
  | k + 1, x0, x25 => if x25 = true then (some ((⟨#[]⟩ : ByteArray), false)) else (if 1 ≤ (x0.size : Int) then ((impl_FjCheckKey.f k (x0.extract 1 x0.size)).bind fun bt203 => (if bt203.2 = true then (if (bt203.1.size : Int) ≥ (x0.size : Int) then (laws_fjMembers.j3 k x0 bt203.1 true) else (if 0 ≤ (wrap64 ((x0.size : Int) - (bt203.1.size : Int))) then (if (wrap64 ((x0.size : Int) - (bt203.1.size : Int))) ≤ (x0.size : Int) then ((laws_low.f k (x0.extract 0 ((wrap64 ((x0.size : Int) - (bt203.1.size : Int))) : Int).toNat)).bind fun t205 => (laws_fjMembers.j3 k x0 bt203.1 t205)) else (none)) else (none))) else (laws_fjMembers.j3 k x0 bt203.1 true))) else (none))
def laws_fjMembers.j3 : Nat → ByteArray → ByteArray → Bool → Option (ByteArray × Bool)
  | 0, _, _, _ => none
  | k + 1, x0, x4, x50 => if x50 = true then (some ((⟨#[]⟩ : ByteArray), false)) else ((impl_FjSkip.f k x4).bind fun t206 => (if t206.toList = ([] : List UInt8) then (laws_fjMembers.j4 k x0 t206 true) else (if 0 < (t206.size : Int) then (laws_fjMembers.j4 k x0 t206 ((bt t206 0) != 58)) else (none))))
def laws_fjMembers.j4 : Nat → ByteArray → ByteArray → Bool → Option (ByteArray × Bool)
  | 0, _, _, _ => none
  | k + 1, x0, x4, x59 => if x59 = true then (some ((⟨#[]⟩ : ByteArray), false)) else (if 1 ≤ (x4.size : Int) then ((impl_FjSkip.f k (x4.extract 1 x4.size)).bind fun t207 => ((impl_FjCheckValue.f k t207).bind fun bt208 => (if bt208.2 = true then (laws_fjMembers.j5 k bt208.1 (decide ((bt208.1.size : Int) ≥ (x0.size : Int)))) else (laws_fjMembers.j5 k bt208.1 true)))) else (none))
def laws_fjMembers.j5 : Nat → ByteArray → Bool → Option (ByteArray × Bool)
  | 0, _, _ => none
  | k + 1, x4, x75 => if x75 = true then (some ((⟨#[]⟩ : ByteArray), false)) else ((impl_FjSkip.f k x4).bind fun t210 => (if t210.toList = ([] : List UInt8) then (laws_fjMembers.j6 k t210 true) else (if 0 < (t210.size : Int) then (if (bt t210 0) = 44 then (laws_fjMembers.j6 k t210 false) else (laws_fjMembers.j6 k t210 ((bt t210 0) != 125))) else (none))))
def laws_fjMembers.j6 : Nat → ByteArray → Bool → Option (ByteArray × Bool)
  | 0, _, _ => none
  | k + 1, x0, x89 => if x89 = true then (some ((⟨#[]⟩ : ByteArray), false)) else (if 0 < (x0.size : Int) then (if (bt x0 0) = 125 then (if 1 ≤ (x0.size : Int) then (some (x0.extract 1 x0.size, true)) else (none)) else (if 1 ≤ (x0.size : Int) then (laws_fjMembers.l0 k (x0.extract 1 x0.size)) else (none))) else (none))
end
def laws_fjMembers.f (k : Nat) (a0 : ByteArray) : Option (ByteArray × Bool) := (impl_FjSkip.f k a0).bind fun t201 => (if t201.toList = ([] : List UInt8) then (laws_fjMembers.j0 k t201 false) else (if 0 < (t201.size : Int) then (laws_fjMembers.j0 k t201 ((bt t201 0) == 125)) else (none)))
theorem laws_fjMembers.mono_l : ∀ k, (∀ y0 y1, LeO (laws_fjMembers.j0 k y0 y1) (laws_fjMembers.j0 (k + 1) y0 y1)) ∧ (∀ y0, LeO (laws_fjMembers.l0 k y0) (laws_fjMembers.l0 (k + 1) y0)) ∧ (∀ y0 y1, LeO (laws_fjMembers.j2 k y0 y1) (laws_fjMembers.j2 (k + 1) y0 y1)) ∧ (∀ y0 y1 y2, LeO (laws_fjMembers.j3 k y0 y1 y2) (laws_fjMembers.j3 (k + 1) y0 y1 y2)) ∧ (∀ y0 y1 y2, LeO (laws_fjMembers.j4 k y0 y1 y2) (laws_fjMembers.j4 (k + 1) y0 y1 y2)) ∧ (∀ y0 y1, LeO (laws_fjMembers.j5 k y0 y1) (laws_fjMembers.j5 (k + 1) y0 y1)) ∧ (∀ y0 y1, LeO (laws_fjMembers.j6 k y0 y1) (laws_fjMembers.j6 (k + 1) y0 y1))
  | 0 => ⟨fun _ _ r h => by simp [laws_fjMembers.j0] at h, fun _ r h => by simp [laws_fjMembers.l0] at h, fun _ _ r h => by simp [laws_fjMembers.j2] at h, fun _ _ _ r h => by simp [laws_fjMembers.j3] at h, fun _ _ _ r h => by simp [laws_fjMembers.j4] at h, fun _ _ r h => by simp [laws_fjMembers.j5] at h, fun _ _ r h => by simp [laws_fjMembers.j6] at h⟩
  | k + 1 => by
    obtain ⟨ih0, ih1, ih2, ih3, ih4, ih5, ih6⟩ := laws_fjMembers.mono_l k
    refine ⟨?_, ?_, ?_, ?_, ?_, ?_, ?_⟩
    · intro y0 y1
      unfold laws_fjMembers.j0
      repeat' first
      | (with_reducible exact ih0 _ _)
      | (with_reducible exact ih1 _)
      | (with_reducible exact ih2 _ _)
      | (with_reducible exact ih3 _ _ _)
      | (with_reducible exact ih4 _ _ _)
      | (with_reducible exact ih5 _ _)
      | (with_reducible exact ih6 _ _)
      | (with_reducible exact impl_FjCheckKey.mono _ _)
      | (with_reducible exact impl_FjCheckValue.mono _ _)
      | (with_reducible exact impl_FjSkip.mono _ _)
      | (with_reducible exact laws_low.mono _ _)
      | (with_reducible exact LeO.refl _)
      | (with_reducible exact LeO.none _)
      | (with_reducible refine LeO.ite ?_ ?_)
      | (with_reducible refine LeO.bind ?_ (fun _ => ?_))
      | exact ih0 _ _
      | exact ih1 _
      | exact ih2 _ _
      | exact ih3 _ _ _
      | exact ih4 _ _ _
      | exact ih5 _ _
      | exact ih6 _ _
      | exact impl_FjCheckKey.mono _ _
      | exact impl_FjCheckValue.mono _ _
      | exact impl_FjSkip.mono _ _
      | exact laws_low.mono _ _
      | exact LeO.none _
      | refine LeO.ite ?_ ?_
      | refine LeO.bind ?_ (fun _ => ?_)
    · intro y0
      unfold laws_fjMembers.l0
      repeat' first
      | (with_reducible exact ih0 _ _)
      | (with_reducible exact ih1 _)
      | (with_reducible exact ih2 _ _)
      | (with_reducible exact ih3 _ _ _)
      | (with_reducible exact ih4 _ _ _)
      | (with_reducible exact ih5 _ _)
      | (with_reducible exact ih6 _ _)
      | (with_reducible exact impl_FjCheckKey.mono _ _)
      | (with_reducible exact impl_FjCheckValue.mono _ _)
      | (with_reducible exact impl_FjSkip.mono _ _)
      | (with_reducible exact laws_low.mono _ _)
      | (with_reducible exact LeO.refl _)
      | (with_reducible exact LeO.none _)
      | (with_reducible refine LeO.ite ?_ ?_)
      | (with_reducible refine LeO.bind ?_ (fun _ => ?_))
      | exact ih0 _ _
      | exact ih1 _
      | exact ih2 _ _
      | exact ih3 _ _ _
      | exact ih4 _ _ _
      | exact ih5 _ _
      | exact ih6 _ _
      | exact impl_FjCheckKey.mono _ _
      | exact impl_FjCheckValue.mono _ _
      | exact impl_FjSkip.mono _ _
      | exact laws_low.mono _ _
      | exact LeO.none _
      | refine LeO.ite ?_ ?_
      | refine LeO.bind ?_ (fun _ => ?_)
    · intro y0 y1
      unfold laws_fjMembers.j2
      repeat' first
      | (with_reducible exact ih0 _ _)
      | (with_reducible exact ih1 _)
      | (with_reducible exact ih2 _ _)
      | (with_reducible exact ih3 _ _ _)
      | (with_reducible exact ih4 _ _ _)
      | (with_reducible exact ih5 _ _)
      | (with_reducible exact ih6 _ _)
      | (with_reducible exact impl_FjCheckKey.mono _ _)
      | (with_reducible exact impl_FjCheckValue.mono _ _)
      | (with_reducible exact impl_FjSkip.mono _ _)
      | (with_reducible exact laws_low.mono _ _)
      | (with_reducible exact LeO.refl _)
      | (with_reducible exact LeO.none _)
      | (with_reducible refine LeO.ite ?_ ?_)
      | (with_reducible refine LeO.bind ?_ (fun _ => ?_))
      | exact ih0 _ _
      | exact ih1 _
      | exact ih2 _ _
      | exact ih3 _ _ _
      | exact ih4 _ _ _
      | exact ih5 _ _
      | exact ih6 _ _
      | exact impl_FjCheckKey.mono _ _
      | exact impl_FjCheckValue.mono _ _
      | exact impl_FjSkip.mono _ _
      | exact laws_low.mono _ _
      | exact LeO.none _
      | refine LeO.ite ?_ ?_
      | refine LeO.bind ?_ (fun _ => ?_)
    · intro y0 y1 y2
      unfold laws_fjMembers.j3
      repeat' first
      | (with_reducible exact ih0 _ _)
      | (with_reducible exact ih1 _)
      | (with_reducible exact ih2 _ _)
      | (with_reducible exact ih3 _ _ _)
      | (with_reducible exact ih4 _ _ _)
      | (with_reducible exact ih5 _ _)
      | (with_reducible exact ih6 _ _)
      | (with_reducible exact impl_FjCheckKey.mono _ _)
      | (with_reducible exact impl_FjCheckValue.mono _ _)
      | (with_reducible exact impl_FjSkip.mono _ _)
      | (with_reducible exact laws_low.mono _ _)
      | (with_reducible exact LeO.refl _)
      | (with_reducible exact LeO.none _)
      | (with_reducible refine LeO.ite ?_ ?_)
      | (with_reducible refine LeO.bind ?_ (fun _ => ?_))
      | exact ih0 _ _
      | exact ih1 _
      | exact ih2 _ _
      | exact ih3 _ _ _
      | exact ih4 _ _ _
      | exact ih5 _ _
      | exact ih6 _ _
      | exact impl_FjCheckKey.mono _ _
      | exact impl_FjCheckValue.mono _ _
      | exact impl_FjSkip.mono _ _
      | exact laws_low.mono _ _
      | exact LeO.none _
      | refine LeO.ite ?_ ?_
      | refine LeO.bind ?_ (fun _ => ?_)
    · intro y0 y1 y2
      unfold laws_fjMembers.j4
      repeat' first
      | (with_reducible exact ih0 _ _)
      | (with_reducible exact ih1 _)
      | (with_reducible exact ih2 _ _)
      | (with_reducible exact ih3 _ _ _)
      | (with_reducible exact ih4 _ _ _)
      | (with_reducible exact ih5 _ _)
      | (with_reducible exact ih6 _ _)
      | (with_reducible exact impl_FjCheckKey.mono _ _)
      | (with_reducible exact impl_FjCheckValue.mono _ _)
      | (with_reducible exact impl_FjSkip.mono _ _)
      | (with_reducible exact laws_low.mono _ _)
      | (with_reducible exact LeO.refl _)
      | (with_reducible exact LeO.none _)
      | (with_reducible refine LeO.ite ?_ ?_)
      | (with_reducible refine LeO.bind ?_ (fun _ => ?_))
      | exact ih0 _ _
      | exact ih1 _
      | exact ih2 _ _
      | exact ih3 _ _ _
      | exact ih4 _ _ _
      | exact ih5 _ _
      | exact ih6 _ _
      | exact impl_FjCheckKey.mono _ _
      | exact impl_FjCheckValue.mono _ _
      | exact impl_FjSkip.mono _ _
      | exact laws_low.mono _ _
      | exact LeO.none _
      | refine LeO.ite ?_ ?_
      | refine LeO.bind ?_ (fun _ => ?_)
    · intro y0 y1
      unfold laws_fjMembers.j5
      repeat' first
      | (with_reducible exact ih0 _ _)
      | (with_reducible exact ih1 _)
      | (with_reducible exact ih2 _ _)
      | (with_reducible exact ih3 _ _ _)
      | (with_reducible exact ih4 _ _ _)
      | (with_reducible exact ih5 _ _)
      | (with_reducible exact ih6 _ _)
      | (with_reducible exact impl_FjCheckKey.mono _ _)
      | (with_reducible exact impl_FjCheckValue.mono _ _)
      | (with_reducible exact impl_FjSkip.mono _ _)
      | (with_reducible exact laws_low.mono _ _)
      | (with_reducible exact LeO.refl _)
      | (with_reducible exact LeO.none _)
      | (with_reducible refine LeO.ite ?_ ?_)
      | (with_reducible refine LeO.bind ?_ (fun _ => ?_))
      | exact ih0 _ _
      | exact ih1 _
      | exact ih2 _ _
      | exact ih3 _ _ _
      | exact ih4 _ _ _
      | exact ih5 _ _
      | exact ih6 _ _
      | exact impl_FjCheckKey.mono _ _
      | exact impl_FjCheckValue.mono _ _
      | exact impl_FjSkip.mono _ _
      | exact laws_low.mono _ _
      | exact LeO.none _
      | refine LeO.ite ?_ ?_
      | refine LeO.bind ?_ (fun _ => ?_)
    · intro y0 y1
      unfold laws_fjMembers.j6
      repeat' first
      | (with_reducible exact ih0 _ _)
      | (with_reducible exact ih1 _)
      | (with_reducible exact ih2 _ _)
      | (with_reducible exact ih3 _ _ _)
      | (with_reducible exact ih4 _ _ _)
      | (with_reducible exact ih5 _ _)
      | (with_reducible exact ih6 _ _)
      | (with_reducible exact impl_FjCheckKey.mono _ _)
      | (with_reducible exact impl_FjCheckValue.mono _ _)
      | (with_reducible exact impl_FjSkip.mono _ _)
      | (with_reducible exact laws_low.mono _ _)
      | (with_reducible exact LeO.refl _)
      | (with_reducible exact LeO.none _)
      | (with_reducible refine LeO.ite ?_ ?_)
      | (with_reducible refine LeO.bind ?_ (fun _ => ?_))
      | exact ih0 _ _
      | exact ih1 _
      | exact ih2 _ _
      | exact ih3 _ _ _
      | exact ih4 _ _ _
      | exact ih5 _ _
      | exact ih6 _ _
      | exact impl_FjCheckKey.mono _ _
      | exact impl_FjCheckValue.mono _ _
      | exact impl_FjSkip.mono _ _
      | exact laws_low.mono _ _
      | exact LeO.none _
      | refine LeO.ite ?_ ?_
      | refine LeO.bind ?_ (fun _ => ?_)
theorem laws_fjMembers.mono : ∀ a0 k, LeO (laws_fjMembers.f k a0) (laws_fjMembers.f (k + 1) a0) := by
  intro a0 k
  obtain ⟨ih0, ih1, ih2, ih3, ih4, ih5, ih6⟩ := laws_fjMembers.mono_l k
  unfold laws_fjMembers.f
  repeat' first
      | (with_reducible exact ih0 _ _)
      | (with_reducible exact ih1 _)
      | (with_reducible exact ih2 _ _)
      | (with_reducible exact ih3 _ _ _)
      | (with_reducible exact ih4 _ _ _)
      | (with_reducible exact ih5 _ _)
      | (with_reducible exact ih6 _ _)
      | (with_reducible exact impl_FjCheckKey.mono _ _)
      | (with_reducible exact impl_FjCheckValue.mono _ _)
      | (with_reducible exact impl_FjSkip.mono _ _)
      | (with_reducible exact laws_low.mono _ _)
      | (with_reducible exact LeO.refl _)
      | (with_reducible exact LeO.none _)
      | (with_reducible refine LeO.ite ?_ ?_)
      | (with_reducible refine LeO.bind ?_ (fun _ => ?_))
      | exact ih0 _ _
      | exact ih1 _
      | exact ih2 _ _
      | exact ih3 _ _ _
      | exact ih4 _ _ _
      | exact ih5 _ _
      | exact ih6 _ _
      | exact impl_FjCheckKey.mono _ _
      | exact impl_FjCheckValue.mono _ _
      | exact impl_FjSkip.mono _ _
      | exact laws_low.mono _ _
      | exact LeO.none _
      | refine LeO.ite ?_ ?_
      | refine LeO.bind ?_ (fun _ => ?_)
set_option maxHeartbeats 8000000 in
set_option maxRecDepth 100000 in
theorem laws_fjMembers.calls (k : Nat) (a0 : ByteArray) (r1 : ByteArray) (r2 : Bool) (w : World) (hL : Laid w) (h : laws_fjMembers.f k a0 = some (r1, r2)) :
    Calls Tryd.prog 13 #[.string a0] w fun e w' => e = .returned (.tuple #[.string r1, .bool r2]) ∧ Below w.heap.size w w' := by
  have HB := Aside0.mk (Below.refl w.heap.size w)
  have HLD := Aside0.mk hL
  clear hL
  have H : ((impl_FjSkip.f k a0).bind fun t201 => (if t201.toList = ([] : List UInt8) then (laws_fjMembers.j0 k t201 false) else (if 0 < (t201.size : Int) then (laws_fjMembers.j0 k t201 ((bt t201 0) == 125)) else (none)))) = some (r1, r2) := h
  clear h
  replace H := Option.bind_eq_some_iff.mp H
  obtain ⟨t201, A20, H⟩ := H
  replace H : (if t201.toList = ([] : List UInt8) then (laws_fjMembers.j0 k t201 false) else (if 0 < (t201.size : Int) then (laws_fjMembers.j0 k t201 ((bt t201 0) == 125)) else (none))) = some (r1, r2) := H
  have A2 := Aside0.mk A20
  clear A20
  have HC3 := Aside0.mk H
  clear H
  go_enter Tryd.func13, Tryd.ntmps13
  go_upto_region 2 with (first | ((with_reducible refine gate_callee (f := 33) rfl ?_); refine goesL_ (some 7) rfl rfl Tryd.func33 (by kernel_rfl) rfl #[.string a0] rfl (by (try simp only [List.map_toArray, List.map_cons, List.map_nil]); first | done | rfl | (simp only [List.length_drop, List.length_take]; rfl)) ?_; (with_reducible refine (impl_FjSkip.calls k a0 t201 _ A2.out).mono ?_); rintro e w' ⟨rfl, ⟨nd, rfl⟩⟩; refine ⟨_, rfl, ?_⟩))
  (try simp only [Act.put, List.setIfInBounds_toArray, List.set_cons_zero, List.set_cons_succ])
  go_cut [14] (fun v14 wc => ∃ (kq : Nat) (x14_2 : Bool), v14 = .bool x14_2 ∧ Aside0 (laws_fjMembers.j0 kq t201 x14_2 = some (r1, r2)) ∧ Aside0 (kq ≤ k) ∧ Aside0 (Below w.heap.size w wc))
  case first =>
    have H := HC3.out
    clear HC3
    by_cases c4 : t201.toList = ([] : List UInt8)
    · rw [if_pos c4] at H
      have c4b0 : (t201.toList == ([] : List UInt8)) = true := beq_iff_eq.mpr c4
      have c4b1 : (t201.toList != ([] : List UInt8)) = false := bne_eq_false_iff_eq.mpr c4
      clear c4
      (first | rw [c4b0] | (simp only [i64_w, i32_w]; rw [c4b0]) | skip)
      have H' := Aside0.mk H
      clear H
      go_wp2
      (first | go_meet | (rw [← c4b0]; go_meet))
      case rel => exact ⟨_, (false), (by first | rfl | (simp; done) | (simp [*]; done)), H', ⟨by first | omega | exact Nat.le_refl _⟩, ⟨by repeat (first | (with_reducible first | exact HB.out | apply below_alloc | apply pw_below_drewN | apply below_drew1) | exact HB.out)⟩⟩
    · rw [if_neg c4] at H
      have c4b0 : (t201.toList == ([] : List UInt8)) = false := beq_eq_false_iff_ne.mpr c4
      have c4b1 : (t201.toList != ([] : List UInt8)) = true := bne_iff_ne.mpr c4
      (first | rw [c4b0] | (simp only [i64_w, i32_w]; rw [c4b0]) | skip)
      by_cases c5 : 0 < (t201.size : Int)
      · rw [if_pos c5] at H
        have c5b0 : decide (0 < (t201.size : Int)) = true := decide_eq_true c5
        have c5b1 : decide (0 < t201.size) = true := decide_eq_true (by omega)
        clear c5
        have H' := Aside0.mk H
        clear H
        have p6 : 0 ≤ (0 : Int) := (by omega)
        have q6 : 0 < t201.size := (by have : (0 : Int) < (t201.size : Int) := of_decide_eq_true (by first | (with_reducible assumption) | assumption); omega)
        have hx6 : ∀ h : 0 < t201.size, ((t201[0]'h).toNat : Int) = bt t201 0 := bt_at t201 0
        clear p6
        have qi6 : (0 < (t201.size : Int)) = True := eq_true (of_decide_eq_true (by first | (with_reducible assumption) | assumption))
        replace q6 := eq_true q6
        go_wp2
        (first | go_meet | (rw [← c4b0]; go_meet))
        case rel => exact ⟨_, (((bt t201 0) == 125)), (by first | rfl | (simp; done) | (simp [*]; done)), H', ⟨by first | omega | exact Nat.le_refl _⟩, ⟨by repeat (first | (with_reducible first | exact HB.out | apply below_alloc | apply pw_below_drewN | apply below_drew1) | exact HB.out)⟩⟩
      · rw [if_neg c5] at H
        exact absurd H (by simp)
  case rest =>
    clear HC3
    try clear c1
    try clear p2
    try clear c3
    try clear c4
    try clear c4b0
    try clear c4b1
    try clear c5
    try clear c5b0
    try clear c5b1
    try clear p6
    try clear q6
    try clear hx6
    try clear qi6
    try clear p6
    try clear q6
    obtain ⟨kq, x14_2, rfl, HA, HJ2, HB⟩ := hcut
    cases kq with
    | zero => exact absurd HA.out (by simp [laws_fjMembers.j0])
    | succ kj2 =>
      have H := HA.out
      clear HA
      simp only [laws_fjMembers.j0] at H
      by_cases c7 : x14_2 = true
      · subst c7
        have H1 : (if 1 ≤ (t201.size : Int) then (some (t201.extract 1 t201.size, true)) else (none)) = some (r1, r2) := by rw [if_pos rfl] at H; exact H
        clear H
        have H := H1
        clear H1
        by_cases c8 : 1 ≤ (t201.size : Int)
        · rw [if_pos c8] at H
          have c8b0 := eq_true c8
          have c8b1 : decide (1 ≤ (t201.size : Int)) = true := decide_eq_true c8
          clear c8
          simp only [Option.some.injEq, Prod.mk.injEq] at H
          obtain ⟨rfl, rfl⟩ := H
          go_wp2
          go_ret2
          exact ⟨by first | rfl | (simp [errX_none, errX_some] <;> rfl) | (simp [*, errX_none, errX_some] <;> rfl), by repeat (first | (with_reducible first | exact HB.out | apply below_alloc | apply pw_below_drewN | apply below_drew1) | exact HB.out)⟩
        · rw [if_neg c8] at H
          exact absurd H (by simp)
      · replace c7 := Bool.eq_false_iff.mpr c7
        subst c7
        have H1 : (laws_fjMembers.l0 kj2 t201) = some (r1, r2) := by rw [if_neg (show ¬ (false = true) by decide)] at H; exact H
        clear H
        have H := H1
        clear H1
        have H' := Aside0.mk H
        clear H
        go_wp2
        (try simp only [Act.put, List.setIfInBounds_toArray, List.set_cons_zero, List.set_cons_succ])
        go_loopg [0] kj2 (fun kq v0 w' => ∃ (x0_2 : ByteArray), v0 = .string x0_2 ∧ Aside0 (laws_fjMembers.l0 kq x0_2 = some (r1, r2)) ∧ Aside0 (kq ≤ kj2) ∧ Aside0 (Below w.heap.size w w'))
        case atStart => exact ⟨(t201), (by first | rfl | (simp; done) | (simp [*]; done)), H', ⟨Nat.le_refl _⟩, ⟨by repeat (first | (with_reducible first | exact HB.out | apply below_alloc | apply pw_below_drewN | apply below_drew1) | exact HB.out)⟩⟩
        case round =>
          clear H'
          try clear c1
          try clear p2
          try clear c3
          try clear c4
          try clear c4b0
          try clear c4b1
          try clear c5
          try clear c5b0
          try clear c5b1
          try clear p6
          try clear q6
          try clear hx6
          try clear qi6
          try clear c7
          try clear c8
          try clear c8b0
          try clear c8b1
          try clear p2
          try clear p6
          try clear q6
          obtain ⟨x0_2, rfl, HA, HK2, HB⟩ := hrel
          cases gk with
          | zero => exact absurd HA.out (by simp [laws_fjMembers.l0])
          | succ k2 =>
            have H := HA.out
            clear HA
            simp only [laws_fjMembers.l0] at H
            replace H := Option.bind_eq_some_iff.mp H
            obtain ⟨t202, A90, H⟩ := H
            replace H : (if t202.toList = ([] : List UInt8) then (laws_fjMembers.j2 k2 t202 true) else (if 0 < (t202.size : Int) then (laws_fjMembers.j2 k2 t202 ((bt t202 0) != 34)) else (none))) = some (r1, r2) := H
            have A9 := Aside0.mk A90
            clear A90
            have HC10 := Aside0.mk H
            clear H
            go_upto_region 5 with (first | ((with_reducible refine gate_callee (f := 33) rfl ?_); refine goesL_ (some 18) rfl rfl Tryd.func33 (by kernel_rfl) rfl #[.string x0_2] rfl (by (try simp only [List.map_toArray, List.map_cons, List.map_nil]); first | done | rfl | (simp only [List.length_drop, List.length_take]; rfl)) ?_; (with_reducible refine (impl_FjSkip.calls k2 x0_2 t202 _ A9.out).mono ?_); rintro e w' ⟨rfl, ⟨nd, rfl⟩⟩; refine ⟨_, rfl, ?_⟩))
            (try simp only [Act.put, List.setIfInBounds_toArray, List.set_cons_zero, List.set_cons_succ])
            go_cut [25] (fun v25 wc => ∃ (kq : Nat) (x25_9 : Bool), v25 = .bool x25_9 ∧ Aside0 (laws_fjMembers.j2 kq t202 x25_9 = some (r1, r2)) ∧ Aside0 (kq ≤ k2) ∧ Aside0 (Below w.heap.size w wc))
            case first =>
              have H := HC10.out
              clear HC10
              by_cases c11 : t202.toList = ([] : List UInt8)
              · rw [if_pos c11] at H
                have c11b0 : (t202.toList == ([] : List UInt8)) = true := beq_iff_eq.mpr c11
                have c11b1 : (t202.toList != ([] : List UInt8)) = false := bne_eq_false_iff_eq.mpr c11
                clear c11
                (first | rw [c11b0] | (simp only [i64_w, i32_w]; rw [c11b0]) | skip)
                have H' := Aside0.mk H
                clear H
                go_wp2
                (first | go_meet | (rw [← c11b0]; go_meet))
                case rel => exact ⟨_, (true), (by first | rfl | (simp; done) | (simp [*]; done)), H', ⟨by have := HJ2.out; have := HK2.out; first | omega | exact Nat.le_refl _⟩, ⟨by repeat (first | (with_reducible first | exact HB.out | apply below_alloc | apply pw_below_drewN | apply below_drew1) | exact HB.out)⟩⟩
              · rw [if_neg c11] at H
                have c11b0 : (t202.toList == ([] : List UInt8)) = false := beq_eq_false_iff_ne.mpr c11
                have c11b1 : (t202.toList != ([] : List UInt8)) = true := bne_iff_ne.mpr c11
                (first | rw [c11b0] | (simp only [i64_w, i32_w]; rw [c11b0]) | skip)
                by_cases c12 : 0 < (t202.size : Int)
                · rw [if_pos c12] at H
                  have c12b0 : decide (0 < (t202.size : Int)) = true := decide_eq_true c12
                  have c12b1 : decide (0 < t202.size) = true := decide_eq_true (by omega)
                  clear c12
                  have H' := Aside0.mk H
                  clear H
                  have p13 : 0 ≤ (0 : Int) := (by omega)
                  have q13 : 0 < t202.size := (by have : (0 : Int) < (t202.size : Int) := of_decide_eq_true (by first | (with_reducible assumption) | assumption); omega)
                  have hx13 : ∀ h : 0 < t202.size, ((t202[0]'h).toNat : Int) = bt t202 0 := bt_at t202 0
                  clear p13
                  have qi13 : (0 < (t202.size : Int)) = True := eq_true (of_decide_eq_true (by first | (with_reducible assumption) | assumption))
                  replace q13 := eq_true q13
                  go_wp2
                  (first | go_meet | (rw [← c11b0]; go_meet))
                  case rel => exact ⟨_, (((bt t202 0) != 34)), (by first | rfl | (simp; done) | (simp [*]; done)), H', ⟨by have := HJ2.out; have := HK2.out; first | omega | exact Nat.le_refl _⟩, ⟨by repeat (first | (with_reducible first | exact HB.out | apply below_alloc | apply pw_below_drewN | apply below_drew1) | exact HB.out)⟩⟩
                · rw [if_neg c12] at H
                  exact absurd H (by simp)
            case rest =>
              clear HC10
              try clear c1
              try clear p1
              try clear q1
              try clear hx1
              try clear qi1
              try clear p2
              try clear c3
              try clear c4
              try clear c4b0
              try clear c4b1
              try clear c5
              try clear c5b0
              try clear c5b1
              try clear p6
              try clear q6
              try clear hx6
              try clear qi6
              try clear c7
              try clear c8
              try clear c8b0
              try clear c8b1
              try clear c11
              try clear c11b0
              try clear c11b1
              try clear c12
              try clear c12b0
              try clear c12b1
              try clear c13
              try clear p13
              try clear q13
              try clear hx13
              try clear qi13
              try clear p13
              try clear p2
              try clear p6
              try clear q13
              try clear q6
              obtain ⟨kq, x25_9, rfl, HA, HJ9, HB⟩ := hcut
              cases kq with
              | zero => exact absurd HA.out (by simp [laws_fjMembers.j2])
              | succ kj9 =>
                have H := HA.out
                clear HA
                simp only [laws_fjMembers.j2] at H
                by_cases c14 : x25_9 = true
                · subst c14
                  have H1 : (some ((⟨#[]⟩ : ByteArray), false)) = some (r1, r2) := by rw [if_pos rfl] at H; exact H
                  clear H
                  have H := H1
                  clear H1
                  simp only [Option.some.injEq, Prod.mk.injEq] at H
                  obtain ⟨rfl, rfl⟩ := H
                  go_wp2
                  go_ret2
                  exact ⟨by first | rfl | (simp [errX_none, errX_some] <;> rfl) | (simp [*, errX_none, errX_some] <;> rfl), by repeat (first | (with_reducible first | exact HB.out | apply below_alloc | apply pw_below_drewN | apply below_drew1) | exact HB.out)⟩
                · replace c14 := Bool.eq_false_iff.mpr c14
                  subst c14
                  have H1 : (if 1 ≤ (t202.size : Int) then ((impl_FjCheckKey.f kj9 (t202.extract 1 t202.size)).bind fun bt203 => (if bt203.2 = true then (if (bt203.1.size : Int) ≥ (t202.size : Int) then (laws_fjMembers.j3 kj9 t202 bt203.1 true) else (if 0 ≤ (wrap64 ((t202.size : Int) - (bt203.1.size : Int))) then (if (wrap64 ((t202.size : Int) - (bt203.1.size : Int))) ≤ (t202.size : Int) then ((laws_low.f kj9 (t202.extract 0 ((wrap64 ((t202.size : Int) - (bt203.1.size : Int))) : Int).toNat)).bind fun t205 => (laws_fjMembers.j3 kj9 t202 bt203.1 t205)) else (none)) else (none))) else (laws_fjMembers.j3 kj9 t202 bt203.1 true))) else (none)) = some (r1, r2) := by rw [if_neg (show ¬ (false = true) by decide)] at H; exact H
                  clear H
                  have H := H1
                  clear H1
                  by_cases c15 : 1 ≤ (t202.size : Int)
                  · rw [if_pos c15] at H
                    have c15b0 := eq_true c15
                    have c15b1 : decide (1 ≤ (t202.size : Int)) = true := decide_eq_true c15
                    clear c15
                    replace H := Option.bind_eq_some_iff.mp H
                    obtain ⟨⟨t203, t204⟩, A160, H⟩ := H
                    replace H : (if t204 = true then (if (t203.size : Int) ≥ (t202.size : Int) then (laws_fjMembers.j3 kj9 t202 t203 true) else (if 0 ≤ (wrap64 ((t202.size : Int) - (t203.size : Int))) then (if (wrap64 ((t202.size : Int) - (t203.size : Int))) ≤ (t202.size : Int) then ((laws_low.f kj9 (t202.extract 0 ((wrap64 ((t202.size : Int) - (t203.size : Int))) : Int).toNat)).bind fun t205 => (laws_fjMembers.j3 kj9 t202 t203 t205)) else (none)) else (none))) else (laws_fjMembers.j3 kj9 t202 t203 true)) = some (r1, r2) := H
                    have A16 := Aside0.mk A160
                    clear A160
                    have HC17 := Aside0.mk H
                    clear H
                    go_upto_region 8 with (first | ((with_reducible refine gate_callee (f := 34) rfl ?_); refine goesL_ (some 29) rfl rfl Tryd.func34 (by kernel_rfl) rfl #[.string (t202.extract 1 t202.size)] rfl (by (try simp only [List.map_toArray, List.map_cons, List.map_nil]); first | done | rfl | (simp only [List.length_drop, List.length_take]; rfl)) ?_; (with_reducible refine (impl_FjCheckKey.calls kj9 (t202.extract 1 t202.size) t203 t204 _ ?side1 A16.out).mono ?_); (case side1 => exact Laid.below HLD.out (by repeat (first | (with_reducible first | exact HB.out | apply below_alloc | apply pw_below_drewN | apply below_drew1) | exact HB.out))); rintro e w18 ⟨rfl, hb⟩; refine ⟨_, rfl, ?_⟩; have n0_ := Aside0.mk (below_step (by repeat (first | (with_reducible first | exact HB.out | apply below_alloc | apply pw_below_drewN | apply below_drew1) | exact HB.out)) hb); clear HB; have HB := n0_; clear n0_; (try clear hb); (try clear hb2); (try clear hk); (try clear hi)))
                    (try simp only [Act.put, List.setIfInBounds_toArray, List.set_cons_zero, List.set_cons_succ])
                    go_cut [50] (fun v50 wc => ∃ (kq : Nat) (x50_16 : Bool), v50 = .bool x50_16 ∧ Aside0 (laws_fjMembers.j3 kq t202 t203 x50_16 = some (r1, r2)) ∧ Aside0 (kq ≤ kj9) ∧ Aside0 (Below w.heap.size w wc))
                    case first =>
                      have H := HC17.out
                      clear HC17
                      by_cases c19 : t204 = true
                      · subst c19
                        have H1 : (if (t203.size : Int) ≥ (t202.size : Int) then (laws_fjMembers.j3 kj9 t202 t203 true) else (if 0 ≤ (wrap64 ((t202.size : Int) - (t203.size : Int))) then (if (wrap64 ((t202.size : Int) - (t203.size : Int))) ≤ (t202.size : Int) then ((laws_low.f kj9 (t202.extract 0 ((wrap64 ((t202.size : Int) - (t203.size : Int))) : Int).toNat)).bind fun t205 => (laws_fjMembers.j3 kj9 t202 t203 t205)) else (none)) else (none))) = some (r1, r2) := by rw [if_pos rfl] at H; exact H
                        clear H
                        have H := H1
                        clear H1
                        by_cases c20 : (t203.size : Int) ≥ (t202.size : Int)
                        · rw [if_pos c20] at H
                          have c20b0 : decide ((t202.size : Int) ≤ (t203.size : Int)) = true := decide_eq_true c20
                          have c20b1 : decide (t202.size ≤ t203.size) = true := decide_eq_true (Int.ofNat_le.mp c20)
                          clear c20
                          (first | rw [c20b0] | (simp only [i64_w, i32_w]; rw [c20b0]) | skip)
                          have H' := Aside0.mk H
                          clear H
                          go_wp2
                          (first | go_meet)
                          case rel => exact ⟨_, (true), (by first | rfl | (simp; done) | (simp [*]; done)), H', ⟨by have := HJ2.out; have := HK2.out; have := HJ9.out; first | omega | exact Nat.le_refl _⟩, ⟨by repeat (first | (with_reducible first | exact HB.out | apply below_alloc | apply pw_below_drewN | apply below_drew1) | exact HB.out)⟩⟩
                        · rw [if_neg c20] at H
                          have c20b0 : decide ((t202.size : Int) ≤ (t203.size : Int)) = false := decide_eq_false c20
                          have c20b1 : decide (t202.size ≤ t203.size) = false := decide_eq_false (fun h => c20 (Int.ofNat_le.mpr h))
                          clear c20
                          (first | rw [c20b0] | (simp only [i64_w, i32_w]; rw [c20b0]) | skip)
                          obtain ⟨ji21, hji21⟩ : ∃ j_ : Int, (wrap64 ((t202.size : Int) - (t203.size : Int))) = j_ := ⟨_, rfl⟩
                          replace H : (if 0 ≤ (ji21) then (if (ji21) ≤ (t202.size : Int) then ((laws_low.f kj9 (t202.extract 0 ((ji21) : Int).toNat)).bind fun t205 => (laws_fjMembers.j3 kj9 t202 t203 t205)) else (none)) else (none)) = some (r1, r2) := by first | (rw [hji21] at H; exact H) | (simp only [hji21] at H ⊢; exact H)
                          have hji21w : (IntKind.i64.wrap ((t202.size : Int) - (t203.size : Int))) = ji21 := (i64_w _).trans hji21
                          by_cases c22 : 0 ≤ (ji21)
                          · rw [if_pos c22] at H
                            have c22b0 := eq_true c22
                            have c22b1 : decide (0 ≤ (ji21)) = true := decide_eq_true c22
                            clear c22
                            by_cases c23 : (ji21) ≤ (t202.size : Int)
                            · rw [if_pos c23] at H
                              have c23b0 := eq_true c23
                              have c23b1 : decide ((ji21) ≤ (t202.size : Int)) = true := decide_eq_true c23
                              clear c23
                              replace H := Option.bind_eq_some_iff.mp H
                              obtain ⟨t205, A240, H⟩ := H
                              replace H : (laws_fjMembers.j3 kj9 t202 t203 t205) = some (r1, r2) := H
                              have A24 := Aside0.mk A240
                              clear A240
                              have H' := Aside0.mk H
                              clear H
                              go_wp2_with (first | (go_at_call 35; (with_reducible refine (laws_low.calls kj9 (t202.extract 0 ((ji21) : Int).toNat) t205 _ A24.out).mono ?_); rintro e w' ⟨rfl, ⟨nd, rfl⟩⟩))
                              (first | go_meet)
                              case rel => exact ⟨_, (t205), (by first | rfl | (simp; done) | (simp [*]; done)), H', ⟨by have := HJ2.out; have := HK2.out; have := HJ9.out; first | omega | exact Nat.le_refl _⟩, ⟨by repeat (first | (with_reducible first | exact HB.out | apply below_alloc | apply pw_below_drewN | apply below_drew1) | exact HB.out)⟩⟩
                            · rw [if_neg c23] at H
                              exact absurd H (by simp)
                          · rw [if_neg c22] at H
                            exact absurd H (by simp)
                      · replace c19 := Bool.eq_false_iff.mpr c19
                        subst c19
                        have H1 : (laws_fjMembers.j3 kj9 t202 t203 true) = some (r1, r2) := by rw [if_neg (show ¬ (false = true) by decide)] at H; exact H
                        clear H
                        have H := H1
                        clear H1
                        have H' := Aside0.mk H
                        clear H
                        go_wp2
                        (first | go_meet)
                        case rel => exact ⟨_, (true), (by first | rfl | (simp; done) | (simp [*]; done)), H', ⟨by have := HJ2.out; have := HK2.out; have := HJ9.out; first | omega | exact Nat.le_refl _⟩, ⟨by repeat (first | (with_reducible first | exact HB.out | apply below_alloc | apply pw_below_drewN | apply below_drew1) | exact HB.out)⟩⟩
                    case rest =>
                      clear HC17
                      try clear c1
                      try clear p1
                      try clear q1
                      try clear hx1
                      try clear qi1
                      try clear c2
                      try clear p2
                      try clear c3
                      try clear c4
                      try clear c4b0
                      try clear c4b1
                      try clear c5
                      try clear c5b0
                      try clear c5b1
                      try clear p6
                      try clear q6
                      try clear hx6
                      try clear qi6
                      try clear c7
                      try clear c8
                      try clear c8b0
                      try clear c8b1
                      try clear c11
                      try clear c11b0
                      try clear c11b1
                      try clear c12
                      try clear c12b0
                      try clear c12b1
                      try clear c13
                      try clear p13
                      try clear q13
                      try clear hx13
                      try clear qi13
                      try clear c14
                      try clear c15
                      try clear c15b0
                      try clear c15b1
                      try clear c19
                      try clear c20
                      try clear c20b0
                      try clear c20b1
                      try clear c22
                      try clear c22b0
                      try clear c22b1
                      try clear c23
                      try clear c23b0
                      try clear c23b1
                      try clear p1
                      try clear p13
                      try clear p2
                      try clear p6
                      try clear q1
                      try clear q13
                      try clear q6
                      obtain ⟨kq, x50_16, rfl, HA, HJ16, HB⟩ := hcut
                      cases kq with
                      | zero => exact absurd HA.out (by simp [laws_fjMembers.j3])
                      | succ kj16 =>
                        have H := HA.out
                        clear HA
                        simp only [laws_fjMembers.j3] at H
                        by_cases c25 : x50_16 = true
                        · subst c25
                          have H1 : (some ((⟨#[]⟩ : ByteArray), false)) = some (r1, r2) := by rw [if_pos rfl] at H; exact H
                          clear H
                          have H := H1
                          clear H1
                          simp only [Option.some.injEq, Prod.mk.injEq] at H
                          obtain ⟨rfl, rfl⟩ := H
                          go_wp2
                          go_ret2
                          exact ⟨by first | rfl | (simp [errX_none, errX_some] <;> rfl) | (simp [*, errX_none, errX_some] <;> rfl), by repeat (first | (with_reducible first | exact HB.out | apply below_alloc | apply pw_below_drewN | apply below_drew1) | exact HB.out)⟩
                        · replace c25 := Bool.eq_false_iff.mpr c25
                          subst c25
                          have H1 : ((impl_FjSkip.f kj16 t203).bind fun t206 => (if t206.toList = ([] : List UInt8) then (laws_fjMembers.j4 kj16 t202 t206 true) else (if 0 < (t206.size : Int) then (laws_fjMembers.j4 kj16 t202 t206 ((bt t206 0) != 58)) else (none)))) = some (r1, r2) := by rw [if_neg (show ¬ (false = true) by decide)] at H; exact H
                          clear H
                          have H := H1
                          clear H1
                          replace H := Option.bind_eq_some_iff.mp H
                          obtain ⟨t206, A260, H⟩ := H
                          replace H : (if t206.toList = ([] : List UInt8) then (laws_fjMembers.j4 kj16 t202 t206 true) else (if 0 < (t206.size : Int) then (laws_fjMembers.j4 kj16 t202 t206 ((bt t206 0) != 58)) else (none))) = some (r1, r2) := H
                          have A26 := Aside0.mk A260
                          clear A260
                          have HC27 := Aside0.mk H
                          clear H
                          go_upto_region 11 with (first | ((with_reducible refine gate_callee (f := 33) rfl ?_); refine goesL_ (some 52) rfl rfl Tryd.func33 (by kernel_rfl) rfl #[.string t203] rfl (by (try simp only [List.map_toArray, List.map_cons, List.map_nil]); first | done | rfl | (simp only [List.length_drop, List.length_take]; rfl)) ?_; (with_reducible refine (impl_FjSkip.calls kj16 t203 t206 _ A26.out).mono ?_); rintro e w' ⟨rfl, ⟨nd, rfl⟩⟩; refine ⟨_, rfl, ?_⟩))
                          (try simp only [Act.put, List.setIfInBounds_toArray, List.set_cons_zero, List.set_cons_succ])
                          go_cut [59] (fun v59 wc => ∃ (kq : Nat) (x59_26 : Bool), v59 = .bool x59_26 ∧ Aside0 (laws_fjMembers.j4 kq t202 t206 x59_26 = some (r1, r2)) ∧ Aside0 (kq ≤ kj16) ∧ Aside0 (Below w.heap.size w wc))
                          case first =>
                            have H := HC27.out
                            clear HC27
                            by_cases c28 : t206.toList = ([] : List UInt8)
                            · rw [if_pos c28] at H
                              have c28b0 : (t206.toList == ([] : List UInt8)) = true := beq_iff_eq.mpr c28
                              have c28b1 : (t206.toList != ([] : List UInt8)) = false := bne_eq_false_iff_eq.mpr c28
                              clear c28
                              (first | rw [c28b0] | (simp only [i64_w, i32_w]; rw [c28b0]) | skip)
                              have H' := Aside0.mk H
                              clear H
                              go_wp2
                              (first | go_meet | (rw [← c28b0]; go_meet))
                              case rel => exact ⟨_, (true), (by first | rfl | (simp; done) | (simp [*]; done)), H', ⟨by have := HJ2.out; have := HK2.out; have := HJ9.out; have := HJ16.out; first | omega | exact Nat.le_refl _⟩, ⟨by repeat (first | (with_reducible first | exact HB.out | apply below_alloc | apply pw_below_drewN | apply below_drew1) | exact HB.out)⟩⟩
                            · rw [if_neg c28] at H
                              have c28b0 : (t206.toList == ([] : List UInt8)) = false := beq_eq_false_iff_ne.mpr c28
                              have c28b1 : (t206.toList != ([] : List UInt8)) = true := bne_iff_ne.mpr c28
                              (first | rw [c28b0] | (simp only [i64_w, i32_w]; rw [c28b0]) | skip)
                              by_cases c29 : 0 < (t206.size : Int)
                              · rw [if_pos c29] at H
                                have c29b0 : decide (0 < (t206.size : Int)) = true := decide_eq_true c29
                                have c29b1 : decide (0 < t206.size) = true := decide_eq_true (by omega)
                                clear c29
                                have H' := Aside0.mk H
                                clear H
                                have p30 : 0 ≤ (0 : Int) := (by omega)
                                have q30 : 0 < t206.size := (by have : (0 : Int) < (t206.size : Int) := of_decide_eq_true (by first | (with_reducible assumption) | assumption); omega)
                                have hx30 : ∀ h : 0 < t206.size, ((t206[0]'h).toNat : Int) = bt t206 0 := bt_at t206 0
                                clear p30
                                have qi30 : (0 < (t206.size : Int)) = True := eq_true (of_decide_eq_true (by first | (with_reducible assumption) | assumption))
                                replace q30 := eq_true q30
                                go_wp2
                                (first | go_meet | (rw [← c28b0]; go_meet))
                                case rel => exact ⟨_, (((bt t206 0) != 58)), (by first | rfl | (simp; done) | (simp [*]; done)), H', ⟨by have := HJ2.out; have := HK2.out; have := HJ9.out; have := HJ16.out; first | omega | exact Nat.le_refl _⟩, ⟨by repeat (first | (with_reducible first | exact HB.out | apply below_alloc | apply pw_below_drewN | apply below_drew1) | exact HB.out)⟩⟩
                              · rw [if_neg c29] at H
                                exact absurd H (by simp)
                          case rest =>
                            clear HC27
                            try clear c1
                            try clear p1
                            try clear q1
                            try clear hx1
                            try clear qi1
                            try clear c2
                            try clear p2
                            try clear c3
                            try clear p3
                            try clear q3
                            try clear hx3
                            try clear qi3
                            try clear c4
                            try clear c4b0
                            try clear c4b1
                            try clear c5
                            try clear c5b0
                            try clear c5b1
                            try clear p6
                            try clear q6
                            try clear hx6
                            try clear qi6
                            try clear c7
                            try clear c8
                            try clear c8b0
                            try clear c8b1
                            try clear c11
                            try clear c11b0
                            try clear c11b1
                            try clear c12
                            try clear c12b0
                            try clear c12b1
                            try clear c13
                            try clear p13
                            try clear q13
                            try clear hx13
                            try clear qi13
                            try clear c14
                            try clear c15
                            try clear c15b0
                            try clear c15b1
                            try clear c19
                            try clear c20
                            try clear c20b0
                            try clear c20b1
                            try clear c22
                            try clear c22b0
                            try clear c22b1
                            try clear c23
                            try clear c23b0
                            try clear c23b1
                            try clear c25
                            try clear c28
                            try clear c28b0
                            try clear c28b1
                            try clear c29
                            try clear c29b0
                            try clear c29b1
                            try clear p30
                            try clear q30
                            try clear hx30
                            try clear qi30
                            try clear p1
                            try clear p13
                            try clear p2
                            try clear p30
                            try clear p6
                            try clear q1
                            try clear q13
                            try clear q30
                            try clear q6
                            obtain ⟨kq, x59_26, rfl, HA, HJ26, HB⟩ := hcut
                            cases kq with
                            | zero => exact absurd HA.out (by simp [laws_fjMembers.j4])
                            | succ kj26 =>
                              have H := HA.out
                              clear HA
                              simp only [laws_fjMembers.j4] at H
                              by_cases c31 : x59_26 = true
                              · subst c31
                                have H1 : (some ((⟨#[]⟩ : ByteArray), false)) = some (r1, r2) := by rw [if_pos rfl] at H; exact H
                                clear H
                                have H := H1
                                clear H1
                                simp only [Option.some.injEq, Prod.mk.injEq] at H
                                obtain ⟨rfl, rfl⟩ := H
                                go_wp2
                                go_ret2
                                exact ⟨by first | rfl | (simp [errX_none, errX_some] <;> rfl) | (simp [*, errX_none, errX_some] <;> rfl), by repeat (first | (with_reducible first | exact HB.out | apply below_alloc | apply pw_below_drewN | apply below_drew1) | exact HB.out)⟩
                              · replace c31 := Bool.eq_false_iff.mpr c31
                                subst c31
                                have H1 : (if 1 ≤ (t206.size : Int) then ((impl_FjSkip.f kj26 (t206.extract 1 t206.size)).bind fun t207 => ((impl_FjCheckValue.f kj26 t207).bind fun bt208 => (if bt208.2 = true then (laws_fjMembers.j5 kj26 bt208.1 (decide ((bt208.1.size : Int) ≥ (t202.size : Int)))) else (laws_fjMembers.j5 kj26 bt208.1 true)))) else (none)) = some (r1, r2) := by rw [if_neg (show ¬ (false = true) by decide)] at H; exact H
                                clear H
                                have H := H1
                                clear H1
                                by_cases c32 : 1 ≤ (t206.size : Int)
                                · rw [if_pos c32] at H
                                  have c32b0 := eq_true c32
                                  have c32b1 : decide (1 ≤ (t206.size : Int)) = true := decide_eq_true c32
                                  clear c32
                                  replace H := Option.bind_eq_some_iff.mp H
                                  obtain ⟨t207, A330, H⟩ := H
                                  replace H : ((impl_FjCheckValue.f kj26 t207).bind fun bt208 => (if bt208.2 = true then (laws_fjMembers.j5 kj26 bt208.1 (decide ((bt208.1.size : Int) ≥ (t202.size : Int)))) else (laws_fjMembers.j5 kj26 bt208.1 true))) = some (r1, r2) := H
                                  have A33 := Aside0.mk A330
                                  clear A330
                                  replace H := Option.bind_eq_some_iff.mp H
                                  obtain ⟨⟨t208, t209⟩, A340, H⟩ := H
                                  replace H : (if t209 = true then (laws_fjMembers.j5 kj26 t208 (decide ((t208.size : Int) ≥ (t202.size : Int)))) else (laws_fjMembers.j5 kj26 t208 true)) = some (r1, r2) := H
                                  have A34 := Aside0.mk A340
                                  clear A340
                                  have HC35 := Aside0.mk H
                                  clear H
                                  go_upto_region 14 with (first | ((with_reducible refine gate_callee (f := 33) rfl ?_); refine goesL_ (some 63) rfl rfl Tryd.func33 (by kernel_rfl) rfl #[.string (t206.extract 1 t206.size)] rfl (by (try simp only [List.map_toArray, List.map_cons, List.map_nil]); first | done | rfl | (simp only [List.length_drop, List.length_take]; rfl)) ?_; (with_reducible refine (impl_FjSkip.calls kj26 (t206.extract 1 t206.size) t207 _ A33.out).mono ?_); rintro e w' ⟨rfl, ⟨nd, rfl⟩⟩; refine ⟨_, rfl, ?_⟩) | ((with_reducible refine gate_callee (f := 36) rfl ?_); refine goesL_ (some 64) rfl rfl Tryd.func36 (by kernel_rfl) rfl #[.string t207] rfl (by (try simp only [List.map_toArray, List.map_cons, List.map_nil]); first | done | rfl | (simp only [List.length_drop, List.length_take]; rfl)) ?_; (with_reducible refine (impl_FjCheckValue.calls kj26 t207 t208 t209 _ ?side1 A34.out).mono ?_); (case side1 => exact Laid.below HLD.out (by repeat (first | (with_reducible first | exact HB.out | apply below_alloc | apply pw_below_drewN | apply below_drew1) | exact HB.out))); rintro e w36 ⟨rfl, hb⟩; refine ⟨_, rfl, ?_⟩; have n0_ := Aside0.mk (below_step (by repeat (first | (with_reducible first | exact HB.out | apply below_alloc | apply pw_below_drewN | apply below_drew1) | exact HB.out)) hb); clear HB; have HB := n0_; clear n0_; (try clear hb); (try clear hb2); (try clear hk); (try clear hi)))
                                  (try simp only [Act.put, List.setIfInBounds_toArray, List.set_cons_zero, List.set_cons_succ])
                                  go_cut [75] (fun v75 wc => ∃ (kq : Nat) (x75_34 : Bool), v75 = .bool x75_34 ∧ Aside0 (laws_fjMembers.j5 kq t208 x75_34 = some (r1, r2)) ∧ Aside0 (kq ≤ kj26) ∧ Aside0 (Below w.heap.size w wc))
                                  case first =>
                                    have H := HC35.out
                                    clear HC35
                                    by_cases c37 : t209 = true
                                    · subst c37
                                      have H1 : (laws_fjMembers.j5 kj26 t208 (decide ((t208.size : Int) ≥ (t202.size : Int)))) = some (r1, r2) := by rw [if_pos rfl] at H; exact H
                                      clear H
                                      have H := H1
                                      clear H1
                                      have H' := Aside0.mk H
                                      clear H
                                      go_wp2
                                      (first | go_meet)
                                      case rel => exact ⟨_, (decide ((t208.size : Int) ≥ (t202.size : Int))), (by first | rfl | (simp; done) | (simp [*]; done)), H', ⟨by have := HJ2.out; have := HK2.out; have := HJ9.out; have := HJ16.out; have := HJ26.out; first | omega | exact Nat.le_refl _⟩, ⟨by repeat (first | (with_reducible first | exact HB.out | apply below_alloc | apply pw_below_drewN | apply below_drew1) | exact HB.out)⟩⟩
                                    · replace c37 := Bool.eq_false_iff.mpr c37
                                      subst c37
                                      have H1 : (laws_fjMembers.j5 kj26 t208 true) = some (r1, r2) := by rw [if_neg (show ¬ (false = true) by decide)] at H; exact H
                                      clear H
                                      have H := H1
                                      clear H1
                                      have H' := Aside0.mk H
                                      clear H
                                      go_wp2
                                      (first | go_meet)
                                      case rel => exact ⟨_, (true), (by first | rfl | (simp; done) | (simp [*]; done)), H', ⟨by have := HJ2.out; have := HK2.out; have := HJ9.out; have := HJ16.out; have := HJ26.out; first | omega | exact Nat.le_refl _⟩, ⟨by repeat (first | (with_reducible first | exact HB.out | apply below_alloc | apply pw_below_drewN | apply below_drew1) | exact HB.out)⟩⟩
                                  case rest =>
                                    clear HC35
                                    try clear c1
                                    try clear p1
                                    try clear q1
                                    try clear hx1
                                    try clear qi1
                                    try clear c2
                                    try clear p2
                                    try clear c3
                                    try clear p3
                                    try clear q3
                                    try clear hx3
                                    try clear qi3
                                    try clear c4
                                    try clear c4b0
                                    try clear c4b1
                                    try clear c5
                                    try clear c5b0
                                    try clear c5b1
                                    try clear p6
                                    try clear q6
                                    try clear hx6
                                    try clear qi6
                                    try clear c7
                                    try clear c8
                                    try clear c8b0
                                    try clear c8b1
                                    try clear c11
                                    try clear c11b0
                                    try clear c11b1
                                    try clear c12
                                    try clear c12b0
                                    try clear c12b1
                                    try clear c13
                                    try clear p13
                                    try clear q13
                                    try clear hx13
                                    try clear qi13
                                    try clear c14
                                    try clear c15
                                    try clear c15b0
                                    try clear c15b1
                                    try clear c19
                                    try clear c20
                                    try clear c20b0
                                    try clear c20b1
                                    try clear c22
                                    try clear c22b0
                                    try clear c22b1
                                    try clear c23
                                    try clear c23b0
                                    try clear c23b1
                                    try clear c25
                                    try clear c28
                                    try clear c28b0
                                    try clear c28b1
                                    try clear c29
                                    try clear c29b0
                                    try clear c29b1
                                    try clear p30
                                    try clear q30
                                    try clear hx30
                                    try clear qi30
                                    try clear c31
                                    try clear c32
                                    try clear c32b0
                                    try clear c32b1
                                    try clear c33
                                    try clear c34
                                    try clear c36
                                    try clear c37
                                    try clear p1
                                    try clear p13
                                    try clear p2
                                    try clear p3
                                    try clear p30
                                    try clear p6
                                    try clear q1
                                    try clear q13
                                    try clear q3
                                    try clear q30
                                    try clear q6
                                    obtain ⟨kq, x75_34, rfl, HA, HJ34, HB⟩ := hcut
                                    cases kq with
                                    | zero => exact absurd HA.out (by simp [laws_fjMembers.j5])
                                    | succ kj34 =>
                                      have H := HA.out
                                      clear HA
                                      simp only [laws_fjMembers.j5] at H
                                      by_cases c38 : x75_34 = true
                                      · subst c38
                                        have H1 : (some ((⟨#[]⟩ : ByteArray), false)) = some (r1, r2) := by rw [if_pos rfl] at H; exact H
                                        clear H
                                        have H := H1
                                        clear H1
                                        simp only [Option.some.injEq, Prod.mk.injEq] at H
                                        obtain ⟨rfl, rfl⟩ := H
                                        go_wp2
                                        go_ret2
                                        exact ⟨by first | rfl | (simp [errX_none, errX_some] <;> rfl) | (simp [*, errX_none, errX_some] <;> rfl), by repeat (first | (with_reducible first | exact HB.out | apply below_alloc | apply pw_below_drewN | apply below_drew1) | exact HB.out)⟩
                                      · replace c38 := Bool.eq_false_iff.mpr c38
                                        subst c38
                                        have H1 : ((impl_FjSkip.f kj34 t208).bind fun t210 => (if t210.toList = ([] : List UInt8) then (laws_fjMembers.j6 kj34 t210 true) else (if 0 < (t210.size : Int) then (if (bt t210 0) = 44 then (laws_fjMembers.j6 kj34 t210 false) else (laws_fjMembers.j6 kj34 t210 ((bt t210 0) != 125))) else (none)))) = some (r1, r2) := by rw [if_neg (show ¬ (false = true) by decide)] at H; exact H
                                        clear H
                                        have H := H1
                                        clear H1
                                        replace H := Option.bind_eq_some_iff.mp H
                                        obtain ⟨t210, A390, H⟩ := H
                                        replace H : (if t210.toList = ([] : List UInt8) then (laws_fjMembers.j6 kj34 t210 true) else (if 0 < (t210.size : Int) then (if (bt t210 0) = 44 then (laws_fjMembers.j6 kj34 t210 false) else (laws_fjMembers.j6 kj34 t210 ((bt t210 0) != 125))) else (none))) = some (r1, r2) := H
                                        have A39 := Aside0.mk A390
                                        clear A390
                                        have HC40 := Aside0.mk H
                                        clear H
                                        go_upto_region 17 with (first | ((with_reducible refine gate_callee (f := 33) rfl ?_); refine goesL_ (some 77) rfl rfl Tryd.func33 (by kernel_rfl) rfl #[.string t208] rfl (by (try simp only [List.map_toArray, List.map_cons, List.map_nil]); first | done | rfl | (simp only [List.length_drop, List.length_take]; rfl)) ?_; (with_reducible refine (impl_FjSkip.calls kj34 t208 t210 _ A39.out).mono ?_); rintro e w' ⟨rfl, ⟨nd, rfl⟩⟩; refine ⟨_, rfl, ?_⟩))
                                        (try simp only [Act.put, List.setIfInBounds_toArray, List.set_cons_zero, List.set_cons_succ])
                                        go_cut [89] (fun v89 wc => ∃ (kq : Nat) (x89_39 : Bool), v89 = .bool x89_39 ∧ Aside0 (laws_fjMembers.j6 kq t210 x89_39 = some (r1, r2)) ∧ Aside0 (kq ≤ kj34) ∧ Aside0 (Below w.heap.size w wc))
                                        case first =>
                                          have H := HC40.out
                                          clear HC40
                                          by_cases c41 : t210.toList = ([] : List UInt8)
                                          · rw [if_pos c41] at H
                                            have c41b0 : (t210.toList == ([] : List UInt8)) = true := beq_iff_eq.mpr c41
                                            have c41b1 : (t210.toList != ([] : List UInt8)) = false := bne_eq_false_iff_eq.mpr c41
                                            clear c41
                                            (first | rw [c41b0] | (simp only [i64_w, i32_w]; rw [c41b0]) | skip)
                                            have H' := Aside0.mk H
                                            clear H
                                            go_wp2
                                            (first | go_meet | (rw [← c41b0]; go_meet))
                                            case rel => exact ⟨_, (true), (by first | rfl | (simp; done) | (simp [*]; done)), H', ⟨by have := HJ2.out; have := HK2.out; have := HJ9.out; have := HJ16.out; have := HJ26.out; have := HJ34.out; first | omega | exact Nat.le_refl _⟩, ⟨by repeat (first | (with_reducible first | exact HB.out | apply below_alloc | apply pw_below_drewN | apply below_drew1) | exact HB.out)⟩⟩
                                          · rw [if_neg c41] at H
                                            have c41b0 : (t210.toList == ([] : List UInt8)) = false := beq_eq_false_iff_ne.mpr c41
                                            have c41b1 : (t210.toList != ([] : List UInt8)) = true := bne_iff_ne.mpr c41
                                            (first | rw [c41b0] | (simp only [i64_w, i32_w]; rw [c41b0]) | skip)
                                            by_cases c42 : 0 < (t210.size : Int)
                                            · rw [if_pos c42] at H
                                              have c42b0 : decide (0 < (t210.size : Int)) = true := decide_eq_true c42
                                              have c42b1 : decide (0 < t210.size) = true := decide_eq_true (by omega)
                                              clear c42
                                              by_cases c44 : (bt t210 0) = 44
                                              · rw [if_pos c44] at H
                                                have c44b0 : ((bt t210 0) == 44) = true := beq_iff_eq.mpr c44
                                                have c44b1 : ((bt t210 0) != 44) = false := bne_eq_false_iff_eq.mpr c44
                                                clear c44
                                                have H' := Aside0.mk H
                                                clear H
                                                have p43 : 0 ≤ (0 : Int) := (by omega)
                                                have q43 : 0 < t210.size := (by have : (0 : Int) < (t210.size : Int) := of_decide_eq_true (by first | (with_reducible assumption) | assumption); omega)
                                                have hx43 : ∀ h : 0 < t210.size, ((t210[0]'h).toNat : Int) = bt t210 0 := bt_at t210 0
                                                clear p43
                                                have qi43 : (0 < (t210.size : Int)) = True := eq_true (of_decide_eq_true (by first | (with_reducible assumption) | assumption))
                                                replace q43 := eq_true q43
                                                go_wp2
                                                (first | go_meet | (rw [← c41b0]; go_meet) | (rw [← c44b0]; go_meet))
                                                case rel => exact ⟨_, (false), (by first | rfl | (simp; done) | (simp [*]; done)), H', ⟨by have := HJ2.out; have := HK2.out; have := HJ9.out; have := HJ16.out; have := HJ26.out; have := HJ34.out; first | omega | exact Nat.le_refl _⟩, ⟨by repeat (first | (with_reducible first | exact HB.out | apply below_alloc | apply pw_below_drewN | apply below_drew1) | exact HB.out)⟩⟩
                                              · rw [if_neg c44] at H
                                                have c44b0 : ((bt t210 0) == 44) = false := beq_eq_false_iff_ne.mpr c44
                                                have c44b1 : ((bt t210 0) != 44) = true := bne_iff_ne.mpr c44
                                                have H' := Aside0.mk H
                                                clear H
                                                have p43 : 0 ≤ (0 : Int) := (by omega)
                                                have q43 : 0 < t210.size := (by have : (0 : Int) < (t210.size : Int) := of_decide_eq_true (by first | (with_reducible assumption) | assumption); omega)
                                                have hx43 : ∀ h : 0 < t210.size, ((t210[0]'h).toNat : Int) = bt t210 0 := bt_at t210 0
                                                clear p43
                                                have qi43 : (0 < (t210.size : Int)) = True := eq_true (of_decide_eq_true (by first | (with_reducible assumption) | assumption))
                                                replace q43 := eq_true q43
                                                have p45 : 0 ≤ (0 : Int) := (by omega)
                                                have q45 : 0 < t210.size := (by have : (0 : Int) < (t210.size : Int) := of_decide_eq_true (by first | (with_reducible assumption) | assumption); omega)
                                                have hx45 : ∀ h : 0 < t210.size, ((t210[0]'h).toNat : Int) = bt t210 0 := bt_at t210 0
                                                clear p45
                                                have qi45 : (0 < (t210.size : Int)) = True := eq_true (of_decide_eq_true (by first | (with_reducible assumption) | assumption))
                                                replace q45 := eq_true q45
                                                go_wp2
                                                (first | go_meet | (rw [← c41b0]; go_meet) | (rw [← c44b0]; go_meet))
                                                case rel => exact ⟨_, (((bt t210 0) != 125)), (by first | rfl | (simp; done) | (simp [*]; done)), H', ⟨by have := HJ2.out; have := HK2.out; have := HJ9.out; have := HJ16.out; have := HJ26.out; have := HJ34.out; first | omega | exact Nat.le_refl _⟩, ⟨by repeat (first | (with_reducible first | exact HB.out | apply below_alloc | apply pw_below_drewN | apply below_drew1) | exact HB.out)⟩⟩
                                            · rw [if_neg c42] at H
                                              exact absurd H (by simp)
                                        case rest =>
                                          clear HC40
                                          try clear c1
                                          try clear p1
                                          try clear q1
                                          try clear hx1
                                          try clear qi1
                                          try clear c2
                                          try clear p2
                                          try clear c3
                                          try clear p3
                                          try clear q3
                                          try clear hx3
                                          try clear qi3
                                          try clear c4
                                          try clear c4b0
                                          try clear c4b1
                                          try clear p4
                                          try clear q4
                                          try clear hx4
                                          try clear qi4
                                          try clear c5
                                          try clear c5b0
                                          try clear c5b1
                                          try clear p6
                                          try clear q6
                                          try clear hx6
                                          try clear qi6
                                          try clear c7
                                          try clear c8
                                          try clear c8b0
                                          try clear c8b1
                                          try clear c11
                                          try clear c11b0
                                          try clear c11b1
                                          try clear c12
                                          try clear c12b0
                                          try clear c12b1
                                          try clear c13
                                          try clear p13
                                          try clear q13
                                          try clear hx13
                                          try clear qi13
                                          try clear c14
                                          try clear c15
                                          try clear c15b0
                                          try clear c15b1
                                          try clear c19
                                          try clear c20
                                          try clear c20b0
                                          try clear c20b1
                                          try clear c22
                                          try clear c22b0
                                          try clear c22b1
                                          try clear c23
                                          try clear c23b0
                                          try clear c23b1
                                          try clear c25
                                          try clear c28
                                          try clear c28b0
                                          try clear c28b1
                                          try clear c29
                                          try clear c29b0
                                          try clear c29b1
                                          try clear p30
                                          try clear q30
                                          try clear hx30
                                          try clear qi30
                                          try clear c31
                                          try clear c32
                                          try clear c32b0
                                          try clear c32b1
                                          try clear c33
                                          try clear c34
                                          try clear c36
                                          try clear c37
                                          try clear c38
                                          try clear c41
                                          try clear c41b0
                                          try clear c41b1
                                          try clear c42
                                          try clear c42b0
                                          try clear c42b1
                                          try clear p43
                                          try clear q43
                                          try clear hx43
                                          try clear qi43
                                          try clear c44
                                          try clear c44b0
                                          try clear c44b1
                                          try clear p45
                                          try clear q45
                                          try clear hx45
                                          try clear qi45
                                          try clear p1
                                          try clear p13
                                          try clear p2
                                          try clear p3
                                          try clear p30
                                          try clear p43
                                          try clear p45
                                          try clear p6
                                          try clear q1
                                          try clear q13
                                          try clear q3
                                          try clear q30
                                          try clear q43
                                          try clear q45
                                          try clear q6
                                          obtain ⟨kq, x89_39, rfl, HA, HJ39, HB⟩ := hcut
                                          cases kq with
                                          | zero => exact absurd HA.out (by simp [laws_fjMembers.j6])
                                          | succ kj39 =>
                                            have H := HA.out
                                            clear HA
                                            simp only [laws_fjMembers.j6] at H
                                            by_cases c46 : x89_39 = true
                                            · subst c46
                                              have H1 : (some ((⟨#[]⟩ : ByteArray), false)) = some (r1, r2) := by rw [if_pos rfl] at H; exact H
                                              clear H
                                              have H := H1
                                              clear H1
                                              simp only [Option.some.injEq, Prod.mk.injEq] at H
                                              obtain ⟨rfl, rfl⟩ := H
                                              go_wp2
                                              go_ret2
                                              exact ⟨by first | rfl | (simp [errX_none, errX_some] <;> rfl) | (simp [*, errX_none, errX_some] <;> rfl), by repeat (first | (with_reducible first | exact HB.out | apply below_alloc | apply pw_below_drewN | apply below_drew1) | exact HB.out)⟩
                                            · replace c46 := Bool.eq_false_iff.mpr c46
                                              subst c46
                                              have H1 : (if 0 < (t210.size : Int) then (if (bt t210 0) = 125 then (if 1 ≤ (t210.size : Int) then (some (t210.extract 1 t210.size, true)) else (none)) else (if 1 ≤ (t210.size : Int) then (laws_fjMembers.l0 kj39 (t210.extract 1 t210.size)) else (none))) else (none)) = some (r1, r2) := by rw [if_neg (show ¬ (false = true) by decide)] at H; exact H
                                              clear H
                                              have H := H1
                                              clear H1
                                              by_cases c47 : 0 < (t210.size : Int)
                                              · rw [if_pos c47] at H
                                                have c47b0 : decide (0 < (t210.size : Int)) = true := decide_eq_true c47
                                                have c47b1 : decide (0 < t210.size) = true := decide_eq_true (by omega)
                                                clear c47
                                                by_cases c49 : (bt t210 0) = 125
                                                · rw [if_pos c49] at H
                                                  have c49b0 : ((bt t210 0) == 125) = true := beq_iff_eq.mpr c49
                                                  have c49b1 : ((bt t210 0) != 125) = false := bne_eq_false_iff_eq.mpr c49
                                                  clear c49
                                                  by_cases c50 : 1 ≤ (t210.size : Int)
                                                  · rw [if_pos c50] at H
                                                    have c50b0 := eq_true c50
                                                    have c50b1 : decide (1 ≤ (t210.size : Int)) = true := decide_eq_true c50
                                                    clear c50
                                                    simp only [Option.some.injEq, Prod.mk.injEq] at H
                                                    obtain ⟨rfl, rfl⟩ := H
                                                    have p48 : 0 ≤ (0 : Int) := (by omega)
                                                    have q48 : 0 < t210.size := (by have : (0 : Int) < (t210.size : Int) := of_decide_eq_true (by first | (with_reducible assumption) | assumption); omega)
                                                    have hx48 : ∀ h : 0 < t210.size, ((t210[0]'h).toNat : Int) = bt t210 0 := bt_at t210 0
                                                    clear p48
                                                    have qi48 : (0 < (t210.size : Int)) = True := eq_true (of_decide_eq_true (by first | (with_reducible assumption) | assumption))
                                                    replace q48 := eq_true q48
                                                    go_wp2
                                                    go_ret2
                                                    exact ⟨by first | rfl | (simp [errX_none, errX_some] <;> rfl) | (simp [*, errX_none, errX_some] <;> rfl), by repeat (first | (with_reducible first | exact HB.out | apply below_alloc | apply pw_below_drewN | apply below_drew1) | exact HB.out)⟩
                                                  · rw [if_neg c50] at H
                                                    exact absurd H (by simp)
                                                · rw [if_neg c49] at H
                                                  have c49b0 : ((bt t210 0) == 125) = false := beq_eq_false_iff_ne.mpr c49
                                                  have c49b1 : ((bt t210 0) != 125) = true := bne_iff_ne.mpr c49
                                                  by_cases c51 : 1 ≤ (t210.size : Int)
                                                  · rw [if_pos c51] at H
                                                    have c51b0 := eq_true c51
                                                    have c51b1 : decide (1 ≤ (t210.size : Int)) = true := decide_eq_true c51
                                                    clear c51
                                                    have H' := Aside0.mk H
                                                    clear H
                                                    have p48 : 0 ≤ (0 : Int) := (by omega)
                                                    have q48 : 0 < t210.size := (by have : (0 : Int) < (t210.size : Int) := of_decide_eq_true (by first | (with_reducible assumption) | assumption); omega)
                                                    have hx48 : ∀ h : 0 < t210.size, ((t210[0]'h).toNat : Int) = bt t210 0 := bt_at t210 0
                                                    clear p48
                                                    have qi48 : (0 < (t210.size : Int)) = True := eq_true (of_decide_eq_true (by first | (with_reducible assumption) | assumption))
                                                    replace q48 := eq_true q48
                                                    go_wp2
                                                    go_roundg kj39
                                                    case measure => have := HJ2.out; have := HK2.out; have := HJ9.out; have := HJ16.out; have := HJ26.out; have := HJ34.out; have := HJ39.out; omega
                                                    case rel => exact ⟨(t210.extract 1 t210.size), (by first | rfl | (simp; done) | (simp [*]; done)), H', ⟨by have := HJ2.out; have := HK2.out; have := HJ9.out; have := HJ16.out; have := HJ26.out; have := HJ34.out; have := HJ39.out; omega⟩, ⟨by repeat (first | (with_reducible first | exact HB.out | apply below_alloc | apply pw_below_drewN | apply below_drew1) | exact HB.out)⟩⟩
                                                  · rw [if_neg c51] at H
                                                    exact absurd H (by simp)
                                              · rw [if_neg c47] at H
                                                exact absurd H (by simp)
                                · rw [if_neg c32] at H
                                  exact absurd H (by simp)
                  · rw [if_neg c15] at H
                    exact absurd H (by simp)

end Go.Proofs.YtfmllmlloekojaaDoor.PFnFjCheckMembers
