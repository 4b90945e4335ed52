-- Written for this claim by this session's own program (wip/xprint).
import Derived.Test.YtkdpkenhhcgnbaaDoorPFnJpStringPlacex0
import Derived.Test.YtkdpkenhhcgnbaaDoorPFnJpStringPlacex5
import Derived.Test.YtkdpkenhhcgnbaaDoorPFnJpStringPlacex6
namespace Go.Proofs.YtkdpkenhhcgnbaaDoor.PFnJpStringPlace
open Go.RowKit Go.Proofs.YtkdpkenhhcgnbaaDoorW.PrintWords Go.Proofs.YtkdpkenhhcgnbaaDoorW.PrintLast Go.Proofs.YtkdpkenhhcgnbaaDoorW.PrintMore
attribute [local go_sem] max2_int min2_int max_two min_two max_three min_three max_four min_four   -- for this text's walks alone
set_option linter.unusedVariables false
set_option linter.unusedSimpArgs false

/-! ### jsonparser_DoorStringEnd: function 30 -/
def jsonparser_DoorStringEnd.f (k : Nat) (a0 : ByteArray) : Option (Int × Bool) := if a0.size ≤ 140737488355328 then ((jsonparser_stringEnd.f k (bytesOf a0)).bind fun bt311 => (some (bt311.1, bt311.2))) else (none)
theorem jsonparser_DoorStringEnd.mono : ∀ a0 k, LeO (jsonparser_DoorStringEnd.f k a0) (jsonparser_DoorStringEnd.f (k + 1) a0) := by
  intro a0 k
  unfold jsonparser_DoorStringEnd.f
  repeat' first
      | (with_reducible exact jsonparser_stringEnd.mono _ _)
      | (with_reducible exact LeO.refl _)
      | (with_reducible exact LeO.none _)
      | (with_reducible refine LeO.ite ?_ ?_)
      | (with_reducible refine LeO.bind ?_ (fun _ => ?_))
      | exact jsonparser_stringEnd.mono _ _
      | exact LeO.none _
      | refine LeO.ite ?_ ?_
      | refine LeO.bind ?_ (fun _ => ?_)
set_option maxHeartbeats 8000000 in
set_option maxRecDepth 100000 in
theorem jsonparser_DoorStringEnd.calls (k : Nat) (a0 : ByteArray) (r1 : Int) (r2 : Bool) (w : World) (hL : Laid w) (h : jsonparser_DoorStringEnd.f k a0 = some (r1, r2)) :
    Calls Tryd.prog 30 #[.string a0] w fun e w' => e = .returned (.tuple #[.int .i64 r1, .bool r2]) ∧ Below w.heap.size w w' := by
  have HB := Aside0.mk (Below.refl w.heap.size w)
  have HLD := Aside0.mk hL
  clear hL
  have H : (if a0.size ≤ 140737488355328 then ((jsonparser_stringEnd.f k (bytesOf a0)).bind fun bt311 => (some (bt311.1, bt311.2))) else (none)) = some (r1, r2) := h
  clear h
  by_cases c2 : a0.size ≤ 140737488355328
  · rw [if_pos c2] at H
    have c2b0 := eq_true c2
    have c2b1 : decide (a0.size ≤ 140737488355328) = true := decide_eq_true c2
    clear c2
    obtain ⟨y308, hy308⟩ : ∃ y_ : List Int, y_ = (bytesOf a0) := ⟨_, rfl⟩
    replace H : ((jsonparser_stringEnd.f k y308).bind fun bt311 => (some (bt311.1, bt311.2))) = some (r1, r2) := by first | (rw [hy308]; with_reducible exact H) | (have H2_ := (Option.bind_some _ _).symm.trans H; rw [hy308]; with_reducible exact H2_) | (have H2_ := (Option.bind_some _ _).symm.trans H; with_reducible exact H2_) | with_reducible exact H | (rw [hy308]; exact H) | exact H
    have Ny308 := Aside0.mk hy308
    clear hy308
    replace H := Option.bind_eq_some_iff.mp H
    obtain ⟨⟨t311, t312⟩, A30, H⟩ := H
    replace H : (some (t311, t312)) = some (r1, r2) := H
    have A3 := Aside0.mk A30
    clear A30
    simp only [Option.some.injEq, Prod.mk.injEq] at H
    obtain ⟨rfl, rfl⟩ := H
    go_enter Tryd.func30, Tryd.ntmps30
    go_wp2_with (first | ((with_reducible refine gate_dst (N := 5) rfl ?_); refine conv_event (s := a0) (src := 9) (dst := 91) (e := 5) rfl (N := 5) rfl _ rfl rfl Tryd.underlying9 Tryd.underlying91 Tryd.underlying5 (Nat.le_trans (of_decide_eq_true (by first | (with_reducible assumption) | assumption) : a0.size ≤ 140737488355328) (by omega)) ?_; intro v309 w4 ho5 hb; (first | rw [← Ny308.out] at ho5 | (simp only [Int.reduceToNat] at ho5; rw [← Ny308.out] at ho5)); have n0_ := Aside0.mk (Kd.V_lower (Kd.V_mono (ok' := fun k_ => True) ho5 (fun k_ hk_ => trivial)) (below_size (by repeat (first | (with_reducible first | exact HB.out | apply below_alloc | apply pw_below_drewN | apply below_drew1) | exact HB.out)))); have n1_ := Aside0.mk (below_step (by repeat (first | (with_reducible first | exact HB.out | apply below_alloc | apply pw_below_drewN | apply below_drew1) | exact HB.out)) hb); clear HB; have HO310 := n0_; have HB := n1_; clear n0_ n1_; clear hb ho5; obtain ⟨Ao6, co6, eo6⟩ := Kd.V_slice HO310.out; subst eo6) | ((with_reducible refine gate_callee (f := 54) rfl ?_); refine goesL_ (some 6) rfl rfl Tryd.func54 (by kernel_rfl) rfl #[.slice Ao6 y308.length co6] rfl (by (try simp only [List.map_toArray, List.map_cons, List.map_nil]); first | done | rfl | (simp only [List.length_drop, List.length_take]; rfl)) ?_; (with_reducible refine (jsonparser_stringEnd.calls k _ _ y308 t311 t312 _ ?side1 ?side2 ?side3 A3.out).mono ?_); (case side1 => exact Laid.below HLD.out (by repeat (first | (with_reducible first | exact HB.out | apply below_alloc | apply pw_below_drewN | apply below_drew1) | exact HB.out))); (case side2 => repeat (first | exact (Kd.V_reads' HO310.out).2.2 | (with_reducible refine Kd.C_alloc ?_ _) | (with_reducible refine Kd.C_drewN ?_ _) | (with_reducible refine Kd.C_drew ?_))); (case side3 => exact (Kd.V_reads' HO310.out).2.1); rintro e w7 ⟨rfl, hb⟩; refine ⟨_, rfl, ?_⟩; have n0_ := Aside0.mk (Kd.V_below (by (with_reducible repeat (first | apply Kd.V_alloc | apply Kd.V_drewN | apply Kd.V_drew)); exact HO310.out) hb); have n1_ := Aside0.mk (below_step (by repeat (first | (with_reducible first | exact HB.out | apply below_alloc | apply pw_below_drewN | apply below_drew1) | exact HB.out)) hb); clear HO310; clear HB; have HO310 := n0_; have HB := n1_; clear n0_ n1_; (try clear hb); (try clear hb2); (try clear hk); (try clear hi)))
    go_ret2
    exact ⟨by first | rfl | (simp [errW_none, errW_some] <;> rfl) | (simp [*, errW_none, errW_some] <;> rfl), by repeat (first | (with_reducible first | exact HB.out | apply below_alloc | apply pw_below_drewN | apply below_drew1) | exact HB.out)⟩
  · rw [if_neg c2] at H
    exact absurd H (by simp)

/-! ### impl_JpStringEnd: function 10 -/
def impl_JpStringEnd.f (k : Nat) (a0 : ByteArray) : Option (Int × Bool) := (jsonparser_DoorStringEnd.f k a0).bind fun bt313 => (some (bt313.1, bt313.2))
theorem impl_JpStringEnd.mono : ∀ a0 k, LeO (impl_JpStringEnd.f k a0) (impl_JpStringEnd.f (k + 1) a0) := by
  intro a0 k
  unfold impl_JpStringEnd.f
  repeat' first
      | (with_reducible exact jsonparser_DoorStringEnd.mono _ _)
      | (with_reducible exact LeO.refl _)
      | (with_reducible exact LeO.none _)
      | (with_reducible refine LeO.ite ?_ ?_)
      | (with_reducible refine LeO.bind ?_ (fun _ => ?_))
      | exact jsonparser_DoorStringEnd.mono _ _
      | exact LeO.none _
      | refine LeO.ite ?_ ?_
      | refine LeO.bind ?_ (fun _ => ?_)
set_option maxHeartbeats 8000000 in
set_option maxRecDepth 100000 in
theorem impl_JpStringEnd.calls (k : Nat) (a0 : ByteArray) (r1 : Int) (r2 : Bool) (w : World) (hL : Laid w) (h : impl_JpStringEnd.f k a0 = some (r1, r2)) :
    Calls Tryd.prog 10 #[.string a0] w fun e w' => e = .returned (.tuple #[.int .i64 r1, .bool r2]) ∧ Below w.heap.size w w' := by
  have HB := Aside0.mk (Below.refl w.heap.size w)
  have HLD := Aside0.mk hL
  clear hL
  have H : ((jsonparser_DoorStringEnd.f k a0).bind fun bt313 => (some (bt313.1, bt313.2))) = some (r1, r2) := h
  clear h
  replace H := Option.bind_eq_some_iff.mp H
  obtain ⟨⟨t313, t314⟩, A20, H⟩ := H
  replace H : (some (t313, t314)) = some (r1, r2) := H
  have A2 := Aside0.mk A20
  clear A20
  simp only [Option.some.injEq, Prod.mk.injEq] at H
  obtain ⟨rfl, rfl⟩ := H
  go_enter Tryd.func10, Tryd.ntmps10
  go_wp2_with (first | ((with_reducible refine gate_callee (f := 30) rfl ?_); refine goesL_ (some 5) rfl rfl Tryd.func30 (by kernel_rfl) rfl #[.string a0] rfl (by (try simp only [List.map_toArray, List.map_cons, List.map_nil]); first | done | rfl | (simp only [List.length_drop, List.length_take]; rfl)) ?_; (with_reducible refine (jsonparser_DoorStringEnd.calls k a0 t313 t314 _ ?side1 A2.out).mono ?_); (case side1 => exact Laid.below HLD.out (by repeat (first | (with_reducible first | exact HB.out | apply below_alloc | apply pw_below_drewN | apply below_drew1) | exact HB.out))); rintro e w3 ⟨rfl, hb⟩; refine ⟨_, rfl, ?_⟩; have n0_ := Aside0.mk (below_step (by repeat (first | (with_reducible first | exact HB.out | apply below_alloc | apply pw_below_drewN | apply below_drew1) | exact HB.out)) hb); clear HB; have HB := n0_; clear n0_; (try clear hb); (try clear hb2); (try clear hk); (try clear hi)))
  go_ret2
  exact ⟨by first | rfl | (simp [errW_none, errW_some] <;> rfl) | (simp [*, errW_none, errW_some] <;> rfl), by repeat (first | (with_reducible first | exact HB.out | apply below_alloc | apply pw_below_drewN | apply below_drew1) | exact HB.out)⟩

/-! ### spec_Escaped: function 11 -/
def spec_Escaped.l0 : Nat → ByteArray → Int → Option (Bool)
  | 0, _, _ => none
  | k + 1, x0, x3 => if x3 < (x0.size : Int) then (if 0 ≤ x3 then (if (bt x0 x3) = 92 then (some true) else (spec_Escaped.l0 k x0 (wrap64 (x3 + 1)))) else (none)) else (some false)
def spec_Escaped.f (k : Nat) (a0 : ByteArray) : Option (Bool) := spec_Escaped.l0 k a0 0
theorem spec_Escaped.mono_l : ∀ k, (∀ y0 y1, LeO (spec_Escaped.l0 k y0 y1) (spec_Escaped.l0 (k + 1) y0 y1))
  | 0 => fun _ _ r h => by simp [spec_Escaped.l0] at h
  | k + 1 => by
    have ih0 := spec_Escaped.mono_l k
    · intro y0 y1
      unfold spec_Escaped.l0
      repeat' first
      | (with_reducible exact ih0 _ _)
      | (with_reducible exact LeO.refl _)
      | (with_reducible exact LeO.none _)
      | (with_reducible refine LeO.ite ?_ ?_)
      | (with_reducible refine LeO.bind ?_ (fun _ => ?_))
      | exact ih0 _ _
      | exact LeO.none _
      | refine LeO.ite ?_ ?_
      | refine LeO.bind ?_ (fun _ => ?_)
theorem spec_Escaped.mono : ∀ a0 k, LeO (spec_Escaped.f k a0) (spec_Escaped.f (k + 1) a0) := by
  intro a0 k
  have ih0 := spec_Escaped.mono_l k
  unfold spec_Escaped.f
  repeat' first
      | (with_reducible exact ih0 _ _)
      | (with_reducible exact LeO.refl _)
      | (with_reducible exact LeO.none _)
      | (with_reducible refine LeO.ite ?_ ?_)
      | (with_reducible refine LeO.bind ?_ (fun _ => ?_))
      | exact ih0 _ _
      | exact LeO.none _
      | refine LeO.ite ?_ ?_
      | refine LeO.bind ?_ (fun _ => ?_)
set_option maxHeartbeats 8000000 in
set_option maxRecDepth 100000 in
theorem spec_Escaped.calls (k : Nat) (a0 : ByteArray) (r : Bool) (w : World) (h : spec_Escaped.f k a0 = some r) :
    Calls Tryd.prog 11 #[.string a0] w fun e w' => e = .returned (.bool r) ∧ Drawn0 w w' := by
  have H : (spec_Escaped.l0 k a0 0) = some r := h
  clear h
  have H' := Aside0.mk H
  clear H
  go_enter Tryd.func11, Tryd.ntmps11
  go_wp2
  (try simp only [Act.put, List.setIfInBounds_toArray, List.set_cons_zero, List.set_cons_succ])
  go_loopg [3] k (fun kq v3 w' => ∃ (x3_1 : Int), v3 = .int .i64 x3_1 ∧ Aside0 (spec_Escaped.l0 kq a0 x3_1 = some r) ∧ Aside0 (kq ≤ k) ∧ Drawn0 w w')
  case atStart => exact ⟨(0), (by first | rfl | (simp; done) | (simp [*]; done)), H', ⟨Nat.le_refl _⟩, by repeat (first | exact Drawn0.refl _ | apply Drawn0.step)⟩
  case round =>
    clear H'
    try clear c1
    obtain ⟨x3_1, rfl, HA, HK1, ⟨m1, rfl⟩⟩ := hrel
    cases gk with
    | zero => exact absurd HA.out (by simp [spec_Escaped.l0])
    | succ k1 =>
      have H := HA.out
      clear HA
      simp only [spec_Escaped.l0] at H
      by_cases c2 : x3_1 < (a0.size : Int)
      · rw [if_pos c2] at H
        have c2b0 : decide (x3_1 < (a0.size : Int)) = true := decide_eq_true c2
        clear c2
        by_cases c3 : 0 ≤ x3_1
        · rw [if_pos c3] at H
          have c3b0 : decide (0 ≤ x3_1) = true := decide_eq_true c3
          clear c3
          by_cases c5 : (bt a0 x3_1) = 92
          · rw [if_pos c5] at H
            have c5b0 : ((bt a0 x3_1) == 92) = true := beq_iff_eq.mpr c5
            have c5b1 : ((bt a0 x3_1) != 92) = false := bne_eq_false_iff_eq.mpr c5
            clear c5
            obtain rfl := Option.some.inj H
            have p4 : 0 ≤ (x3_1 : Int) := of_decide_eq_true (by first | (with_reducible assumption) | assumption)
            have q4 : x3_1 < (a0.size : Int) := of_decide_eq_true (by first | (with_reducible assumption) | assumption)
            have hx4 := bt_at a0 x3_1
            replace p4 := eq_true p4
            replace q4 := eq_true q4
            go_wp2
            go_ret
            exact ⟨by first | rfl | (simp; done) | (simp [*]; done), by repeat (first | exact Drawn0.refl _ | apply Drawn0.step)⟩
          · rw [if_neg c5] at H
            have c5b0 : ((bt a0 x3_1) == 92) = false := beq_eq_false_iff_ne.mpr c5
            have c5b1 : ((bt a0 x3_1) != 92) = true := bne_iff_ne.mpr c5
            have H' := Aside0.mk H
            clear H
            have p4 : 0 ≤ (x3_1 : Int) := of_decide_eq_true (by first | (with_reducible assumption) | assumption)
            have q4 : x3_1 < (a0.size : Int) := of_decide_eq_true (by first | (with_reducible assumption) | assumption)
            have hx4 := bt_at a0 x3_1
            replace p4 := eq_true p4
            replace q4 := eq_true q4
            go_wp2
            go_roundg k1
            case measure => have := HK1.out; omega
            case rel => exact ⟨(wrap64 (x3_1 + 1)), (by first | rfl | (simp; done) | (simp [*]; done)), H', ⟨by have := HK1.out; omega⟩, by repeat (first | exact Drawn0.refl _ | apply Drawn0.step)⟩
        · rw [if_neg c3] at H
          exact absurd H (by simp)
      · rw [if_neg c2] at H
        have c2b0 : decide (x3_1 < (a0.size : Int)) = false := decide_eq_false c2
        clear c2
        obtain rfl := Option.some.inj H
        go_wp2
        go_ret
        exact ⟨by first | rfl | (simp; done) | (simp [*]; done), by repeat (first | exact Drawn0.refl _ | apply Drawn0.step)⟩

/-! ### laws_FnJpStringPlace: function 3 -/
def laws_FnJpStringPlace.l0 : Nat → ByteArray → List (S30) → Int → Int → Option (Bool)
  | 0, _, _, _, _ => none
  | k + 1, x0, x23, x24, x25 => if x25 < x24 then (if 0 ≤ x25 then (if x25 < (x23.length : Int) then (if 0 ≤ (wrap64 (((rd_T30 x23 x25).f0) + 1)) then (if (wrap64 (((rd_T30 x23 x25).f0) + 1)) ≤ (x0.size : Int) then ((impl_JpStringEnd.f k (x0.extract ((wrap64 (((rd_T30 x23 x25).f0) + 1)) : Int).toNat x0.size)).bind fun bt331 => (if bt331.1 = (wrap64 ((wrap64 (((rd_T30 x23 x25).f1) - ((rd_T30 x23 x25).f0))) - 1)) then (if 0 ≤ ((rd_T30 x23 x25).f0) then (if ((rd_T30 x23 x25).f0) ≤ ((rd_T30 x23 x25).f1) then (if ((rd_T30 x23 x25).f1) ≤ (x0.size : Int) then ((spec_Escaped.f k (x0.extract (((rd_T30 x23 x25).f0) : Int).toNat (((rd_T30 x23 x25).f1) : Int).toNat)).bind fun t333 => (if (bt331.2 != t333) = true then (some false) else (laws_FnJpStringPlace.l0 k x0 x23 x24 (wrap64 (x25 + 1))))) else (none)) else (none)) else (none)) else (some false))) else (none)) else (none)) else (none)) else (none)) else (some true)
def laws_FnJpStringPlace.f (k : Nat) (a0 : ByteArray) : Option (Bool) := if (a0.size : Int) > 2147483647 then (some true) else (if (a0.size : Int) > 4096 then (some true) else ((spec_Places.f k a0).bind fun bt315 => (if bt315.2.2.2.2.2 = true then ((laws_jpStrings.f k bt315.1 bt315.2.1 bt315.2.2.1 bt315.2.2.2.1 bt315.2.2.2.2.1).bind fun t326 => (laws_FnJpStringPlace.l0 k a0 t326 (t326.length : Int) 0)) else (some true))))
theorem laws_FnJpStringPlace.mono_l : ∀ k, (∀ y0 y1 y2 y3, LeO (laws_FnJpStringPlace.l0 k y0 y1 y2 y3) (laws_FnJpStringPlace.l0 (k + 1) y0 y1 y2 y3))
  | 0 => fun _ _ _ _ r h => by simp [laws_FnJpStringPlace.l0] at h
  | k + 1 => by
    have ih0 := laws_FnJpStringPlace.mono_l k
    · intro y0 y1 y2 y3
      unfold laws_FnJpStringPlace.l0
      repeat' first
      | (with_reducible exact ih0 _ _ _ _)
      | (with_reducible exact impl_JpStringEnd.mono _ _)
      | (with_reducible exact laws_jpStrings.mono _ _ _ _ _ _)
      | (with_reducible exact spec_Escaped.mono _ _)
      | (with_reducible exact spec_Places.mono _ _)
      | (with_reducible exact LeO.refl _)
      | (with_reducible exact LeO.none _)
      | (with_reducible refine LeO.ite ?_ ?_)
      | (with_reducible refine LeO.bind ?_ (fun _ => ?_))
      | exact ih0 _ _ _ _
      | exact impl_JpStringEnd.mono _ _
      | exact laws_jpStrings.mono _ _ _ _ _ _
      | exact spec_Escaped.mono _ _
      | exact spec_Places.mono _ _
      | exact LeO.none _
      | refine LeO.ite ?_ ?_
      | refine LeO.bind ?_ (fun _ => ?_)
theorem laws_FnJpStringPlace.mono : ∀ a0 k, LeO (laws_FnJpStringPlace.f k a0) (laws_FnJpStringPlace.f (k + 1) a0) := by
  intro a0 k
  have ih0 := laws_FnJpStringPlace.mono_l k
  unfold laws_FnJpStringPlace.f
  repeat' first
      | (with_reducible exact ih0 _ _ _ _)
      | (with_reducible exact impl_JpStringEnd.mono _ _)
      | (with_reducible exact laws_jpStrings.mono _ _ _ _ _ _)
      | (with_reducible exact spec_Escaped.mono _ _)
      | (with_reducible exact spec_Places.mono _ _)
      | (with_reducible exact LeO.refl _)
      | (with_reducible exact LeO.none _)
      | (with_reducible refine LeO.ite ?_ ?_)
      | (with_reducible refine LeO.bind ?_ (fun _ => ?_))
      | exact ih0 _ _ _ _
      | exact impl_JpStringEnd.mono _ _
      | exact laws_jpStrings.mono _ _ _ _ _ _
      | exact spec_Escaped.mono _ _
      | exact spec_Places.mono _ _
      | exact LeO.none _
      | refine LeO.ite ?_ ?_
      | refine LeO.bind ?_ (fun _ => ?_)
set_option maxHeartbeats 8000000 in
set_option maxRecDepth 100000 in
theorem laws_FnJpStringPlace.calls (k : Nat) (a0 : ByteArray) (r : Bool) (w : World) (hL : Laid w) (h : laws_FnJpStringPlace.f k a0 = some r) :
    Calls Tryd.prog 3 #[.string a0] w fun e w' => e = .returned (.bool r) ∧ Below w.heap.size w w' := by
  have hu25 := Tryd.underlying25
  have hu30 := Tryd.underlying30
  have HB := Aside0.mk (Below.refl w.heap.size w)
  have HLD := Aside0.mk hL
  clear hL
  have H : (if (a0.size : Int) > 2147483647 then (some true) else (if (a0.size : Int) > 4096 then (some true) else ((spec_Places.f k a0).bind fun bt315 => (if bt315.2.2.2.2.2 = true then ((laws_jpStrings.f k bt315.1 bt315.2.1 bt315.2.2.1 bt315.2.2.2.1 bt315.2.2.2.2.1).bind fun t326 => (laws_FnJpStringPlace.l0 k a0 t326 (t326.length : Int) 0)) else (some true))))) = some r := h
  clear h
  by_cases c2 : (a0.size : Int) > 2147483647
  · rw [if_pos c2] at H
    have c2b0 : decide (2147483647 < (a0.size : Int)) = true := decide_eq_true c2
    have c2b1 : decide (2147483647 < a0.size) = true := decide_eq_true (by omega)
    clear c2
    obtain rfl := Option.some.inj H
    go_enter Tryd.func3, Tryd.ntmps3
    go_wp2
    go_ret
    exact ⟨by first | rfl | (simp [errW_none, errW_some] <;> rfl) | (simp [*, errW_none, errW_some] <;> rfl), by repeat (first | (with_reducible first | exact HB.out | apply below_alloc | apply pw_below_drewN | apply below_drew1) | exact HB.out)⟩
  · rw [if_neg c2] at H
    have c2b0 : decide (2147483647 < (a0.size : Int)) = false := decide_eq_false c2
    have c2b1 : decide (2147483647 < a0.size) = false := decide_eq_false (by omega)
    clear c2
    by_cases c3 : (a0.size : Int) > 4096
    · rw [if_pos c3] at H
      have c3b0 : decide (4096 < (a0.size : Int)) = true := decide_eq_true c3
      have c3b1 : decide (4096 < a0.size) = true := decide_eq_true (by omega)
      clear c3
      obtain rfl := Option.some.inj H
      go_enter Tryd.func3, Tryd.ntmps3
      go_wp2
      go_ret
      exact ⟨by first | rfl | (simp [errW_none, errW_some] <;> rfl) | (simp [*, errW_none, errW_some] <;> rfl), by repeat (first | (with_reducible first | exact HB.out | apply below_alloc | apply pw_below_drewN | apply below_drew1) | exact HB.out)⟩
    · rw [if_neg c3] at H
      have c3b0 : decide (4096 < (a0.size : Int)) = false := decide_eq_false c3
      have c3b1 : decide (4096 < a0.size) = false := decide_eq_false (by omega)
      clear c3
      replace H := Option.bind_eq_some_iff.mp H
      obtain ⟨⟨t315, t316, t317, t318, t321, t324⟩, A40, H⟩ := H
      replace H : (if t324 = true then ((laws_jpStrings.f k t315 t316 t317 t318 t321).bind fun t326 => (laws_FnJpStringPlace.l0 k a0 t326 (t326.length : Int) 0)) else (some true)) = some r := H
      have A4 := Aside0.mk A40
      clear A40
      by_cases c5 : t324 = true
      · subst c5
        have H1 : ((laws_jpStrings.f k t315 t316 t317 t318 t321).bind fun t326 => (laws_FnJpStringPlace.l0 k a0 t326 (t326.length : Int) 0)) = some r := by rw [if_pos rfl] at H; exact H
        clear H
        have H := H1
        clear H1
        replace H := Option.bind_eq_some_iff.mp H
        obtain ⟨t326, A60, H⟩ := H
        replace H : (laws_FnJpStringPlace.l0 k a0 t326 (t326.length : Int) 0) = some r := H
        have A6 := Aside0.mk A60
        clear A60
        have H' := Aside0.mk H
        clear H
        go_enter Tryd.func3, Tryd.ntmps3
        go_wp2_with (first | ((with_reducible refine gate_callee (f := 8) rfl ?_); refine goesL_ (some 17) rfl rfl Tryd.func8 (by kernel_rfl) rfl #[.string a0] rfl (by (try simp only [List.map_toArray, List.map_cons, List.map_nil]); first | done | rfl | (simp only [List.length_drop, List.length_take]; rfl)) ?_; (with_reducible refine (spec_Places.calls k a0 t315 t316 t317 t318 t321 true _ A4.out).mono ?_); rintro e w7 ⟨v319, v322, rfl, ho0, ho1, hb⟩; refine ⟨_, rfl, ?_⟩; have n0_ := Aside0.mk (Kd.R_lower ho0 (below_size (by repeat (first | (with_reducible first | exact HB.out | apply below_alloc | apply pw_below_drewN | apply below_drew1) | exact HB.out)))); have n1_ := Aside0.mk (Kd.R_lower ho1 (below_size (by repeat (first | (with_reducible first | exact HB.out | apply below_alloc | apply pw_below_drewN | apply below_drew1) | exact HB.out)))); have n2_ := Aside0.mk (below_step (by repeat (first | (with_reducible first | exact HB.out | apply below_alloc | apply pw_below_drewN | apply below_drew1) | exact HB.out)) hb); clear HB; have HO320 := n0_; have HO323 := n1_; have HB := n2_; clear n0_ n1_ n2_; (try clear hb); (try clear hb2); (try clear hk); (try clear hi); (try clear ho0); (try clear ho1)) | ((with_reducible refine gate_dst (N := 3) rfl ?_); refine box_event ?hg (N := 3) ?hd (cs := #[.int .i64 0, .int .i64 0, .int .i64 0, .slice none 0 0, .slice none 0 0]) (t := 25) ?hr ?_; (case hd => rfl); (case hg => rfl); (case hr => first | (go_simp; done) | (go_simp; rfl)); intro gb325 hg w8 hbox hb; have n0_ := Aside0.mk (Kd.R_below (by (with_reducible repeat (first | apply Kd.R_alloc | apply Kd.R_drewN | apply Kd.R_drew)); exact HO320.out) hb); have n1_ := Aside0.mk (Kd.R_below (Kd.R_elderB (by (with_reducible repeat (first | apply Kd.R_alloc | apply Kd.R_drewN | apply Kd.R_drew)); exact HO323.out) gb325 (Nat.le_of_eq hg.symm)) hb); have n2_ := Aside0.mk (below_step (by repeat (first | (with_reducible first | exact HB.out | apply below_alloc | apply pw_below_drewN | apply below_drew1) | exact HB.out)) hb); have n3_ := Aside0.mk (hbox); have n4_ := Aside0.mk ((by rw [hg]; exact (below_size (by repeat (first | (with_reducible first | exact HB.out | apply below_alloc | apply pw_below_drewN | apply below_drew1) | exact HB.out))) : w.heap.size ≤ gb325)); have n5_ := Aside0.mk ((by rw [hg]; exact (below_size (by repeat (first | (with_reducible first | exact HB.out | apply below_alloc | apply pw_below_drewN | apply below_drew1) | exact HB.out))) : w.heap.size ≤ gb325)); clear HO320; clear HO323; clear HB; have HO320 := n0_; have HO323 := n1_; have HB := n2_; have BK325 := n3_; have GW325 := n4_; have GE325 := n5_; clear n0_ n1_ n2_ n3_ n4_ n5_; clear hb hbox hg; have hcz9_0 : w8.cell? ⟨gb325, 0, none⟩ = some (.int .i64 0) := (blk_cell BK325.out 0).trans rfl; have hcz9_1 : w8.cell? ⟨gb325, 1, none⟩ = some (.int .i64 0) := (blk_cell BK325.out 1).trans rfl; have hcz9_2 : w8.cell? ⟨gb325, 2, none⟩ = some (.int .i64 0) := (blk_cell BK325.out 2).trans rfl; have hcz9_3 : w8.cell? ⟨gb325, 3, none⟩ = some (.slice none 0 0) := (blk_cell BK325.out 3).trans rfl; have hcz9_4 : w8.cell? ⟨gb325, 4, none⟩ = some (.slice none 0 0) := (blk_cell BK325.out 4).trans rfl; have hfz9_0 := blk_frozen BK325.out 0; have hfz9_1 := blk_frozen BK325.out 1; have hfz9_2 := blk_frozen BK325.out 2; have hfz9_3 := blk_frozen BK325.out 3; have hfz9_4 := blk_frozen BK325.out 4; obtain ⟨Ao10, co10, eo10⟩ := Kd.R_slice HO320.out; subst eo10; obtain ⟨Ao11, co11, eo11⟩ := Kd.R_slice HO323.out; subst eo11) | ((with_reducible refine gate_callee (f := 9) rfl ?_); refine goesL_ (some 23) rfl rfl Tryd.func9 (by kernel_rfl) rfl #[.agg #[.int .i64 t315, .int .i64 t316, .int .i64 t317, .slice Ao10 t318.length co10, .slice Ao11 t321.length co11]] rfl (by (try simp only [List.map_toArray, List.map_cons, List.map_nil]); first | done | rfl | (simp only [List.length_drop, List.length_take]; rfl)) ?_; (with_reducible refine (laws_jpStrings.calls k t315 t316 t317 _ _ t318 _ _ t321 t326 _ ?side1 ?side2 ?side3 ?side4 A6.out).mono ?_); (case side1 => refine (Kd.R_reads' (e := 30) (base := w.heap.size) (ok := fun k_ => True) (n := t318.length) (c := co10) ?_).2.2; exact (by (with_reducible repeat (first | apply Kd.R_alloc | apply Kd.R_drewN | apply Kd.R_drew)); exact (Kd.R_mono (Kd.R_far (p := ⟨gb325, 4, none⟩) (Kd.R_far (p := ⟨gb325, 3, none⟩) (Kd.R_far (p := ⟨gb325, 2, none⟩) (Kd.R_far (p := ⟨gb325, 1, none⟩) (Kd.R_far (p := ⟨gb325, 0, none⟩) (Kd.R_types HO320.out BK325.out (by decide)) (fun _ hk => hk.2) (.int .i64 t315)) (fun _ hk => hk.2) (.int .i64 t316)) (fun _ hk => hk.2) (.int .i64 t317)) (fun _ hk => hk.2) (.slice Ao10 t318.length co10)) (fun _ hk => hk.2) (.slice Ao11 t321.length co11)) (fun _ h_ => h_.1)))); (case side2 => exact (Kd.R_reads' HO320.out).2.1); (case side3 => refine (Kd.R_reads' (e := 25) (base := w.heap.size) (ok := fun k_ => (some k_ ≠ (.slice Ao10 t318.length co10 : Value).ownBlock ∧ k_ ≠ gb325)) (n := t321.length) (c := co11) ?_).2.2; exact (by (with_reducible repeat (first | apply Kd.R_alloc | apply Kd.R_drewN | apply Kd.R_drew)); exact (Kd.R_mono (Kd.R_far (p := ⟨gb325, 4, none⟩) (Kd.R_far (p := ⟨gb325, 3, none⟩) (Kd.R_far (p := ⟨gb325, 2, none⟩) (Kd.R_far (p := ⟨gb325, 1, none⟩) (Kd.R_far (p := ⟨gb325, 0, none⟩) (Kd.R_mono HO323.out (fun k_ hk => (⟨hk, hk.2⟩ : _ ∧ k_ ≠ gb325))) (fun _ hk => hk.2) (.int .i64 t315)) (fun _ hk => hk.2) (.int .i64 t316)) (fun _ hk => hk.2) (.int .i64 t317)) (fun _ hk => hk.2) (.slice Ao10 t318.length co10)) (fun _ hk => hk.2) (.slice Ao11 t321.length co11)) (fun _ h_ => h_.1)))); (case side4 => exact (Kd.R_reads' HO323.out).2.1); rintro e w12 ⟨v327, rfl, ho0, hb⟩; refine ⟨_, rfl, ?_⟩; have n0_ := Aside0.mk (Kd.R_elder' (by (with_reducible repeat (first | apply Kd.R_alloc | apply Kd.R_drewN | apply Kd.R_drew)); exact (Kd.R_mono (Kd.R_far (p := ⟨gb325, 4, none⟩) (Kd.R_far (p := ⟨gb325, 3, none⟩) (Kd.R_far (p := ⟨gb325, 2, none⟩) (Kd.R_far (p := ⟨gb325, 1, none⟩) (Kd.R_far (p := ⟨gb325, 0, none⟩) (Kd.R_types HO320.out BK325.out (by decide)) (fun _ hk => hk.2) (.int .i64 t315)) (fun _ hk => hk.2) (.int .i64 t316)) (fun _ hk => hk.2) (.int .i64 t317)) (fun _ hk => hk.2) (.slice Ao10 t318.length co10)) (fun _ hk => hk.2) (.slice Ao11 t321.length co11)) (fun _ h_ => h_.1))) (Kd.R_base ho0) hb); have n1_ := Aside0.mk (Kd.R_elder' (by (with_reducible repeat (first | apply Kd.R_alloc | apply Kd.R_drewN | apply Kd.R_drew)); exact (Kd.R_mono (Kd.R_far (p := ⟨gb325, 4, none⟩) (Kd.R_far (p := ⟨gb325, 3, none⟩) (Kd.R_far (p := ⟨gb325, 2, none⟩) (Kd.R_far (p := ⟨gb325, 1, none⟩) (Kd.R_far (p := ⟨gb325, 0, none⟩) (Kd.R_mono HO323.out (fun k_ hk => (⟨hk, hk.2⟩ : _ ∧ k_ ≠ gb325))) (fun _ hk => hk.2) (.int .i64 t315)) (fun _ hk => hk.2) (.int .i64 t316)) (fun _ hk => hk.2) (.int .i64 t317)) (fun _ hk => hk.2) (.slice Ao10 t318.length co10)) (fun _ hk => hk.2) (.slice Ao11 t321.length co11)) (fun _ h_ => h_.1))) (Kd.R_base ho0) hb); have n2_ := Aside0.mk (Kd.R_lower (Kd.R_new' ho0 (Kd.R_lt (by (with_reducible repeat (first | apply Kd.R_alloc | apply Kd.R_drewN | apply Kd.R_drew)); exact (Kd.R_mono (Kd.R_far (p := ⟨gb325, 4, none⟩) (Kd.R_far (p := ⟨gb325, 3, none⟩) (Kd.R_far (p := ⟨gb325, 2, none⟩) (Kd.R_far (p := ⟨gb325, 1, none⟩) (Kd.R_far (p := ⟨gb325, 0, none⟩) (Kd.R_types HO320.out BK325.out (by decide)) (fun _ hk => hk.2) (.int .i64 t315)) (fun _ hk => hk.2) (.int .i64 t316)) (fun _ hk => hk.2) (.int .i64 t317)) (fun _ hk => hk.2) (.slice Ao10 t318.length co10)) (fun _ hk => hk.2) (.slice Ao11 t321.length co11)) (fun _ h_ => h_.1))))) (below_size (by repeat (first | (with_reducible first | exact HB.out | apply below_alloc | apply pw_below_drewN | apply below_drew1 | refine below_set ?_ GE325.out) | exact HB.out)))); have n3_ := Aside0.mk (blk_below (g := gb325) (o := .cells #[.int .i64 t315, .int .i64 t316, .int .i64 t317, .slice Ao10 t318.length co10, .slice Ao11 t321.length co11] 25 (0, 0)) (by (with_reducible repeat (first | refine blk_drewN ?_ _ | refine blk_drew ?_ | refine blk_alloc ?_ _)); refine blk_put (cs := #[.int .i64 t315, .int .i64 t316, .int .i64 t317, .slice Ao10 t318.length co10, .slice none 0 0]) ?_ 4 _ rfl; (with_reducible repeat (first | refine blk_drewN ?_ _ | refine blk_drew ?_ | refine blk_alloc ?_ _)); refine blk_put (cs := #[.int .i64 t315, .int .i64 t316, .int .i64 t317, .slice none 0 0, .slice none 0 0]) ?_ 3 _ rfl; (with_reducible repeat (first | refine blk_drewN ?_ _ | refine blk_drew ?_ | refine blk_alloc ?_ _)); refine blk_put (cs := #[.int .i64 t315, .int .i64 t316, .int .i64 0, .slice none 0 0, .slice none 0 0]) ?_ 2 _ rfl; (with_reducible repeat (first | refine blk_drewN ?_ _ | refine blk_drew ?_ | refine blk_alloc ?_ _)); refine blk_put (cs := #[.int .i64 t315, .int .i64 0, .int .i64 0, .slice none 0 0, .slice none 0 0]) ?_ 1 _ rfl; (with_reducible repeat (first | refine blk_drewN ?_ _ | refine blk_drew ?_ | refine blk_alloc ?_ _)); refine blk_put (cs := #[.int .i64 0, .int .i64 0, .int .i64 0, .slice none 0 0, .slice none 0 0]) ?_ 0 _ rfl; (with_reducible repeat (first | refine blk_drewN ?_ _ | refine blk_drew ?_ | refine blk_alloc ?_ _)); exact BK325.out) hb); have n4_ := Aside0.mk (below_step (by repeat (first | (with_reducible first | exact HB.out | apply below_alloc | apply pw_below_drewN | apply below_drew1 | refine below_set ?_ GE325.out) | exact HB.out)) hb); clear HO320; clear HO323; clear BK325; clear HB; have HO320 := n0_; have HO323 := n1_; have HO328 := n2_; have BK325 := n3_; have HB := n4_; clear n0_ n1_ n2_ n3_ n4_; (try clear hb); (try clear hb2); (try clear hk); (try clear hi); (try clear ho0); obtain ⟨Ao13, co13, eo13⟩ := Kd.R_slice HO328.out; subst eo13))
        (try simp only [Act.put, List.setIfInBounds_toArray, List.set_cons_zero, List.set_cons_succ])
        go_loopg [25] k (fun kq v25 w' => ∃ (x25_1 : Int), v25 = .int .i64 x25_1 ∧ Aside0 (laws_FnJpStringPlace.l0 kq a0 t326 (t326.length : Int) x25_1 = some r) ∧ Aside0 (kq ≤ k) ∧ Aside0 (Kd.R k30 30 w' w.heap.size (fun k_ => some k_ ≠ ((.slice Ao10 t318.length co10) : Value).ownBlock) (.slice Ao13 t326.length co13) t326) ∧ Aside0 (Kd.R k30 30 w' w.heap.size (fun k_ => some k_ ≠ ((.slice Ao13 t326.length co13) : Value).ownBlock) (.slice Ao10 t318.length co10) t318) ∧ Aside0 (Kd.R k25 25 w' w.heap.size (fun k_ => some k_ ≠ ((.slice Ao13 t326.length co13) : Value).ownBlock ∧ some k_ ≠ ((.slice Ao10 t318.length co10) : Value).ownBlock ∧ k_ ≠ gb325) (.slice Ao11 t321.length co11) t321) ∧ Aside0 (w'.heap[gb325]? = some (.cells #[.int .i64 t315, .int .i64 t316, .int .i64 t317, (.slice Ao10 t318.length co10), (.slice Ao11 t321.length co11)] 25 (0, 0))) ∧ Aside0 (Below w.heap.size w w'))
        case atStart => exact ⟨(0), (by first | rfl | (simp; done) | (simp [*]; done)), H', ⟨Nat.le_refl _⟩, ⟨by (with_reducible repeat (first | apply Kd.R_alloc | apply Kd.R_drewN | apply Kd.R_drew)); exact Kd.R_mono HO328.out (fun _ hk => hk.2)⟩, ⟨by (with_reducible repeat (first | apply Kd.R_alloc | apply Kd.R_drewN | apply Kd.R_drew)); exact Kd.R_mono HO320.out (fun _ hk => hk.2)⟩, ⟨by (with_reducible repeat (first | apply Kd.R_alloc | apply Kd.R_drewN | apply Kd.R_drew)); exact Kd.R_mono HO323.out (fun _ hk => ⟨hk.2, ⟨hk.1.1, hk.1.2⟩⟩)⟩, ⟨by (with_reducible repeat (first | refine blk_drewN ?_ _ | refine blk_drew ?_ | refine blk_alloc ?_ _)); exact BK325.out⟩, ⟨by repeat (first | (with_reducible first | exact HB.out | apply below_alloc | apply pw_below_drewN | apply below_drew1 | refine below_set ?_ GE325.out) | exact HB.out)⟩⟩
        case round =>
          clear H'
          try clear c2
          try clear c2b0
          try clear c2b1
          try clear p2
          try clear c3
          try clear c3b0
          try clear c3b1
          try clear c5
          try clear c8
          try clear c9
          try clear hcz9_0
          try clear hcz9_1
          try clear hcz9_2
          try clear hcz9_3
          try clear hcz9_4
          try clear hfz9_0
          try clear hfz9_1
          try clear hfz9_2
          try clear hfz9_3
          try clear hfz9_4
          obtain ⟨x25_1, rfl, HA, HK1, HO_23, HO_326003, HO_326004, BK325, HB⟩ := hrel
          cases gk with
          | zero => exact absurd HA.out (by simp [laws_FnJpStringPlace.l0])
          | succ k1 =>
            have H := HA.out
            clear HA
            simp only [laws_FnJpStringPlace.l0] at H
            by_cases c14 : x25_1 < (t326.length : Int)
            · rw [if_pos c14] at H
              have c14b0 : decide (x25_1 < (t326.length : Int)) = true := decide_eq_true c14
              clear c14
              by_cases c15 : 0 ≤ x25_1
              · rw [if_pos c15] at H
                have c15b0 : decide (0 ≤ x25_1) = true := decide_eq_true c15
                clear c15
                by_cases c16 : x25_1 < (t326.length : Int)
                · rw [if_pos c16] at H
                  have c16b0 : decide (x25_1 < (t326.length : Int)) = true := decide_eq_true c16
                  clear c16
                  obtain ⟨ji17, hji17⟩ : ∃ j_ : Int, (wrap64 (((rd_T30 t326 x25_1).f0) + 1)) = j_ := ⟨_, rfl⟩
                  replace H : (if 0 ≤ (ji17) then (if (ji17) ≤ (a0.size : Int) then ((impl_JpStringEnd.f k1 (a0.extract ((ji17) : Int).toNat a0.size)).bind fun bt331 => (if bt331.1 = (wrap64 ((wrap64 (((rd_T30 t326 x25_1).f1) - ((rd_T30 t326 x25_1).f0))) - 1)) then (if 0 ≤ ((rd_T30 t326 x25_1).f0) then (if ((rd_T30 t326 x25_1).f0) ≤ ((rd_T30 t326 x25_1).f1) then (if ((rd_T30 t326 x25_1).f1) ≤ (a0.size : Int) then ((spec_Escaped.f k1 (a0.extract (((rd_T30 t326 x25_1).f0) : Int).toNat (((rd_T30 t326 x25_1).f1) : Int).toNat)).bind fun t333 => (if (bt331.2 != t333) = true then (some false) else (laws_FnJpStringPlace.l0 k1 a0 t326 (t326.length : Int) (wrap64 (x25_1 + 1))))) else (none)) else (none)) else (none)) else (some false))) else (none)) else (none)) = some r := by first | (rw [hji17] at H; exact H) | (simp only [hji17] at H ⊢; exact H)
                  have hji17w : (IntKind.i64.wrap (((rd_T30 t326 x25_1).f0) + 1)) = ji17 := (i64_w _).trans hji17
                  by_cases c18 : 0 ≤ (ji17)
                  · rw [if_pos c18] at H
                    have c18b0 := eq_true c18
                    have c18b1 : decide (0 ≤ (ji17)) = true := decide_eq_true c18
                    clear c18
                    by_cases c19 : (ji17) ≤ (a0.size : Int)
                    · rw [if_pos c19] at H
                      have c19b0 := eq_true c19
                      have c19b1 : decide ((ji17) ≤ (a0.size : Int)) = true := decide_eq_true c19
                      clear c19
                      replace H := Option.bind_eq_some_iff.mp H
                      obtain ⟨⟨t331, t332⟩, A200, H⟩ := H
                      replace H : (if t331 = (wrap64 ((wrap64 (((rd_T30 t326 x25_1).f1) - ((rd_T30 t326 x25_1).f0))) - 1)) then (if 0 ≤ ((rd_T30 t326 x25_1).f0) then (if ((rd_T30 t326 x25_1).f0) ≤ ((rd_T30 t326 x25_1).f1) then (if ((rd_T30 t326 x25_1).f1) ≤ (a0.size : Int) then ((spec_Escaped.f k1 (a0.extract (((rd_T30 t326 x25_1).f0) : Int).toNat (((rd_T30 t326 x25_1).f1) : Int).toNat)).bind fun t333 => (if (t332 != t333) = true then (some false) else (laws_FnJpStringPlace.l0 k1 a0 t326 (t326.length : Int) (wrap64 (x25_1 + 1))))) else (none)) else (none)) else (none)) else (some false)) = some r := H
                      have A20 := Aside0.mk A200
                      clear A200
                      by_cases c21 : t331 = (wrap64 ((wrap64 (((rd_T30 t326 x25_1).f1) - ((rd_T30 t326 x25_1).f0))) - 1))
                      · rw [if_pos c21] at H
                        have c21b0 : (t331 == (wrap64 ((wrap64 (((rd_T30 t326 x25_1).f1) - ((rd_T30 t326 x25_1).f0))) - 1))) = true := beq_iff_eq.mpr c21
                        have c21b1 : (t331 != (wrap64 ((wrap64 (((rd_T30 t326 x25_1).f1) - ((rd_T30 t326 x25_1).f0))) - 1))) = false := bne_eq_false_iff_eq.mpr c21
                        clear c21
                        by_cases c22 : 0 ≤ ((rd_T30 t326 x25_1).f0)
                        · rw [if_pos c22] at H
                          have c22b0 := eq_true c22
                          have c22b1 : decide (0 ≤ ((rd_T30 t326 x25_1).f0)) = true := decide_eq_true c22
                          clear c22
                          by_cases c23 : ((rd_T30 t326 x25_1).f0) ≤ ((rd_T30 t326 x25_1).f1)
                          · rw [if_pos c23] at H
                            have c23b0 := eq_true c23
                            have c23b1 : decide (((rd_T30 t326 x25_1).f0) ≤ ((rd_T30 t326 x25_1).f1)) = true := decide_eq_true c23
                            clear c23
                            by_cases c24 : ((rd_T30 t326 x25_1).f1) ≤ (a0.size : Int)
                            · rw [if_pos c24] at H
                              have c24b0 := eq_true c24
                              have c24b1 : decide (((rd_T30 t326 x25_1).f1) ≤ (a0.size : Int)) = true := decide_eq_true c24
                              clear c24
                              replace H := Option.bind_eq_some_iff.mp H
                              obtain ⟨t333, A250, H⟩ := H
                              replace H : (if (t332 != t333) = true then (some false) else (laws_FnJpStringPlace.l0 k1 a0 t326 (t326.length : Int) (wrap64 (x25_1 + 1)))) = some r := H
                              have A25 := Aside0.mk A250
                              clear A250
                              by_cases c26 : (t332 != t333) = true
                              · rw [if_pos c26] at H
                                have c26b0 : (t332 != t333) = true := c26
                                (try (have c26b1 : decide (t332 = t333) = false := by simpa using c26))
                                (try (have c26b2 : (t332 == t333) = false := by simpa using c26))
                                (try (have c26b3 : ¬ (t332 = t333) := by simpa using c26))
                                clear c26
                                obtain rfl := Option.some.inj H
                                have p329 : 0 ≤ (x25_1 : Int) := of_decide_eq_true (by first | (with_reducible assumption) | assumption)
                                have q329 : x25_1 < (t326.length : Int) := of_decide_eq_true (by first | (with_reducible assumption) | assumption)
                                obtain ⟨ad329, e329, hx329_0, hx329_1⟩ := at_T30 (Kd.R_reads' HO_23.out).2.2 x25_1 p329 q329
                                cases e329
                                replace p329 := eq_true p329
                                replace q329 := eq_true q329
                                go_wp2_with (first | ((with_reducible refine gate_dst (N := 6) rfl ?_); refine box_event ?hg (N := 6) ?hd (cs := #[.int .i64 0, .int .i64 0]) (t := 30) ?hr ?_; (case hd => rfl); (case hg => rfl); (case hr => first | (go_simp; done) | (go_simp; rfl)); intro gb330 hg w27 hbox hb; have n0_ := Aside0.mk (Kd.R_below (Kd.R_elderB (by (with_reducible repeat (first | apply Kd.R_alloc | apply Kd.R_drewN | apply Kd.R_drew)); exact HO_23.out) gb330 (Nat.le_of_eq hg.symm)) hb); have n1_ := Aside0.mk (Kd.R_below (Kd.R_elderB (by (with_reducible repeat (first | apply Kd.R_alloc | apply Kd.R_drewN | apply Kd.R_drew)); exact HO_326003.out) gb330 (Nat.le_of_eq hg.symm)) hb); have n2_ := Aside0.mk (Kd.R_below (Kd.R_elderB (by (with_reducible repeat (first | apply Kd.R_alloc | apply Kd.R_drewN | apply Kd.R_drew)); exact HO_326004.out) gb330 (Nat.le_of_eq hg.symm)) hb); have n3_ := Aside0.mk (blk_below (g := gb325) (o := .cells #[.int .i64 t315, .int .i64 t316, .int .i64 t317, .slice Ao10 t318.length co10, .slice Ao11 t321.length co11] 25 (0, 0)) (by (with_reducible repeat (first | refine blk_drewN ?_ _ | refine blk_drew ?_ | refine blk_alloc ?_ _)); exact BK325.out) hb); have n4_ := Aside0.mk (below_step (by repeat (first | (with_reducible first | exact HB.out | apply below_alloc | apply pw_below_drewN | apply below_drew1 | refine below_set ?_ GE325.out) | exact HB.out)) hb); have n5_ := Aside0.mk (hbox); have n6_ := Aside0.mk ((by rw [hg]; exact (below_size (by repeat (first | (with_reducible first | exact HB.out | apply below_alloc | apply pw_below_drewN | apply below_drew1 | refine below_set ?_ GE325.out) | exact HB.out))) : w.heap.size ≤ gb330)); have n7_ := Aside0.mk ((by rw [hg]; exact (below_size (by repeat (first | (with_reducible first | exact HB.out | apply below_alloc | apply pw_below_drewN | apply below_drew1 | refine below_set ?_ GE325.out) | exact HB.out))) : w.heap.size ≤ gb330)); have n8_ := Aside0.mk ((by rw [hg]; exact Nat.ne_of_lt (blk_lt (g := gb325) (o := .cells #[.int .i64 t315, .int .i64 t316, .int .i64 t317, .slice Ao10 t318.length co10, .slice Ao11 t321.length co11] 25 (0, 0)) (by (with_reducible repeat (first | refine blk_drewN ?_ _ | refine blk_drew ?_ | refine blk_alloc ?_ _)); exact BK325.out)) : gb325 ≠ gb330)); have n9_ := Aside0.mk ((by rw [hg]; exact Nat.ne_of_gt (blk_lt (g := gb325) (o := .cells #[.int .i64 t315, .int .i64 t316, .int .i64 t317, .slice Ao10 t318.length co10, .slice Ao11 t321.length co11] 25 (0, 0)) (by (with_reducible repeat (first | refine blk_drewN ?_ _ | refine blk_drew ?_ | refine blk_alloc ?_ _)); exact BK325.out)) : gb330 ≠ gb325)); clear HO_23; clear HO_326003; clear HO_326004; clear BK325; clear HB; have HO_23 := n0_; have HO_326003 := n1_; have HO_326004 := n2_; have BK325 := n3_; have HB := n4_; have BK330 := n5_; have GW330 := n6_; have GE330 := n7_; have NB325_330 := n8_; have NB330_325 := n9_; clear n0_ n1_ n2_ n3_ n4_ n5_ n6_ n7_ n8_ n9_; clear hb hbox hg; have hnb28 := NB330_325.out; have hnc28 := NB325_330.out; have hcz29_0 : w27.cell? ⟨gb330, 0, none⟩ = some (.int .i64 0) := (blk_cell BK330.out 0).trans rfl; have hcz29_1 : w27.cell? ⟨gb330, 1, none⟩ = some (.int .i64 0) := (blk_cell BK330.out 1).trans rfl; have hfz29_0 := blk_frozen BK330.out 0; have hfz29_1 := blk_frozen BK330.out 1) | ((with_reducible refine gate_callee (f := 10) rfl ?_); refine goesL_ (some 35) rfl rfl Tryd.func10 (by kernel_rfl) rfl #[.string (a0.extract ((ji17) : Int).toNat a0.size)] rfl (by (try simp only [List.map_toArray, List.map_cons, List.map_nil]); first | done | (simp only [hji17]; rfl) | rfl | (simp only [List.length_drop, List.length_take]; rfl)) ?_; (with_reducible refine (impl_JpStringEnd.calls k1 (a0.extract ((ji17) : Int).toNat a0.size) t331 t332 _ ?side1 A20.out).mono ?_); (case side1 => exact Laid.below HLD.out (by repeat (first | (with_reducible first | exact HB.out | apply below_alloc | apply pw_below_drewN | apply below_drew1 | refine below_set ?_ GE325.out | refine below_set ?_ GE330.out) | exact HB.out))); rintro e w30 ⟨rfl, hb⟩; refine ⟨_, rfl, ?_⟩; have n0_ := Aside0.mk (Kd.R_below (by (with_reducible repeat (first | apply Kd.R_alloc | apply Kd.R_drewN | apply Kd.R_drew)); exact (Kd.R_mono (Kd.R_far (p := ⟨gb330, 1, none⟩) (Kd.R_far (p := ⟨gb330, 0, none⟩) (Kd.R_mono HO_23.out (fun k_ hk => (⟨hk, hk.2⟩ : _ ∧ k_ ≠ gb330))) (fun _ hk => hk.2) (.int .i64 ((rd_T30 t326 x25_1).f0))) (fun _ hk => hk.2) (.int .i64 ((rd_T30 t326 x25_1).f1))) (fun _ h_ => h_.1))) hb); have n1_ := Aside0.mk (Kd.R_below (by (with_reducible repeat (first | apply Kd.R_alloc | apply Kd.R_drewN | apply Kd.R_drew)); exact (Kd.R_mono (Kd.R_far (p := ⟨gb330, 1, none⟩) (Kd.R_far (p := ⟨gb330, 0, none⟩) (Kd.R_mono HO_326003.out (fun k_ hk => (⟨hk, hk.2⟩ : _ ∧ k_ ≠ gb330))) (fun _ hk => hk.2) (.int .i64 ((rd_T30 t326 x25_1).f0))) (fun _ hk => hk.2) (.int .i64 ((rd_T30 t326 x25_1).f1))) (fun _ h_ => h_.1))) hb); have n2_ := Aside0.mk (Kd.R_below (by (with_reducible repeat (first | apply Kd.R_alloc | apply Kd.R_drewN | apply Kd.R_drew)); exact (Kd.R_mono (Kd.R_far (p := ⟨gb330, 1, none⟩) (Kd.R_far (p := ⟨gb330, 0, none⟩) (Kd.R_mono HO_326004.out (fun k_ hk => (⟨hk, hk.2⟩ : _ ∧ k_ ≠ gb330))) (fun _ hk => hk.2) (.int .i64 ((rd_T30 t326 x25_1).f0))) (fun _ hk => hk.2) (.int .i64 ((rd_T30 t326 x25_1).f1))) (fun _ h_ => h_.1))) hb); have n3_ := Aside0.mk (blk_below (g := gb325) (o := .cells #[.int .i64 t315, .int .i64 t316, .int .i64 t317, .slice Ao10 t318.length co10, .slice Ao11 t321.length co11] 25 (0, 0)) (by (with_reducible repeat (first | refine blk_drewN ?_ _ | refine blk_drew ?_ | refine blk_alloc ?_ _)); refine blk_far ?_ NB325_330.out _; (with_reducible repeat (first | refine blk_drewN ?_ _ | refine blk_drew ?_ | refine blk_alloc ?_ _)); refine blk_far ?_ NB325_330.out _; (with_reducible repeat (first | refine blk_drewN ?_ _ | refine blk_drew ?_ | refine blk_alloc ?_ _)); exact BK325.out) hb); have n4_ := Aside0.mk (blk_below (g := gb330) (o := .cells #[.int .i64 ((rd_T30 t326 x25_1).f0), .int .i64 ((rd_T30 t326 x25_1).f1)] 30 (0, 0)) (by (with_reducible repeat (first | refine blk_drewN ?_ _ | refine blk_drew ?_ | refine blk_alloc ?_ _)); refine blk_put (cs := #[.int .i64 ((rd_T30 t326 x25_1).f0), .int .i64 0]) ?_ 1 _ rfl; (with_reducible repeat (first | refine blk_drewN ?_ _ | refine blk_drew ?_ | refine blk_alloc ?_ _)); refine blk_put (cs := #[.int .i64 0, .int .i64 0]) ?_ 0 _ rfl; (with_reducible repeat (first | refine blk_drewN ?_ _ | refine blk_drew ?_ | refine blk_alloc ?_ _)); exact BK330.out) hb); have n5_ := Aside0.mk (below_step (by repeat (first | (with_reducible first | exact HB.out | apply below_alloc | apply pw_below_drewN | apply below_drew1 | refine below_set ?_ GE325.out | refine below_set ?_ GE330.out) | exact HB.out)) hb); clear HO_23; clear HO_326003; clear HO_326004; clear BK325; clear BK330; clear HB; have HO_23 := n0_; have HO_326003 := n1_; have HO_326004 := n2_; have BK325 := n3_; have BK330 := n4_; have HB := n5_; clear n0_ n1_ n2_ n3_ n4_ n5_; (try clear hb); (try clear hb2); (try clear hk); (try clear hi); have hcz31_0 : w30.cell? ⟨gb330, 0, none⟩ = some (.int .i64 ((rd_T30 t326 x25_1).f0)) := (blk_cell BK330.out 0).trans rfl; have hcz31_1 : w30.cell? ⟨gb330, 1, none⟩ = some (.int .i64 ((rd_T30 t326 x25_1).f1)) := (blk_cell BK330.out 1).trans rfl; have hfz31_0 := blk_frozen BK330.out 0; have hfz31_1 := blk_frozen BK330.out 1) | (go_at_call 11; (with_reducible refine (spec_Escaped.calls k1 (a0.extract (((rd_T30 t326 x25_1).f0) : Int).toNat (((rd_T30 t326 x25_1).f1) : Int).toNat) t333 _ A25.out).mono ?_); rintro e w' ⟨rfl, ⟨nd, rfl⟩⟩))
                                go_ret
                                exact ⟨by first | rfl | (simp [errW_none, errW_some] <;> rfl) | (simp only [← hji17]; first | rfl | (simp [errW_none, errW_some] <;> rfl)) | (simp [*, errW_none, errW_some] <;> rfl), by repeat (first | (with_reducible first | exact HB.out | apply below_alloc | apply pw_below_drewN | apply below_drew1 | refine below_set ?_ GE325.out | refine below_set ?_ GE330.out) | exact HB.out)⟩
                              · rw [if_neg c26] at H
                                have c26b0 : (t332 != t333) = false := by simpa using c26
                                (try (have c26b1 : decide (t332 = t333) = true := by simpa using c26))
                                (try (have c26b2 : (t332 == t333) = true := by simpa using c26))
                                clear c26
                                have H' := Aside0.mk H
                                clear H
                                have p329 : 0 ≤ (x25_1 : Int) := of_decide_eq_true (by first | (with_reducible assumption) | assumption)
                                have q329 : x25_1 < (t326.length : Int) := of_decide_eq_true (by first | (with_reducible assumption) | assumption)
                                obtain ⟨ad329, e329, hx329_0, hx329_1⟩ := at_T30 (Kd.R_reads' HO_23.out).2.2 x25_1 p329 q329
                                cases e329
                                replace p329 := eq_true p329
                                replace q329 := eq_true q329
                                go_wp2_with (first | ((with_reducible refine gate_dst (N := 6) rfl ?_); refine box_event ?hg (N := 6) ?hd (cs := #[.int .i64 0, .int .i64 0]) (t := 30) ?hr ?_; (case hd => rfl); (case hg => rfl); (case hr => first | (go_simp; done) | (go_simp; rfl)); intro gb330 hg w32 hbox hb; have n0_ := Aside0.mk (Kd.R_below (Kd.R_elderB (by (with_reducible repeat (first | apply Kd.R_alloc | apply Kd.R_drewN | apply Kd.R_drew)); exact HO_23.out) gb330 (Nat.le_of_eq hg.symm)) hb); have n1_ := Aside0.mk (Kd.R_below (Kd.R_elderB (by (with_reducible repeat (first | apply Kd.R_alloc | apply Kd.R_drewN | apply Kd.R_drew)); exact HO_326003.out) gb330 (Nat.le_of_eq hg.symm)) hb); have n2_ := Aside0.mk (Kd.R_below (Kd.R_elderB (by (with_reducible repeat (first | apply Kd.R_alloc | apply Kd.R_drewN | apply Kd.R_drew)); exact HO_326004.out) gb330 (Nat.le_of_eq hg.symm)) hb); have n3_ := Aside0.mk (blk_below (g := gb325) (o := .cells #[.int .i64 t315, .int .i64 t316, .int .i64 t317, .slice Ao10 t318.length co10, .slice Ao11 t321.length co11] 25 (0, 0)) (by (with_reducible repeat (first | refine blk_drewN ?_ _ | refine blk_drew ?_ | refine blk_alloc ?_ _)); exact BK325.out) hb); have n4_ := Aside0.mk (below_step (by repeat (first | (with_reducible first | exact HB.out | apply below_alloc | apply pw_below_drewN | apply below_drew1 | refine below_set ?_ GE325.out) | exact HB.out)) hb); have n5_ := Aside0.mk (hbox); have n6_ := Aside0.mk ((by rw [hg]; exact (below_size (by repeat (first | (with_reducible first | exact HB.out | apply below_alloc | apply pw_below_drewN | apply below_drew1 | refine below_set ?_ GE325.out) | exact HB.out))) : w.heap.size ≤ gb330)); have n7_ := Aside0.mk ((by rw [hg]; exact (below_size (by repeat (first | (with_reducible first | exact HB.out | apply below_alloc | apply pw_below_drewN | apply below_drew1 | refine below_set ?_ GE325.out) | exact HB.out))) : w.heap.size ≤ gb330)); have n8_ := Aside0.mk ((by rw [hg]; exact Nat.ne_of_lt (blk_lt (g := gb325) (o := .cells #[.int .i64 t315, .int .i64 t316, .int .i64 t317, .slice Ao10 t318.length co10, .slice Ao11 t321.length co11] 25 (0, 0)) (by (with_reducible repeat (first | refine blk_drewN ?_ _ | refine blk_drew ?_ | refine blk_alloc ?_ _)); exact BK325.out)) : gb325 ≠ gb330)); have n9_ := Aside0.mk ((by rw [hg]; exact Nat.ne_of_gt (blk_lt (g := gb325) (o := .cells #[.int .i64 t315, .int .i64 t316, .int .i64 t317, .slice Ao10 t318.length co10, .slice Ao11 t321.length co11] 25 (0, 0)) (by (with_reducible repeat (first | refine blk_drewN ?_ _ | refine blk_drew ?_ | refine blk_alloc ?_ _)); exact BK325.out)) : gb330 ≠ gb325)); clear HO_23; clear HO_326003; clear HO_326004; clear BK325; clear HB; have HO_23 := n0_; have HO_326003 := n1_; have HO_326004 := n2_; have BK325 := n3_; have HB := n4_; have BK330 := n5_; have GW330 := n6_; have GE330 := n7_; have NB325_330 := n8_; have NB330_325 := n9_; clear n0_ n1_ n2_ n3_ n4_ n5_ n6_ n7_ n8_ n9_; clear hb hbox hg; have hnb33 := NB330_325.out; have hnc33 := NB325_330.out; have hcz34_0 : w32.cell? ⟨gb330, 0, none⟩ = some (.int .i64 0) := (blk_cell BK330.out 0).trans rfl; have hcz34_1 : w32.cell? ⟨gb330, 1, none⟩ = some (.int .i64 0) := (blk_cell BK330.out 1).trans rfl; have hfz34_0 := blk_frozen BK330.out 0; have hfz34_1 := blk_frozen BK330.out 1) | ((with_reducible refine gate_callee (f := 10) rfl ?_); refine goesL_ (some 35) rfl rfl Tryd.func10 (by kernel_rfl) rfl #[.string (a0.extract ((ji17) : Int).toNat a0.size)] rfl (by (try simp only [List.map_toArray, List.map_cons, List.map_nil]); first | done | (simp only [hji17]; rfl) | rfl | (simp only [List.length_drop, List.length_take]; rfl)) ?_; (with_reducible refine (impl_JpStringEnd.calls k1 (a0.extract ((ji17) : Int).toNat a0.size) t331 t332 _ ?side1 A20.out).mono ?_); (case side1 => exact Laid.below HLD.out (by repeat (first | (with_reducible first | exact HB.out | apply below_alloc | apply pw_below_drewN | apply below_drew1 | refine below_set ?_ GE325.out | refine below_set ?_ GE330.out) | exact HB.out))); rintro e w35 ⟨rfl, hb⟩; refine ⟨_, rfl, ?_⟩; have n0_ := Aside0.mk (Kd.R_below (by (with_reducible repeat (first | apply Kd.R_alloc | apply Kd.R_drewN | apply Kd.R_drew)); exact (Kd.R_mono (Kd.R_far (p := ⟨gb330, 1, none⟩) (Kd.R_far (p := ⟨gb330, 0, none⟩) (Kd.R_mono HO_23.out (fun k_ hk => (⟨hk, hk.2⟩ : _ ∧ k_ ≠ gb330))) (fun _ hk => hk.2) (.int .i64 ((rd_T30 t326 x25_1).f0))) (fun _ hk => hk.2) (.int .i64 ((rd_T30 t326 x25_1).f1))) (fun _ h_ => h_.1))) hb); have n1_ := Aside0.mk (Kd.R_below (by (with_reducible repeat (first | apply Kd.R_alloc | apply Kd.R_drewN | apply Kd.R_drew)); exact (Kd.R_mono (Kd.R_far (p := ⟨gb330, 1, none⟩) (Kd.R_far (p := ⟨gb330, 0, none⟩) (Kd.R_mono HO_326003.out (fun k_ hk => (⟨hk, hk.2⟩ : _ ∧ k_ ≠ gb330))) (fun _ hk => hk.2) (.int .i64 ((rd_T30 t326 x25_1).f0))) (fun _ hk => hk.2) (.int .i64 ((rd_T30 t326 x25_1).f1))) (fun _ h_ => h_.1))) hb); have n2_ := Aside0.mk (Kd.R_below (by (with_reducible repeat (first | apply Kd.R_alloc | apply Kd.R_drewN | apply Kd.R_drew)); exact (Kd.R_mono (Kd.R_far (p := ⟨gb330, 1, none⟩) (Kd.R_far (p := ⟨gb330, 0, none⟩) (Kd.R_mono HO_326004.out (fun k_ hk => (⟨hk, hk.2⟩ : _ ∧ k_ ≠ gb330))) (fun _ hk => hk.2) (.int .i64 ((rd_T30 t326 x25_1).f0))) (fun _ hk => hk.2) (.int .i64 ((rd_T30 t326 x25_1).f1))) (fun _ h_ => h_.1))) hb); have n3_ := Aside0.mk (blk_below (g := gb325) (o := .cells #[.int .i64 t315, .int .i64 t316, .int .i64 t317, .slice Ao10 t318.length co10, .slice Ao11 t321.length co11] 25 (0, 0)) (by (with_reducible repeat (first | refine blk_drewN ?_ _ | refine blk_drew ?_ | refine blk_alloc ?_ _)); refine blk_far ?_ NB325_330.out _; (with_reducible repeat (first | refine blk_drewN ?_ _ | refine blk_drew ?_ | refine blk_alloc ?_ _)); refine blk_far ?_ NB325_330.out _; (with_reducible repeat (first | refine blk_drewN ?_ _ | refine blk_drew ?_ | refine blk_alloc ?_ _)); exact BK325.out) hb); have n4_ := Aside0.mk (blk_below (g := gb330) (o := .cells #[.int .i64 ((rd_T30 t326 x25_1).f0), .int .i64 ((rd_T30 t326 x25_1).f1)] 30 (0, 0)) (by (with_reducible repeat (first | refine blk_drewN ?_ _ | refine blk_drew ?_ | refine blk_alloc ?_ _)); refine blk_put (cs := #[.int .i64 ((rd_T30 t326 x25_1).f0), .int .i64 0]) ?_ 1 _ rfl; (with_reducible repeat (first | refine blk_drewN ?_ _ | refine blk_drew ?_ | refine blk_alloc ?_ _)); refine blk_put (cs := #[.int .i64 0, .int .i64 0]) ?_ 0 _ rfl; (with_reducible repeat (first | refine blk_drewN ?_ _ | refine blk_drew ?_ | refine blk_alloc ?_ _)); exact BK330.out) hb); have n5_ := Aside0.mk (below_step (by repeat (first | (with_reducible first | exact HB.out | apply below_alloc | apply pw_below_drewN | apply below_drew1 | refine below_set ?_ GE325.out | refine below_set ?_ GE330.out) | exact HB.out)) hb); clear HO_23; clear HO_326003; clear HO_326004; clear BK325; clear BK330; clear HB; have HO_23 := n0_; have HO_326003 := n1_; have HO_326004 := n2_; have BK325 := n3_; have BK330 := n4_; have HB := n5_; clear n0_ n1_ n2_ n3_ n4_ n5_; (try clear hb); (try clear hb2); (try clear hk); (try clear hi); have hcz36_0 : w35.cell? ⟨gb330, 0, none⟩ = some (.int .i64 ((rd_T30 t326 x25_1).f0)) := (blk_cell BK330.out 0).trans rfl; have hcz36_1 : w35.cell? ⟨gb330, 1, none⟩ = some (.int .i64 ((rd_T30 t326 x25_1).f1)) := (blk_cell BK330.out 1).trans rfl; have hfz36_0 := blk_frozen BK330.out 0; have hfz36_1 := blk_frozen BK330.out 1) | (go_at_call 11; (with_reducible refine (spec_Escaped.calls k1 (a0.extract (((rd_T30 t326 x25_1).f0) : Int).toNat (((rd_T30 t326 x25_1).f1) : Int).toNat) t333 _ A25.out).mono ?_); rintro e w' ⟨rfl, ⟨nd, rfl⟩⟩))
                                go_roundg k1
                                case measure => have := HK1.out; omega
                                case rel => exact ⟨(wrap64 (x25_1 + 1)), (by first | rfl | (simp; done) | (simp [*]; done)), H', ⟨by have := HK1.out; omega⟩, ⟨by (with_reducible repeat (first | apply Kd.R_alloc | apply Kd.R_drewN | apply Kd.R_drew)); exact Kd.R_mono HO_23.out (fun _ hk => hk.1)⟩, ⟨by (with_reducible repeat (first | apply Kd.R_alloc | apply Kd.R_drewN | apply Kd.R_drew)); exact Kd.R_mono HO_326003.out (fun _ hk => hk.1)⟩, ⟨by (with_reducible repeat (first | apply Kd.R_alloc | apply Kd.R_drewN | apply Kd.R_drew)); exact Kd.R_mono HO_326004.out (fun _ hk => ⟨hk.1.1, ⟨hk.1.2.1, hk.1.2.2⟩⟩)⟩, ⟨by (with_reducible repeat (first | refine blk_drewN ?_ _ | refine blk_drew ?_ | refine blk_alloc ?_ _)); exact BK325.out⟩, ⟨by repeat (first | (with_reducible first | exact HB.out | apply below_alloc | apply pw_below_drewN | apply below_drew1 | refine below_set ?_ GE325.out | refine below_set ?_ GE330.out) | exact HB.out)⟩⟩
                            · rw [if_neg c24] at H
                              exact absurd H (by simp)
                          · rw [if_neg c23] at H
                            exact absurd H (by simp)
                        · rw [if_neg c22] at H
                          exact absurd H (by simp)
                      · rw [if_neg c21] at H
                        have c21b0 : (t331 == (wrap64 ((wrap64 (((rd_T30 t326 x25_1).f1) - ((rd_T30 t326 x25_1).f0))) - 1))) = false := beq_eq_false_iff_ne.mpr c21
                        have c21b1 : (t331 != (wrap64 ((wrap64 (((rd_T30 t326 x25_1).f1) - ((rd_T30 t326 x25_1).f0))) - 1))) = true := bne_iff_ne.mpr c21
                        obtain rfl := Option.some.inj H
                        have p329 : 0 ≤ (x25_1 : Int) := of_decide_eq_true (by first | (with_reducible assumption) | assumption)
                        have q329 : x25_1 < (t326.length : Int) := of_decide_eq_true (by first | (with_reducible assumption) | assumption)
                        obtain ⟨ad329, e329, hx329_0, hx329_1⟩ := at_T30 (Kd.R_reads' HO_23.out).2.2 x25_1 p329 q329
                        cases e329
                        replace p329 := eq_true p329
                        replace q329 := eq_true q329
                        go_wp2_with (first | ((with_reducible refine gate_dst (N := 6) rfl ?_); refine box_event ?hg (N := 6) ?hd (cs := #[.int .i64 0, .int .i64 0]) (t := 30) ?hr ?_; (case hd => rfl); (case hg => rfl); (case hr => first | (go_simp; done) | (go_simp; rfl)); intro gb330 hg w37 hbox hb; have n0_ := Aside0.mk (Kd.R_below (Kd.R_elderB (by (with_reducible repeat (first | apply Kd.R_alloc | apply Kd.R_drewN | apply Kd.R_drew)); exact HO_23.out) gb330 (Nat.le_of_eq hg.symm)) hb); have n1_ := Aside0.mk (Kd.R_below (Kd.R_elderB (by (with_reducible repeat (first | apply Kd.R_alloc | apply Kd.R_drewN | apply Kd.R_drew)); exact HO_326003.out) gb330 (Nat.le_of_eq hg.symm)) hb); have n2_ := Aside0.mk (Kd.R_below (Kd.R_elderB (by (with_reducible repeat (first | apply Kd.R_alloc | apply Kd.R_drewN | apply Kd.R_drew)); exact HO_326004.out) gb330 (Nat.le_of_eq hg.symm)) hb); have n3_ := Aside0.mk (blk_below (g := gb325) (o := .cells #[.int .i64 t315, .int .i64 t316, .int .i64 t317, .slice Ao10 t318.length co10, .slice Ao11 t321.length co11] 25 (0, 0)) (by (with_reducible repeat (first | refine blk_drewN ?_ _ | refine blk_drew ?_ | refine blk_alloc ?_ _)); exact BK325.out) hb); have n4_ := Aside0.mk (below_step (by repeat (first | (with_reducible first | exact HB.out | apply below_alloc | apply pw_below_drewN | apply below_drew1 | refine below_set ?_ GE325.out) | exact HB.out)) hb); have n5_ := Aside0.mk (hbox); have n6_ := Aside0.mk ((by rw [hg]; exact (below_size (by repeat (first | (with_reducible first | exact HB.out | apply below_alloc | apply pw_below_drewN | apply below_drew1 | refine below_set ?_ GE325.out) | exact HB.out))) : w.heap.size ≤ gb330)); have n7_ := Aside0.mk ((by rw [hg]; exact (below_size (by repeat (first | (with_reducible first | exact HB.out | apply below_alloc | apply pw_below_drewN | apply below_drew1 | refine below_set ?_ GE325.out) | exact HB.out))) : w.heap.size ≤ gb330)); have n8_ := Aside0.mk ((by rw [hg]; exact Nat.ne_of_lt (blk_lt (g := gb325) (o := .cells #[.int .i64 t315, .int .i64 t316, .int .i64 t317, .slice Ao10 t318.length co10, .slice Ao11 t321.length co11] 25 (0, 0)) (by (with_reducible repeat (first | refine blk_drewN ?_ _ | refine blk_drew ?_ | refine blk_alloc ?_ _)); exact BK325.out)) : gb325 ≠ gb330)); have n9_ := Aside0.mk ((by rw [hg]; exact Nat.ne_of_gt (blk_lt (g := gb325) (o := .cells #[.int .i64 t315, .int .i64 t316, .int .i64 t317, .slice Ao10 t318.length co10, .slice Ao11 t321.length co11] 25 (0, 0)) (by (with_reducible repeat (first | refine blk_drewN ?_ _ | refine blk_drew ?_ | refine blk_alloc ?_ _)); exact BK325.out)) : gb330 ≠ gb325)); clear HO_23; clear HO_326003; clear HO_326004; clear BK325; clear HB; have HO_23 := n0_; have HO_326003 := n1_; have HO_326004 := n2_; have BK325 := n3_; have HB := n4_; have BK330 := n5_; have GW330 := n6_; have GE330 := n7_; have NB325_330 := n8_; have NB330_325 := n9_; clear n0_ n1_ n2_ n3_ n4_ n5_ n6_ n7_ n8_ n9_; clear hb hbox hg; have hnb38 := NB330_325.out; have hnc38 := NB325_330.out; have hcz39_0 : w37.cell? ⟨gb330, 0, none⟩ = some (.int .i64 0) := (blk_cell BK330.out 0).trans rfl; have hcz39_1 : w37.cell? ⟨gb330, 1, none⟩ = some (.int .i64 0) := (blk_cell BK330.out 1).trans rfl; have hfz39_0 := blk_frozen BK330.out 0; have hfz39_1 := blk_frozen BK330.out 1) | ((with_reducible refine gate_callee (f := 10) rfl ?_); refine goesL_ (some 35) rfl rfl Tryd.func10 (by kernel_rfl) rfl #[.string (a0.extract ((ji17) : Int).toNat a0.size)] rfl (by (try simp only [List.map_toArray, List.map_cons, List.map_nil]); first | done | (simp only [hji17]; rfl) | rfl | (simp only [List.length_drop, List.length_take]; rfl)) ?_; (with_reducible refine (impl_JpStringEnd.calls k1 (a0.extract ((ji17) : Int).toNat a0.size) t331 t332 _ ?side1 A20.out).mono ?_); (case side1 => exact Laid.below HLD.out (by repeat (first | (with_reducible first | exact HB.out | apply below_alloc | apply pw_below_drewN | apply below_drew1 | refine below_set ?_ GE325.out | refine below_set ?_ GE330.out) | exact HB.out))); rintro e w40 ⟨rfl, hb⟩; refine ⟨_, rfl, ?_⟩; have n0_ := Aside0.mk (Kd.R_below (by (with_reducible repeat (first | apply Kd.R_alloc | apply Kd.R_drewN | apply Kd.R_drew)); exact (Kd.R_mono (Kd.R_far (p := ⟨gb330, 1, none⟩) (Kd.R_far (p := ⟨gb330, 0, none⟩) (Kd.R_mono HO_23.out (fun k_ hk => (⟨hk, hk.2⟩ : _ ∧ k_ ≠ gb330))) (fun _ hk => hk.2) (.int .i64 ((rd_T30 t326 x25_1).f0))) (fun _ hk => hk.2) (.int .i64 ((rd_T30 t326 x25_1).f1))) (fun _ h_ => h_.1))) hb); have n1_ := Aside0.mk (Kd.R_below (by (with_reducible repeat (first | apply Kd.R_alloc | apply Kd.R_drewN | apply Kd.R_drew)); exact (Kd.R_mono (Kd.R_far (p := ⟨gb330, 1, none⟩) (Kd.R_far (p := ⟨gb330, 0, none⟩) (Kd.R_mono HO_326003.out (fun k_ hk => (⟨hk, hk.2⟩ : _ ∧ k_ ≠ gb330))) (fun _ hk => hk.2) (.int .i64 ((rd_T30 t326 x25_1).f0))) (fun _ hk => hk.2) (.int .i64 ((rd_T30 t326 x25_1).f1))) (fun _ h_ => h_.1))) hb); have n2_ := Aside0.mk (Kd.R_below (by (with_reducible repeat (first | apply Kd.R_alloc | apply Kd.R_drewN | apply Kd.R_drew)); exact (Kd.R_mono (Kd.R_far (p := ⟨gb330, 1, none⟩) (Kd.R_far (p := ⟨gb330, 0, none⟩) (Kd.R_mono HO_326004.out (fun k_ hk => (⟨hk, hk.2⟩ : _ ∧ k_ ≠ gb330))) (fun _ hk => hk.2) (.int .i64 ((rd_T30 t326 x25_1).f0))) (fun _ hk => hk.2) (.int .i64 ((rd_T30 t326 x25_1).f1))) (fun _ h_ => h_.1))) hb); have n3_ := Aside0.mk (blk_below (g := gb325) (o := .cells #[.int .i64 t315, .int .i64 t316, .int .i64 t317, .slice Ao10 t318.length co10, .slice Ao11 t321.length co11] 25 (0, 0)) (by (with_reducible repeat (first | refine blk_drewN ?_ _ | refine blk_drew ?_ | refine blk_alloc ?_ _)); refine blk_far ?_ NB325_330.out _; (with_reducible repeat (first | refine blk_drewN ?_ _ | refine blk_drew ?_ | refine blk_alloc ?_ _)); refine blk_far ?_ NB325_330.out _; (with_reducible repeat (first | refine blk_drewN ?_ _ | refine blk_drew ?_ | refine blk_alloc ?_ _)); exact BK325.out) hb); have n4_ := Aside0.mk (blk_below (g := gb330) (o := .cells #[.int .i64 ((rd_T30 t326 x25_1).f0), .int .i64 ((rd_T30 t326 x25_1).f1)] 30 (0, 0)) (by (with_reducible repeat (first | refine blk_drewN ?_ _ | refine blk_drew ?_ | refine blk_alloc ?_ _)); refine blk_put (cs := #[.int .i64 ((rd_T30 t326 x25_1).f0), .int .i64 0]) ?_ 1 _ rfl; (with_reducible repeat (first | refine blk_drewN ?_ _ | refine blk_drew ?_ | refine blk_alloc ?_ _)); refine blk_put (cs := #[.int .i64 0, .int .i64 0]) ?_ 0 _ rfl; (with_reducible repeat (first | refine blk_drewN ?_ _ | refine blk_drew ?_ | refine blk_alloc ?_ _)); exact BK330.out) hb); have n5_ := Aside0.mk (below_step (by repeat (first | (with_reducible first | exact HB.out | apply below_alloc | apply pw_below_drewN | apply below_drew1 | refine below_set ?_ GE325.out | refine below_set ?_ GE330.out) | exact HB.out)) hb); clear HO_23; clear HO_326003; clear HO_326004; clear BK325; clear BK330; clear HB; have HO_23 := n0_; have HO_326003 := n1_; have HO_326004 := n2_; have BK325 := n3_; have BK330 := n4_; have HB := n5_; clear n0_ n1_ n2_ n3_ n4_ n5_; (try clear hb); (try clear hb2); (try clear hk); (try clear hi); have hcz41_0 : w40.cell? ⟨gb330, 0, none⟩ = some (.int .i64 ((rd_T30 t326 x25_1).f0)) := (blk_cell BK330.out 0).trans rfl; have hcz41_1 : w40.cell? ⟨gb330, 1, none⟩ = some (.int .i64 ((rd_T30 t326 x25_1).f1)) := (blk_cell BK330.out 1).trans rfl; have hfz41_0 := blk_frozen BK330.out 0; have hfz41_1 := blk_frozen BK330.out 1))
                        go_ret
                        exact ⟨by first | rfl | (simp [errW_none, errW_some] <;> rfl) | (simp only [← hji17]; first | rfl | (simp [errW_none, errW_some] <;> rfl)) | (simp [*, errW_none, errW_some] <;> rfl), by repeat (first | (with_reducible first | exact HB.out | apply below_alloc | apply pw_below_drewN | apply below_drew1 | refine below_set ?_ GE325.out | refine below_set ?_ GE330.out) | exact HB.out)⟩
                    · rw [if_neg c19] at H
                      exact absurd H (by simp)
                  · rw [if_neg c18] at H
                    exact absurd H (by simp)
                · rw [if_neg c16] at H
                  exact absurd H (by simp)
              · rw [if_neg c15] at H
                exact absurd H (by simp)
            · rw [if_neg c14] at H
              have c14b0 : decide (x25_1 < (t326.length : Int)) = false := decide_eq_false c14
              clear c14
              obtain rfl := Option.some.inj H
              go_wp2
              go_ret
              exact ⟨by first | rfl | (simp [errW_none, errW_some] <;> rfl) | (simp [*, errW_none, errW_some] <;> rfl), by repeat (first | (with_reducible first | exact HB.out | apply below_alloc | apply pw_below_drewN | apply below_drew1 | refine below_set ?_ GE325.out) | exact HB.out)⟩
      · replace c5 := Bool.eq_false_iff.mpr c5
        subst c5
        have H1 : (some true) = some r := by rw [if_neg (show ¬ (false = true) by decide)] at H; exact H
        clear H
        have H := H1
        clear H1
        obtain rfl := Option.some.inj H
        go_enter Tryd.func3, Tryd.ntmps3
        go_wp2_with (first | ((with_reducible refine gate_callee (f := 8) rfl ?_); refine goesL_ (some 17) rfl rfl Tryd.func8 (by kernel_rfl) rfl #[.string a0] rfl (by (try simp only [List.map_toArray, List.map_cons, List.map_nil]); first | done | rfl | (simp only [List.length_drop, List.length_take]; rfl)) ?_; (with_reducible refine (spec_Places.calls k a0 t315 t316 t317 t318 t321 false _ A4.out).mono ?_); rintro e w42 ⟨v319, v322, rfl, ho0, ho1, hb⟩; refine ⟨_, rfl, ?_⟩; have n0_ := Aside0.mk (Kd.R_lower ho0 (below_size (by repeat (first | (with_reducible first | exact HB.out | apply below_alloc | apply pw_below_drewN | apply below_drew1) | exact HB.out)))); have n1_ := Aside0.mk (Kd.R_lower ho1 (below_size (by repeat (first | (with_reducible first | exact HB.out | apply below_alloc | apply pw_below_drewN | apply below_drew1) | exact HB.out)))); have n2_ := Aside0.mk (below_step (by repeat (first | (with_reducible first | exact HB.out | apply below_alloc | apply pw_below_drewN | apply below_drew1) | exact HB.out)) hb); clear HB; have HO320 := n0_; have HO323 := n1_; have HB := n2_; clear n0_ n1_ n2_; (try clear hb); (try clear hb2); (try clear hk); (try clear hi); (try clear ho0); (try clear ho1)) | ((with_reducible refine gate_dst (N := 3) rfl ?_); refine box_event ?hg (N := 3) ?hd (cs := #[.int .i64 0, .int .i64 0, .int .i64 0, .slice none 0 0, .slice none 0 0]) (t := 25) ?hr ?_; (case hd => rfl); (case hg => rfl); (case hr => first | (go_simp; done) | (go_simp; rfl)); intro gb325 hg w43 hbox hb; have n0_ := Aside0.mk (Kd.R_below (by (with_reducible repeat (first | apply Kd.R_alloc | apply Kd.R_drewN | apply Kd.R_drew)); exact HO320.out) hb); have n1_ := Aside0.mk (Kd.R_below (Kd.R_elderB (by (with_reducible repeat (first | apply Kd.R_alloc | apply Kd.R_drewN | apply Kd.R_drew)); exact HO323.out) gb325 (Nat.le_of_eq hg.symm)) hb); have n2_ := Aside0.mk (below_step (by repeat (first | (with_reducible first | exact HB.out | apply below_alloc | apply pw_below_drewN | apply below_drew1) | exact HB.out)) hb); have n3_ := Aside0.mk (hbox); have n4_ := Aside0.mk ((by rw [hg]; exact (below_size (by repeat (first | (with_reducible first | exact HB.out | apply below_alloc | apply pw_below_drewN | apply below_drew1) | exact HB.out))) : w.heap.size ≤ gb325)); have n5_ := Aside0.mk ((by rw [hg]; exact (below_size (by repeat (first | (with_reducible first | exact HB.out | apply below_alloc | apply pw_below_drewN | apply below_drew1) | exact HB.out))) : w.heap.size ≤ gb325)); clear HO320; clear HO323; clear HB; have HO320 := n0_; have HO323 := n1_; have HB := n2_; have BK325 := n3_; have GW325 := n4_; have GE325 := n5_; clear n0_ n1_ n2_ n3_ n4_ n5_; clear hb hbox hg; have hcz44_0 : w43.cell? ⟨gb325, 0, none⟩ = some (.int .i64 0) := (blk_cell BK325.out 0).trans rfl; have hcz44_1 : w43.cell? ⟨gb325, 1, none⟩ = some (.int .i64 0) := (blk_cell BK325.out 1).trans rfl; have hcz44_2 : w43.cell? ⟨gb325, 2, none⟩ = some (.int .i64 0) := (blk_cell BK325.out 2).trans rfl; have hcz44_3 : w43.cell? ⟨gb325, 3, none⟩ = some (.slice none 0 0) := (blk_cell BK325.out 3).trans rfl; have hcz44_4 : w43.cell? ⟨gb325, 4, none⟩ = some (.slice none 0 0) := (blk_cell BK325.out 4).trans rfl; have hfz44_0 := blk_frozen BK325.out 0; have hfz44_1 := blk_frozen BK325.out 1; have hfz44_2 := blk_frozen BK325.out 2; have hfz44_3 := blk_frozen BK325.out 3; have hfz44_4 := blk_frozen BK325.out 4; obtain ⟨Ao45, co45, eo45⟩ := Kd.R_slice HO320.out; subst eo45; obtain ⟨Ao46, co46, eo46⟩ := Kd.R_slice HO323.out; subst eo46))
        go_ret
        exact ⟨by first | rfl | (simp [errW_none, errW_some] <;> rfl) | (simp [*, errW_none, errW_some] <;> rfl), by repeat (first | (with_reducible first | exact HB.out | apply below_alloc | apply pw_below_drewN | apply below_drew1 | refine below_set ?_ GE325.out) | exact HB.out)⟩

/-- THE ONE PURE STATEMENT of laws_FnJpStringPlace: yours. -/
def laws_FnJpStringPlace.Pure : Prop := ∀ (a0 : ByteArray), a0.size ≤ 140737488351232 → ∃ k, laws_FnJpStringPlace.f k a0 = some true
theorem laws_FnJpStringPlace.walk (P : laws_FnJpStringPlace.Pure) (a0 : ByteArray) (w : World) (hL : Laid w) (w0 : a0.size ≤ 140737488351232) :
    Calls Tryd.prog 3 #[.string a0] w fun e w' => e = .returned (.bool true) ∧ Below w.heap.size w w' := by
  obtain ⟨k, h⟩ := P a0 w0
  refine (laws_FnJpStringPlace.calls k a0 true w hL h).mono ?_
  rintro e w' ⟨rfl, hd⟩
  exact ⟨rfl, hd⟩

end Go.Proofs.YtkdpkenhhcgnbaaDoor.PFnJpStringPlace
