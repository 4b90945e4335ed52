-- Written for this claim by this session's own program (wip/xprint).
import Derived.Test.YtikdecjojfmjaaaPFnGjTrimBetweenx0
namespace Go.Proofs.Ytikdecjojfmjaaa.PFnGjTrimBetween
open Go.RowKit Go.Proofs.YtikdecjojfmjaaaW.PrintWords Go.Proofs.YtikdecjojfmjaaaW.PrintLast Go.Proofs.YtikdecjojfmjaaaW.PrintMore
attribute [local go_sem] max2_int min2_int max_two min_two max_three min_three max_four min_four   -- for this text's walks alone
set_option linter.unusedVariables false
set_option linter.unusedSimpArgs false

/-! ### gjson_DoorTrim: function 25 -/
def gjson_DoorTrim.f (a0 : ByteArray) : Option (ByteArray) := (gjson_trim.f a0).bind fun t101 => (some t101)
set_option maxHeartbeats 8000000 in
set_option maxRecDepth 100000 in
theorem gjson_DoorTrim.calls (a0 : ByteArray) (r : ByteArray) (w : World) (h : gjson_DoorTrim.f a0 = some r) :
    Calls Try.prog 25 #[.string a0] w fun e w' => e = .returned (.string r) ∧ Drawn0 w w' := by
  have H : ((gjson_trim.f a0).bind fun t101 => (some t101)) = some r := h
  clear h
  replace H := Option.bind_eq_some_iff.mp H
  obtain ⟨t101, A20, H⟩ := H
  replace H : (some t101) = some r := H
  have A2 := Aside0.mk A20
  clear A20
  obtain rfl := Option.some.inj H
  go_enter Try.func25, Try.ntmps25
  go_wp2_with (first | ((with_reducible refine gate_callee (f := 38) rfl ?_); refine goesL_ (some 4) rfl rfl Try.func38 (by kernel_rfl) rfl #[.string a0] rfl (by (try simp only [List.map_toArray, List.map_cons, List.map_nil]); first | done | rfl | (simp only [List.length_drop, List.length_take]; rfl)) ?_; (with_reducible refine (gjson_trim.calls a0 t101 _ A2.out).mono ?_); rintro e w' ⟨rfl, ⟨nd, rfl⟩⟩; refine ⟨_, rfl, ?_⟩))
  go_ret
  exact ⟨by first | rfl | (simp; done) | (simp [*]; done), by repeat (first | exact Drawn0.refl _ | apply Drawn0.step)⟩

/-! ### impl_GjTrim: function 9 -/
def impl_GjTrim.f (a0 : ByteArray) : Option (ByteArray) := (gjson_DoorTrim.f a0).bind fun t102 => (some t102)
set_option maxHeartbeats 8000000 in
set_option maxRecDepth 100000 in
theorem impl_GjTrim.calls (a0 : ByteArray) (r : ByteArray) (w : World) (h : impl_GjTrim.f a0 = some r) :
    Calls Try.prog 9 #[.string a0] w fun e w' => e = .returned (.string r) ∧ Drawn0 w w' := by
  have H : ((gjson_DoorTrim.f a0).bind fun t102 => (some t102)) = some r := h
  clear h
  replace H := Option.bind_eq_some_iff.mp H
  obtain ⟨t102, A20, H⟩ := H
  replace H : (some t102) = some r := H
  have A2 := Aside0.mk A20
  clear A20
  obtain rfl := Option.some.inj H
  go_enter Try.func9, Try.ntmps9
  go_wp2_with (first | ((with_reducible refine gate_callee (f := 25) rfl ?_); refine goesL_ (some 4) rfl rfl Try.func25 (by kernel_rfl) rfl #[.string a0] rfl (by (try simp only [List.map_toArray, List.map_cons, List.map_nil]); first | done | rfl | (simp only [List.length_drop, List.length_take]; rfl)) ?_; (with_reducible refine (gjson_DoorTrim.calls a0 t102 _ A2.out).mono ?_); rintro e w' ⟨rfl, ⟨nd, rfl⟩⟩; refine ⟨_, rfl, ?_⟩))
  go_ret
  exact ⟨by first | rfl | (simp; done) | (simp [*]; done), by repeat (first | exact Drawn0.refl _ | apply Drawn0.step)⟩

/-! ### laws_FnGjTrimBetween: function 3 -/
mutual
def laws_FnGjTrimBetween.j0 : Nat → ByteArray → Int → Int → Bool → Option (Bool)
  | 0, _, _, _, _ => none
  | k + 1, x0, x1, x2, x40 => if x40 = true then (some true) else (laws_FnGjTrimBetween.l0 k x0 x1 x2 (⟨#[]⟩ : ByteArray) 0)
def laws_FnGjTrimBetween.l0 : Nat → ByteArray → Int → Int → ByteArray → Int → Option (Bool)
  | 0, _, _, _, _, _ => none
  | k + 1, x0, x1, x2, x7, x8 => if x8 < x2 then ((some (([(⟨#[32]⟩ : ByteArray), (⟨#[9]⟩ : ByteArray), (⟨#[10]⟩ : ByteArray), (⟨#[13]⟩ : ByteArray)] : List ByteArray) : List ByteArray)).bind fun y103 => (if 0 ≤ (IntKind.u64.wrap (2 * (IntKind.u64.wrap (x8)))) then (if 0 ≤ (Go.bits .and .u64 (shr .u64 x1 (IntKind.u64.wrap (2 * (IntKind.u64.wrap (x8))))) 3) then (if (Go.bits .and .u64 (shr .u64 x1 (IntKind.u64.wrap (2 * (IntKind.u64.wrap (x8))))) 3) < (y103.length : Int) then (if x7.size + (rdOf ByteArray.empty y103 (Go.bits .and .u64 (shr .u64 x1 (IntKind.u64.wrap (2 * (IntKind.u64.wrap (x8))))) 3)).size ≤ 9223372036854775807 then (laws_FnGjTrimBetween.l0 k x0 x1 x2 (x7 ++ (rdOf ByteArray.empty y103 (Go.bits .and .u64 (shr .u64 x1 (IntKind.u64.wrap (2 * (IntKind.u64.wrap (x8))))) 3))) (wrap64 (x8 + 1))) else (none)) else (none)) else (none)) else (none))) else (if x7.size + x0.size ≤ 9223372036854775807 then (if (x7 ++ x0).size + x7.size ≤ 9223372036854775807 then ((impl_GjTrim.f ((x7 ++ x0) ++ x7)).bind fun t107 => (if t107.toList = x0.toList then ((impl_GjTrim.f t107).bind fun t108 => (some (t108.toList == t107.toList))) else (some false))) else (none)) else (none))
end
def laws_FnGjTrimBetween.f (k : Nat) (a0 : ByteArray) (a1 : Int) (a2 : Int) : Option (Bool) := if (a0.size : Int) > 2147483647 then (some true) else (if a2 < 0 then (laws_FnGjTrimBetween.j0 k a0 a1 a2 true) else (if a2 > 32 then (laws_FnGjTrimBetween.j0 k a0 a1 a2 true) else (if (a0.size : Int) > 4096 then (laws_FnGjTrimBetween.j0 k a0 a1 a2 true) else (if a0.toList = ([] : List UInt8) then (laws_FnGjTrimBetween.j0 k a0 a1 a2 true) else (if 0 < (a0.size : Int) then (if (bt a0 0) ≤ 32 then (laws_FnGjTrimBetween.j0 k a0 a1 a2 true) else (if 0 ≤ (wrap64 ((a0.size : Int) - 1)) then (if (wrap64 ((a0.size : Int) - 1)) < (a0.size : Int) then (laws_FnGjTrimBetween.j0 k a0 a1 a2 (decide ((bt a0 (wrap64 ((a0.size : Int) - 1))) ≤ 32))) else (none)) else (none))) else (none))))))
theorem laws_FnGjTrimBetween.mono_l : ∀ k, (∀ y0 y1 y2 y3, LeO (laws_FnGjTrimBetween.j0 k y0 y1 y2 y3) (laws_FnGjTrimBetween.j0 (k + 1) y0 y1 y2 y3)) ∧ (∀ y0 y1 y2 y3 y4, LeO (laws_FnGjTrimBetween.l0 k y0 y1 y2 y3 y4) (laws_FnGjTrimBetween.l0 (k + 1) y0 y1 y2 y3 y4))
  | 0 => ⟨fun _ _ _ _ r h => by simp [laws_FnGjTrimBetween.j0] at h, fun _ _ _ _ _ r h => by simp [laws_FnGjTrimBetween.l0] at h⟩
  | k + 1 => by
    obtain ⟨ih0, ih1⟩ := laws_FnGjTrimBetween.mono_l k
    refine ⟨?_, ?_⟩
    · intro y0 y1 y2 y3
      unfold laws_FnGjTrimBetween.j0
      repeat' first
      | (with_reducible exact ih0 _ _ _ _)
      | (with_reducible exact ih1 _ _ _ _ _)
      | (with_reducible exact LeO.refl _)
      | (with_reducible exact LeO.none _)
      | (with_reducible refine LeO.ite ?_ ?_)
      | (with_reducible refine LeO.bind ?_ (fun _ => ?_))
      | exact ih0 _ _ _ _
      | exact ih1 _ _ _ _ _
      | exact LeO.none _
      | refine LeO.ite ?_ ?_
      | refine LeO.bind ?_ (fun _ => ?_)
    · intro y0 y1 y2 y3 y4
      unfold laws_FnGjTrimBetween.l0
      repeat' first
      | (with_reducible exact ih0 _ _ _ _)
      | (with_reducible exact ih1 _ _ _ _ _)
      | (with_reducible exact LeO.refl _)
      | (with_reducible exact LeO.none _)
      | (with_reducible refine LeO.ite ?_ ?_)
      | (with_reducible refine LeO.bind ?_ (fun _ => ?_))
      | exact ih0 _ _ _ _
      | exact ih1 _ _ _ _ _
      | exact LeO.none _
      | refine LeO.ite ?_ ?_
      | refine LeO.bind ?_ (fun _ => ?_)
theorem laws_FnGjTrimBetween.mono : ∀ a0 a1 a2 k, LeO (laws_FnGjTrimBetween.f k a0 a1 a2) (laws_FnGjTrimBetween.f (k + 1) a0 a1 a2) := by
  intro a0 a1 a2 k
  obtain ⟨ih0, ih1⟩ := laws_FnGjTrimBetween.mono_l k
  unfold laws_FnGjTrimBetween.f
  repeat' first
      | (with_reducible exact ih0 _ _ _ _)
      | (with_reducible exact ih1 _ _ _ _ _)
      | (with_reducible exact LeO.refl _)
      | (with_reducible exact LeO.none _)
      | (with_reducible refine LeO.ite ?_ ?_)
      | (with_reducible refine LeO.bind ?_ (fun _ => ?_))
      | exact ih0 _ _ _ _
      | exact ih1 _ _ _ _ _
      | exact LeO.none _
      | refine LeO.ite ?_ ?_
      | refine LeO.bind ?_ (fun _ => ?_)
set_option maxHeartbeats 8000000 in
set_option maxRecDepth 100000 in
theorem laws_FnGjTrimBetween.calls (k : Nat) (a0 : ByteArray) (a1 : Int) (a2 : Int) (r : Bool) (w : World) (h : laws_FnGjTrimBetween.f k a0 a1 a2 = some r) :
    Calls Try.prog 3 #[.string a0, .int .u64 a1, .int .i64 a2] w fun e w' => e = .returned (.bool r) ∧ Below w.heap.size w w' := by
  have HB := Aside0.mk (Below.refl w.heap.size w)
  have H : (if (a0.size : Int) > 2147483647 then (some true) else (if a2 < 0 then (laws_FnGjTrimBetween.j0 k a0 a1 a2 true) else (if a2 > 32 then (laws_FnGjTrimBetween.j0 k a0 a1 a2 true) else (if (a0.size : Int) > 4096 then (laws_FnGjTrimBetween.j0 k a0 a1 a2 true) else (if a0.toList = ([] : List UInt8) then (laws_FnGjTrimBetween.j0 k a0 a1 a2 true) else (if 0 < (a0.size : Int) then (if (bt a0 0) ≤ 32 then (laws_FnGjTrimBetween.j0 k a0 a1 a2 true) else (if 0 ≤ (wrap64 ((a0.size : Int) - 1)) then (if (wrap64 ((a0.size : Int) - 1)) < (a0.size : Int) then (laws_FnGjTrimBetween.j0 k a0 a1 a2 (decide ((bt a0 (wrap64 ((a0.size : Int) - 1))) ≤ 32))) else (none)) else (none))) else (none))))))) = some r := h
  clear h
  by_cases c4 : (a0.size : Int) > 2147483647
  · rw [if_pos c4] at H
    have c4b0 : decide (2147483647 < (a0.size : Int)) = true := decide_eq_true c4
    have c4b1 : decide (2147483647 < a0.size) = true := decide_eq_true (by omega)
    clear c4
    obtain rfl := Option.some.inj H
    go_enter Try.func3, Try.ntmps3
    go_wp2
    go_ret
    exact ⟨by first | rfl | (simp [errW_none, errW_some] <;> rfl) | (simp [*, errW_none, errW_some] <;> rfl), by repeat (first | (with_reducible first | exact HB.out | apply below_alloc | apply pw_below_drewN | apply below_drew1) | exact HB.out)⟩
  · rw [if_neg c4] at H
    have c4b0 : decide (2147483647 < (a0.size : Int)) = false := decide_eq_false c4
    have c4b1 : decide (2147483647 < a0.size) = false := decide_eq_false (by omega)
    clear c4
    have HC5 := Aside0.mk H
    clear H
    go_enter Try.func3, Try.ntmps3
    go_upto_region 3 with (fail)
    go_cut [40] (fun v40 wc => ∃ (kq : Nat) (x40_4 : Bool), v40 = .bool x40_4 ∧ Aside0 (laws_FnGjTrimBetween.j0 kq a0 a1 a2 x40_4 = some r) ∧ Aside0 (kq ≤ k) ∧ Aside0 (Below w.heap.size w wc))
    case first =>
      have H := HC5.out
      clear HC5
      by_cases c6 : a2 < 0
      · rw [if_pos c6] at H
        have c6b0 : decide (a2 < 0) = true := decide_eq_true c6
        clear c6
        (first | rw [c6b0] | (simp only [i64_w, i32_w]; rw [c6b0]) | skip)
        have H' := Aside0.mk H
        clear H
        go_wp2
        go_meet
        case rel => exact ⟨_, (true), (by first | rfl | (simp; done) | (simp [*]; done)), H', ⟨by first | omega | exact Nat.le_refl _⟩, ⟨by repeat (first | (with_reducible first | exact HB.out | apply below_alloc | apply pw_below_drewN | apply below_drew1) | exact HB.out)⟩⟩
      · rw [if_neg c6] at H
        have c6b0 : decide (a2 < 0) = false := decide_eq_false c6
        clear c6
        (first | rw [c6b0] | (simp only [i64_w, i32_w]; rw [c6b0]) | skip)
        by_cases c7 : a2 > 32
        · rw [if_pos c7] at H
          have c7b0 : decide (32 < a2) = true := decide_eq_true c7
          clear c7
          have H' := Aside0.mk H
          clear H
          go_wp2
          go_meet
          case rel => exact ⟨_, (true), (by first | rfl | (simp; done) | (simp [*]; done)), H', ⟨by first | omega | exact Nat.le_refl _⟩, ⟨by repeat (first | (with_reducible first | exact HB.out | apply below_alloc | apply pw_below_drewN | apply below_drew1) | exact HB.out)⟩⟩
        · rw [if_neg c7] at H
          have c7b0 : decide (32 < a2) = false := decide_eq_false c7
          clear c7
          by_cases c8 : (a0.size : Int) > 4096
          · rw [if_pos c8] at H
            have c8b0 : decide (4096 < (a0.size : Int)) = true := decide_eq_true c8
            have c8b1 : decide (4096 < a0.size) = true := decide_eq_true (by omega)
            clear c8
            have H' := Aside0.mk H
            clear H
            go_wp2
            go_meet
            case rel => exact ⟨_, (true), (by first | rfl | (simp; done) | (simp [*]; done)), H', ⟨by first | omega | exact Nat.le_refl _⟩, ⟨by repeat (first | (with_reducible first | exact HB.out | apply below_alloc | apply pw_below_drewN | apply below_drew1) | exact HB.out)⟩⟩
          · rw [if_neg c8] at H
            have c8b0 : decide (4096 < (a0.size : Int)) = false := decide_eq_false c8
            have c8b1 : decide (4096 < a0.size) = false := decide_eq_false (by omega)
            clear c8
            by_cases c9 : a0.toList = ([] : List UInt8)
            · rw [if_pos c9] at H
              have c9b0 : (a0.toList == ([] : List UInt8)) = true := beq_iff_eq.mpr c9
              have c9b1 : (a0.toList != ([] : List UInt8)) = false := bne_eq_false_iff_eq.mpr c9
              clear c9
              have H' := Aside0.mk H
              clear H
              go_wp2
              go_meet
              case rel => exact ⟨_, (true), (by first | rfl | (simp; done) | (simp [*]; done)), H', ⟨by first | omega | exact Nat.le_refl _⟩, ⟨by repeat (first | (with_reducible first | exact HB.out | apply below_alloc | apply pw_below_drewN | apply below_drew1) | exact HB.out)⟩⟩
            · rw [if_neg c9] at H
              have c9b0 : (a0.toList == ([] : List UInt8)) = false := beq_eq_false_iff_ne.mpr c9
              have c9b1 : (a0.toList != ([] : List UInt8)) = true := bne_iff_ne.mpr c9
              by_cases c10 : 0 < (a0.size : Int)
              · rw [if_pos c10] at H
                have c10b0 : decide (0 < (a0.size : Int)) = true := decide_eq_true c10
                have c10b1 : decide (0 < a0.size) = true := decide_eq_true (by omega)
                clear c10
                by_cases c12 : (bt a0 0) ≤ 32
                · rw [if_pos c12] at H
                  have c12b0 : decide ((bt a0 0) ≤ 32) = true := decide_eq_true c12
                  clear c12
                  have H' := Aside0.mk H
                  clear H
                  have p11 : 0 ≤ (0 : Int) := (by omega)
                  have q11 : 0 < a0.size := (by have : (0 : Int) < (a0.size : Int) := of_decide_eq_true (by first | (with_reducible assumption) | assumption); omega)
                  have hx11 : ∀ h : 0 < a0.size, ((a0[0]'h).toNat : Int) = bt a0 0 := bt_at a0 0
                  clear p11
                  have qi11 : (0 < (a0.size : Int)) = True := eq_true (of_decide_eq_true (by first | (with_reducible assumption) | assumption))
                  replace q11 := eq_true q11
                  go_wp2
                  go_meet
                  case rel => exact ⟨_, (true), (by first | rfl | (simp; done) | (simp [*]; done)), H', ⟨by first | omega | exact Nat.le_refl _⟩, ⟨by repeat (first | (with_reducible first | exact HB.out | apply below_alloc | apply pw_below_drewN | apply below_drew1) | exact HB.out)⟩⟩
                · rw [if_neg c12] at H
                  have c12b0 : decide ((bt a0 0) ≤ 32) = false := decide_eq_false c12
                  clear c12
                  obtain ⟨ji13, hji13⟩ : ∃ j_ : Int, (wrap64 ((a0.size : Int) - 1)) = j_ := ⟨_, rfl⟩
                  replace H : (if 0 ≤ (ji13) then (if (ji13) < (a0.size : Int) then (laws_FnGjTrimBetween.j0 k a0 a1 a2 (decide ((bt a0 (ji13)) ≤ 32))) else (none)) else (none)) = some r := by first | (rw [hji13] at H; exact H) | (simp only [hji13] at H ⊢; exact H)
                  have hji13w : (IntKind.i64.wrap ((a0.size : Int) - 1)) = ji13 := (i64_w _).trans hji13
                  by_cases c14 : 0 ≤ (ji13)
                  · rw [if_pos c14] at H
                    have c14b0 : decide (0 ≤ (ji13)) = true := decide_eq_true c14
                    clear c14
                    by_cases c15 : (ji13) < (a0.size : Int)
                    · rw [if_pos c15] at H
                      have c15b0 : decide ((ji13) < (a0.size : Int)) = true := decide_eq_true c15
                      clear c15
                      have H' := Aside0.mk H
                      clear H
                      have p11 : 0 ≤ (0 : Int) := (by omega)
                      have q11 : 0 < a0.size := (by have : (0 : Int) < (a0.size : Int) := of_decide_eq_true (by first | (with_reducible assumption) | assumption); omega)
                      have hx11 : ∀ h : 0 < a0.size, ((a0[0]'h).toNat : Int) = bt a0 0 := bt_at a0 0
                      clear p11
                      have qi11 : (0 < (a0.size : Int)) = True := eq_true (of_decide_eq_true (by first | (with_reducible assumption) | assumption))
                      replace q11 := eq_true q11
                      have p16 : 0 ≤ ((ji13) : Int) := of_decide_eq_true (by first | (with_reducible assumption) | assumption)
                      have q16 : (ji13) < (a0.size : Int) := of_decide_eq_true (by first | (with_reducible assumption) | assumption)
                      have hx16 := bt_at a0 (ji13)
                      replace p16 := eq_true p16
                      replace q16 := eq_true q16
                      go_wp2
                      go_meet
                      case rel => exact ⟨_, (decide ((bt a0 (ji13)) ≤ 32)), (by first | rfl | (simp; done) | (simp only [← hji13] <;> (first | rfl | simp)) | (simp [*]; done)), H', ⟨by first | omega | exact Nat.le_refl _⟩, ⟨by repeat (first | (with_reducible first | exact HB.out | apply below_alloc | apply pw_below_drewN | apply below_drew1) | exact HB.out)⟩⟩
                    · rw [if_neg c15] at H
                      exact absurd H (by simp)
                  · rw [if_neg c14] at H
                    exact absurd H (by simp)
              · rw [if_neg c10] at H
                exact absurd H (by simp)
    case rest =>
      clear HC5
      try clear c1
      try clear p1
      try clear q1
      try clear hx1
      try clear qi1
      try clear p2
      try clear c3
      try clear c4
      try clear c4b0
      try clear c4b1
      try clear c6
      try clear c6b0
      try clear p6
      try clear c7
      try clear c7b0
      try clear c8
      try clear c8b0
      try clear c8b1
      try clear c9
      try clear c9b0
      try clear c9b1
      try clear c10
      try clear c10b0
      try clear c10b1
      try clear p11
      try clear q11
      try clear hx11
      try clear qi11
      try clear c12
      try clear c12b0
      try clear c14
      try clear c14b0
      try clear c15
      try clear c15b0
      try clear p16
      try clear q16
      try clear hx16
      try clear p11
      try clear p16
      try clear q11
      try clear q16
      obtain ⟨kq, x40_4, rfl, HA, HJ4, HB⟩ := hcut
      cases kq with
      | zero => exact absurd HA.out (by simp [laws_FnGjTrimBetween.j0])
      | succ kj4 =>
        have H := HA.out
        clear HA
        simp only [laws_FnGjTrimBetween.j0] at H
        by_cases c17 : x40_4 = true
        · subst c17
          have H1 : (some true) = some r := by rw [if_pos rfl] at H; exact H
          clear H
          have H := H1
          clear H1
          obtain rfl := Option.some.inj H
          go_wp2
          go_ret
          exact ⟨by first | rfl | (simp [errW_none, errW_some] <;> rfl) | (simp [*, errW_none, errW_some] <;> rfl), by repeat (first | (with_reducible first | exact HB.out | apply below_alloc | apply pw_below_drewN | apply below_drew1) | exact HB.out)⟩
        · replace c17 := Bool.eq_false_iff.mpr c17
          subst c17
          have H1 : (laws_FnGjTrimBetween.l0 kj4 a0 a1 a2 (⟨#[]⟩ : ByteArray) 0) = some r := by rw [if_neg (show ¬ (false = true) by decide)] at H; exact H
          clear H
          have H := H1
          clear H1
          have H' := Aside0.mk H
          clear H
          go_wp2
          (try simp only [Act.put, List.setIfInBounds_toArray, List.set_cons_zero, List.set_cons_succ])
          go_loopg [7, 8] kj4 (fun kq v7 v8 w' => ∃ (x7_2 : ByteArray) (x8_2 : Int), v7 = .string x7_2 ∧ v8 = .int .i64 x8_2 ∧ Aside0 (laws_FnGjTrimBetween.l0 kq a0 a1 a2 x7_2 x8_2 = some r) ∧ Aside0 (kq ≤ kj4) ∧ Aside0 (Below w.heap.size w w'))
          case atStart => exact ⟨((⟨#[]⟩ : ByteArray)), (0), (by first | rfl | (simp; done) | (simp [*]; done)), (by first | rfl | (simp; done) | (simp [*]; done)), H', ⟨Nat.le_refl _⟩, ⟨by repeat (first | (with_reducible first | exact HB.out | apply below_alloc | apply pw_below_drewN | apply below_drew1) | exact HB.out)⟩⟩
          case round =>
            clear H'
            try clear c1
            try clear p1
            try clear q1
            try clear hx1
            try clear qi1
            try clear p2
            try clear c3
            try clear c4
            try clear c4b0
            try clear c4b1
            try clear c6
            try clear c6b0
            try clear p6
            try clear c7
            try clear c7b0
            try clear c8
            try clear c8b0
            try clear c8b1
            try clear c9
            try clear c9b0
            try clear c9b1
            try clear c10
            try clear c10b0
            try clear c10b1
            try clear p11
            try clear q11
            try clear hx11
            try clear qi11
            try clear c12
            try clear c12b0
            try clear c14
            try clear c14b0
            try clear c15
            try clear c15b0
            try clear p16
            try clear q16
            try clear hx16
            try clear c17
            try clear p1
            try clear p11
            try clear p16
            try clear p2
            try clear p6
            try clear q1
            try clear q11
            try clear q16
            obtain ⟨x7_2, x8_2, rfl, rfl, HA, HK2, HB⟩ := hrel
            cases gk with
            | zero => exact absurd HA.out (by simp [laws_FnGjTrimBetween.l0])
            | succ k2 =>
              have H := HA.out
              clear HA
              simp only [laws_FnGjTrimBetween.l0] at H
              by_cases c18 : x8_2 < a2
              · rw [if_pos c18] at H
                have c18b0 : decide (x8_2 < a2) = true := decide_eq_true c18
                clear c18
                obtain ⟨y103, hy103⟩ : ∃ y_ : List ByteArray, y_ = (([(⟨#[32]⟩ : ByteArray), (⟨#[9]⟩ : ByteArray), (⟨#[10]⟩ : ByteArray), (⟨#[13]⟩ : ByteArray)] : List ByteArray)) := ⟨_, rfl⟩
                replace H : (if 0 ≤ (IntKind.u64.wrap (2 * (IntKind.u64.wrap (x8_2)))) then (if 0 ≤ (Go.bits .and .u64 (shr .u64 a1 (IntKind.u64.wrap (2 * (IntKind.u64.wrap (x8_2))))) 3) then (if (Go.bits .and .u64 (shr .u64 a1 (IntKind.u64.wrap (2 * (IntKind.u64.wrap (x8_2))))) 3) < (y103.length : Int) then (if x7_2.size + (rdOf ByteArray.empty y103 (Go.bits .and .u64 (shr .u64 a1 (IntKind.u64.wrap (2 * (IntKind.u64.wrap (x8_2))))) 3)).size ≤ 9223372036854775807 then (laws_FnGjTrimBetween.l0 k2 a0 a1 a2 (x7_2 ++ (rdOf ByteArray.empty y103 (Go.bits .and .u64 (shr .u64 a1 (IntKind.u64.wrap (2 * (IntKind.u64.wrap (x8_2))))) 3))) (wrap64 (x8_2 + 1))) else (none)) else (none)) else (none)) else (none)) = some r := by first | (rw [hy103]; with_reducible exact H) | (have H2_ := (Option.bind_some _ _).symm.trans H; rw [hy103]; with_reducible exact H2_) | (have H2_ := (Option.bind_some _ _).symm.trans H; with_reducible exact H2_) | with_reducible exact H | (rw [hy103]; exact H) | exact H
                have Ny103 := Aside0.mk hy103
                clear hy103
                obtain ⟨ji19, hji19⟩ : ∃ j_ : Int, (IntKind.u64.wrap (2 * (IntKind.u64.wrap (x8_2)))) = j_ := ⟨_, rfl⟩
                replace H : (if 0 ≤ (ji19) then (if 0 ≤ (Go.bits .and .u64 (shr .u64 a1 (ji19)) 3) then (if (Go.bits .and .u64 (shr .u64 a1 (ji19)) 3) < (y103.length : Int) then (if x7_2.size + (rdOf ByteArray.empty y103 (Go.bits .and .u64 (shr .u64 a1 (ji19)) 3)).size ≤ 9223372036854775807 then (laws_FnGjTrimBetween.l0 k2 a0 a1 a2 (x7_2 ++ (rdOf ByteArray.empty y103 (Go.bits .and .u64 (shr .u64 a1 (ji19)) 3))) (wrap64 (x8_2 + 1))) else (none)) else (none)) else (none)) else (none)) = some r := by first | (rw [hji19] at H; exact H) | (simp only [hji19] at H ⊢; exact H)
                by_cases c20 : 0 ≤ (ji19)
                · rw [if_pos c20] at H
                  have c20b0 := eq_true c20
                  have c20b1 : decide (0 ≤ (ji19)) = true := decide_eq_true c20
                  clear c20
                  obtain ⟨ji21, hji21⟩ : ∃ j_ : Int, (shr .u64 a1 (ji19)) = j_ := ⟨_, rfl⟩
                  replace H : (if 0 ≤ (Go.bits .and .u64 (ji21) 3) then (if (Go.bits .and .u64 (ji21) 3) < (y103.length : Int) then (if x7_2.size + (rdOf ByteArray.empty y103 (Go.bits .and .u64 (ji21) 3)).size ≤ 9223372036854775807 then (laws_FnGjTrimBetween.l0 k2 a0 a1 a2 (x7_2 ++ (rdOf ByteArray.empty y103 (Go.bits .and .u64 (ji21) 3))) (wrap64 (x8_2 + 1))) else (none)) else (none)) else (none)) = some r := by first | (rw [hji21] at H; exact H) | (simp only [hji21] at H ⊢; exact H)
                  have hji21_ : (a1 / 2 ^ min (ji19).toNat 64) = ji21 := hji21
                  have hji21z : (ji19) ≤ 64 → (a1 / 2 ^ (ji19).toNat) = ji21 := shr_small hji21
                  by_cases c22 : 0 ≤ (Go.bits .and .u64 (ji21) 3)
                  · rw [if_pos c22] at H
                    have c22b0 : decide (0 ≤ (Go.bits .and .u64 (ji21) 3)) = true := decide_eq_true c22
                    clear c22
                    by_cases c23 : (Go.bits .and .u64 (ji21) 3) < (y103.length : Int)
                    · rw [if_pos c23] at H
                      have c23b0 : decide ((Go.bits .and .u64 (ji21) 3) < (y103.length : Int)) = true := decide_eq_true c23
                      clear c23
                      by_cases c24 : x7_2.size + (rdOf ByteArray.empty y103 (Go.bits .and .u64 (ji21) 3)).size ≤ 9223372036854775807
                      · rw [if_pos c24] at H
                        have c24b0 := eq_true c24
                        have c24b1 : decide (x7_2.size + (rdOf ByteArray.empty y103 (Go.bits .and .u64 (ji21) 3)).size ≤ 9223372036854775807) = true := decide_eq_true c24
                        try have c24b2 : (9223372036854775807 < x7_2.size + (rdOf ByteArray.empty y103 (Go.bits .and .u64 (ji21) 3)).size) = False := eq_false (Nat.not_lt.2 c24)
                        have H' := Aside0.mk H
                        clear H
                        go_wp2_with (first | ((with_reducible refine gate_dst (N := 47) rfl ?_); (try (refine gate_guard (by rfl) ?_; dsimp only)); refine Kd.R_lit Kd.string _ 9 ?hg (N := 47) ?hd (xs := ([(⟨#[32]⟩ : ByteArray), (⟨#[9]⟩ : ByteArray), (⟨#[10]⟩ : ByteArray), (⟨#[13]⟩ : ByteArray)] : List ByteArray)) (inner := [.string (⟨#[32]⟩ : ByteArray), .string (⟨#[9]⟩ : ByteArray), .string (⟨#[10]⟩ : ByteArray), .string (⟨#[13]⟩ : ByteArray)]) (ok := fun _ => True) (okp := fun _ => True) ?hr ?hp (fun _ hk => hk) trivial (Below.refl _ _) (Nat.le_refl _) (by simp) ?_; (case hd => rfl); (case hg => rfl); (case hr => first | (go_simp; done) | (go_simp; rfl)); (case hp => exact (Reps.one (show Kd.M Kd.string _ _ _ (⟨#[32]⟩ : ByteArray) [.string (⟨#[32]⟩ : ByteArray)] from rfl) (Reps.one (show Kd.M Kd.string _ _ _ (⟨#[9]⟩ : ByteArray) [.string (⟨#[9]⟩ : ByteArray)] from rfl) (Reps.one (show Kd.M Kd.string _ _ _ (⟨#[10]⟩ : ByteArray) [.string (⟨#[10]⟩ : ByteArray)] from rfl) (Reps.one (show Kd.M Kd.string _ _ _ (⟨#[13]⟩ : ByteArray) [.string (⟨#[13]⟩ : ByteArray)] from rfl) (Reps.none _ _)))))); intro v104 w25 ho26 hb hg_ hnew_; clear hg_ hnew_; (first | rw [← Ny103.out] at ho26 | (simp only [Int.reduceToNat] at ho26; rw [← Ny103.out] at ho26)); have n0_ := Aside0.mk (Kd.R_lower ho26 (below_size (by repeat (first | (with_reducible first | exact HB.out | apply below_alloc | apply pw_below_drewN | apply below_drew1) | exact HB.out)))); have n1_ := Aside0.mk (below_step (by repeat (first | (with_reducible first | exact HB.out | apply below_alloc | apply pw_below_drewN | apply below_drew1) | exact HB.out)) hb); clear HB; have HO105 := n0_; have HB := n1_; clear n0_ n1_; clear hb ho26; obtain ⟨Ao27, co27, eo27⟩ := Kd.R_slice HO105.out; subst eo27; have p106 : 0 ≤ ((Go.bits .and .u64 (ji21) 3) : Int) := of_decide_eq_true (by first | (with_reducible assumption) | assumption); have q106 : (Go.bits .and .u64 (ji21) 3) < (y103.length : Int) := of_decide_eq_true (by first | (with_reducible assumption) | assumption); obtain ⟨ad106, e106, hx106_0⟩ := Kd.at_string (Kd.R_reads' HO105.out).2.2 (Go.bits .and .u64 (ji21) 3) p106 q106; cases e106; replace p106 := eq_true p106; replace q106 := eq_true q106))
                        go_roundg k2
                        case measure => have := HJ4.out; have := HK2.out; omega
                        case rel => exact ⟨(x7_2 ++ (rdOf ByteArray.empty y103 (Go.bits .and .u64 (ji21) 3))), (wrap64 (x8_2 + 1)), (by first | rfl | (simp; done) | (simp only [← hji21] <;> (first | rfl | simp)) | (simp [*]; done)), (by first | rfl | (simp; done) | (simp [*]; done)), H', ⟨by have := HJ4.out; have := HK2.out; omega⟩, ⟨by repeat (first | (with_reducible first | exact HB.out | apply below_alloc | apply pw_below_drewN | apply below_drew1) | exact HB.out)⟩⟩
                      · rw [if_neg c24] at H
                        exact absurd H (by simp)
                    · rw [if_neg c23] at H
                      exact absurd H (by simp)
                  · rw [if_neg c22] at H
                    exact absurd H (by simp)
                · rw [if_neg c20] at H
                  exact absurd H (by simp)
              · rw [if_neg c18] at H
                have c18b0 : decide (x8_2 < a2) = false := decide_eq_false c18
                clear c18
                by_cases c28 : x7_2.size + a0.size ≤ 9223372036854775807
                · rw [if_pos c28] at H
                  have c28b0 := eq_true c28
                  have c28b1 : decide (x7_2.size + a0.size ≤ 9223372036854775807) = true := decide_eq_true c28
                  try have c28b2 : (9223372036854775807 < x7_2.size + a0.size) = False := eq_false (Nat.not_lt.2 c28)
                  by_cases c29 : (x7_2 ++ a0).size + x7_2.size ≤ 9223372036854775807
                  · rw [if_pos c29] at H
                    have c29b0 := eq_true c29
                    have c29b1 : decide ((x7_2 ++ a0).size + x7_2.size ≤ 9223372036854775807) = true := decide_eq_true c29
                    try have c29b2 : (9223372036854775807 < (x7_2 ++ a0).size + x7_2.size) = False := eq_false (Nat.not_lt.2 c29)
                    replace H := Option.bind_eq_some_iff.mp H
                    obtain ⟨t107, A300, H⟩ := H
                    replace H : (if t107.toList = a0.toList then ((impl_GjTrim.f t107).bind fun t108 => (some (t108.toList == t107.toList))) else (some false)) = some r := H
                    have A30 := Aside0.mk A300
                    clear A300
                    by_cases c31 : t107.toList = a0.toList
                    · rw [if_pos c31] at H
                      have c31b0 : (t107.toList == a0.toList) = true := beq_iff_eq.mpr c31
                      have c31b1 : (t107.toList != a0.toList) = false := bne_eq_false_iff_eq.mpr c31
                      clear c31
                      replace H := Option.bind_eq_some_iff.mp H
                      obtain ⟨t108, A320, H⟩ := H
                      replace H : (some (t108.toList == t107.toList)) = some r := H
                      have A32 := Aside0.mk A320
                      clear A320
                      obtain rfl := Option.some.inj H
                      go_wp2_with (first | ((with_reducible refine gate_callee (f := 9) rfl ?_); refine goesL_ (some 62) rfl rfl Try.func9 (by kernel_rfl) rfl #[.string ((x7_2 ++ a0) ++ x7_2)] rfl (by (try simp only [List.map_toArray, List.map_cons, List.map_nil]); first | done | rfl | (simp only [List.length_drop, List.length_take]; rfl)) ?_; (with_reducible refine (impl_GjTrim.calls ((x7_2 ++ a0) ++ x7_2) t107 _ A30.out).mono ?_); rintro e w' ⟨rfl, ⟨nd, rfl⟩⟩; refine ⟨_, rfl, ?_⟩) | (go_at_call 9; (with_reducible refine (impl_GjTrim.calls t107 t108 _ A32.out).mono ?_); rintro e w' ⟨rfl, ⟨nd, rfl⟩⟩))
                      go_ret
                      exact ⟨by first | rfl | (simp [errW_none, errW_some] <;> rfl) | (simp [*, errW_none, errW_some] <;> rfl), by repeat (first | (with_reducible first | exact HB.out | apply below_alloc | apply pw_below_drewN | apply below_drew1) | exact HB.out)⟩
                    · rw [if_neg c31] at H
                      have c31b0 : (t107.toList == a0.toList) = false := beq_eq_false_iff_ne.mpr c31
                      have c31b1 : (t107.toList != a0.toList) = true := bne_iff_ne.mpr c31
                      obtain rfl := Option.some.inj H
                      go_wp2_with (first | ((with_reducible refine gate_callee (f := 9) rfl ?_); refine goesL_ (some 62) rfl rfl Try.func9 (by kernel_rfl) rfl #[.string ((x7_2 ++ a0) ++ x7_2)] rfl (by (try simp only [List.map_toArray, List.map_cons, List.map_nil]); first | done | rfl | (simp only [List.length_drop, List.length_take]; rfl)) ?_; (with_reducible refine (impl_GjTrim.calls ((x7_2 ++ a0) ++ x7_2) t107 _ A30.out).mono ?_); rintro e w' ⟨rfl, ⟨nd, rfl⟩⟩; refine ⟨_, rfl, ?_⟩))
                      go_ret
                      exact ⟨by first | rfl | (simp [errW_none, errW_some] <;> rfl) | (simp [*, errW_none, errW_some] <;> rfl), by repeat (first | (with_reducible first | exact HB.out | apply below_alloc | apply pw_below_drewN | apply below_drew1) | exact HB.out)⟩
                  · rw [if_neg c29] at H
                    exact absurd H (by simp)
                · rw [if_neg c28] at H
                  exact absurd H (by simp)

/-- THE ONE PURE STATEMENT of laws_FnGjTrimBetween: yours. -/
def laws_FnGjTrimBetween.Pure : Prop := ∀ (a0 : ByteArray) (a1 : Int) (a2 : Int), a0.size ≤ 140737488351232 → (Lit.int .u64 a1).wf = true → (Lit.int .i64 a2).wf = true → ∃ k, laws_FnGjTrimBetween.f k a0 a1 a2 = some true
theorem laws_FnGjTrimBetween.walk (P : laws_FnGjTrimBetween.Pure) (a0 : ByteArray) (a1 : Int) (a2 : Int) (w : World) (w0 : a0.size ≤ 140737488351232) (w1 : (Lit.int .u64 a1).wf = true) (w2 : (Lit.int .i64 a2).wf = true) :
    Calls Try.prog 3 #[.string a0, .int .u64 a1, .int .i64 a2] w fun e w' => e = .returned (.bool true) ∧ Below w.heap.size w w' := by
  obtain ⟨k, h⟩ := P a0 a1 a2 w0 w1 w2
  refine (laws_FnGjTrimBetween.calls k a0 a1 a2 true w h).mono ?_
  rintro e w' ⟨rfl, hd⟩
  exact ⟨rfl, hd⟩

end Go.Proofs.Ytikdecjojfmjaaa.PFnGjTrimBetween
