-- Written for this claim by this session's own program (wip/xprint).
import Derived.Test.YtkdpkenhhcgnbaaDoorPFnFfInt64Bestx0
import Derived.Test.YtkdpkenhhcgnbaaDoorPFnFfInt64Bestx1
namespace Go.Proofs.YtkdpkenhhcgnbaaDoor.PFnFfInt64Best
open Go.RowKit Go.Proofs.YtkdpkenhhcgnbaaDoorW.PrintWords Go.Proofs.YtkdpkenhhcgnbaaDoorW.PrintLast Go.Proofs.YtkdpkenhhcgnbaaDoorW.PrintMore
attribute [local go_sem] max2_int min2_int max_two min_two max_three min_three max_four min_four   -- for this text's walks alone
set_option linter.unusedVariables false
set_option linter.unusedSimpArgs false

/-! ### fastfloat_ParseInt64BestEffort: function 38 -/
mutual
def fastfloat_ParseInt64BestEffort.j0 : Nat → ByteArray → Int → Bool → Option (Int)
  | 0, _, _, _ => none
  | k + 1, x0, x3, x4 => fastfloat_ParseInt64BestEffort.l0 k x0 x3 x4 0 x3
def fastfloat_ParseInt64BestEffort.j3 : Nat → ByteArray → Int → Bool → Int → Int → Option (Int)
  | 0, _, _, _, _, _ => none
  | k + 1, x0, x3, x4, x5, x6 => if x3 ≤ x6 then (some 0) else (if x3 < (IntKind.u64.wrap ((x0.size : Int))) then (some 0) else (if x4 = true then (some (wrap64 (-x5))) else (some x5)))
def fastfloat_ParseInt64BestEffort.l0 : Nat → ByteArray → Int → Bool → Int → Int → Option (Int)
  | 0, _, _, _, _, _ => none
  | k + 1, x0, x3, x4, x5, x6 => if x3 < (IntKind.u64.wrap ((x0.size : Int))) then (if 0 ≤ x3 then (if x3 < (x0.size : Int) then (if (bt x0 x3) ≥ 48 then (fastfloat_ParseInt64BestEffort.j2 k x0 x3 x4 x5 x6 (decide ((bt x0 x3) ≤ 57))) else (fastfloat_ParseInt64BestEffort.j2 k x0 x3 x4 x5 x6 false)) else (none)) else (none)) else (fastfloat_ParseInt64BestEffort.j3 k x0 x3 x4 x5 x6)
def fastfloat_ParseInt64BestEffort.j2 : Nat → ByteArray → Int → Bool → Int → Int → Bool → Option (Int)
  | 0, _, _, _, _, _, _ => none
  | k + 1, x0, x3, x4, x5, x6, x38 => if x38 = true then (if 0 ≤ x3 then (if x3 < (x0.size : Int) then (if (IntKind.u64.wrap (x3 + 1)) > 18 then ((strconv_ParseInt_61.f x0 10 64).bind fun bt111 => (if bt111.2.isNone = true then (some bt111.1) else (some 0))) else (fastfloat_ParseInt64BestEffort.l0 k x0 (IntKind.u64.wrap (x3 + 1)) x4 (wrap64 ((wrap64 (x5 * 10)) + (((bt x0 x3) - 48) % 256))) x6)) else (none)) else (none)) else (fastfloat_ParseInt64BestEffort.j3 k x0 x3 x4 x5 x6)
end
def fastfloat_ParseInt64BestEffort.f (k : Nat) (a0 : ByteArray) : Option (Int) := if (a0.size : Int) = 0 then (some 0) else (if 0 < (a0.size : Int) then (if (bt a0 0) = 45 then (if 1 ≥ (IntKind.u64.wrap ((a0.size : Int))) then (some 0) else (fastfloat_ParseInt64BestEffort.j0 k a0 1 ((bt a0 0) == 45))) else (fastfloat_ParseInt64BestEffort.j0 k a0 0 ((bt a0 0) == 45))) else (none))
theorem fastfloat_ParseInt64BestEffort.mono_l : ∀ k, (∀ y0 y1 y2, LeO (fastfloat_ParseInt64BestEffort.j0 k y0 y1 y2) (fastfloat_ParseInt64BestEffort.j0 (k + 1) y0 y1 y2)) ∧ (∀ y0 y1 y2 y3 y4, LeO (fastfloat_ParseInt64BestEffort.j3 k y0 y1 y2 y3 y4) (fastfloat_ParseInt64BestEffort.j3 (k + 1) y0 y1 y2 y3 y4)) ∧ (∀ y0 y1 y2 y3 y4, LeO (fastfloat_ParseInt64BestEffort.l0 k y0 y1 y2 y3 y4) (fastfloat_ParseInt64BestEffort.l0 (k + 1) y0 y1 y2 y3 y4)) ∧ (∀ y0 y1 y2 y3 y4 y5, LeO (fastfloat_ParseInt64BestEffort.j2 k y0 y1 y2 y3 y4 y5) (fastfloat_ParseInt64BestEffort.j2 (k + 1) y0 y1 y2 y3 y4 y5))
  | 0 => ⟨fun _ _ _ r h => by simp [fastfloat_ParseInt64BestEffort.j0] at h, fun _ _ _ _ _ r h => by simp [fastfloat_ParseInt64BestEffort.j3] at h, fun _ _ _ _ _ r h => by simp [fastfloat_ParseInt64BestEffort.l0] at h, fun _ _ _ _ _ _ r h => by simp [fastfloat_ParseInt64BestEffort.j2] at h⟩
  | k + 1 => by
    obtain ⟨ih0, ih1, ih2, ih3⟩ := fastfloat_ParseInt64BestEffort.mono_l k
    refine ⟨?_, ?_, ?_, ?_⟩
    · intro y0 y1 y2
      unfold fastfloat_ParseInt64BestEffort.j0
      repeat' first
      | (with_reducible exact ih0 _ _ _)
      | (with_reducible exact ih1 _ _ _ _ _)
      | (with_reducible exact ih2 _ _ _ _ _)
      | (with_reducible exact ih3 _ _ _ _ _ _)
      | (with_reducible exact LeO.refl _)
      | (with_reducible exact LeO.none _)
      | (with_reducible refine LeO.ite ?_ ?_)
      | (with_reducible refine LeO.bind ?_ (fun _ => ?_))
      | exact ih0 _ _ _
      | exact ih1 _ _ _ _ _
      | exact ih2 _ _ _ _ _
      | exact ih3 _ _ _ _ _ _
      | exact LeO.none _
      | refine LeO.ite ?_ ?_
      | refine LeO.bind ?_ (fun _ => ?_)
    · intro y0 y1 y2 y3 y4
      unfold fastfloat_ParseInt64BestEffort.j3
      repeat' first
      | (with_reducible exact ih0 _ _ _)
      | (with_reducible exact ih1 _ _ _ _ _)
      | (with_reducible exact ih2 _ _ _ _ _)
      | (with_reducible exact ih3 _ _ _ _ _ _)
      | (with_reducible exact LeO.refl _)
      | (with_reducible exact LeO.none _)
      | (with_reducible refine LeO.ite ?_ ?_)
      | (with_reducible refine LeO.bind ?_ (fun _ => ?_))
      | exact ih0 _ _ _
      | exact ih1 _ _ _ _ _
      | exact ih2 _ _ _ _ _
      | exact ih3 _ _ _ _ _ _
      | exact LeO.none _
      | refine LeO.ite ?_ ?_
      | refine LeO.bind ?_ (fun _ => ?_)
    · intro y0 y1 y2 y3 y4
      unfold fastfloat_ParseInt64BestEffort.l0
      repeat' first
      | (with_reducible exact ih0 _ _ _)
      | (with_reducible exact ih1 _ _ _ _ _)
      | (with_reducible exact ih2 _ _ _ _ _)
      | (with_reducible exact ih3 _ _ _ _ _ _)
      | (with_reducible exact LeO.refl _)
      | (with_reducible exact LeO.none _)
      | (with_reducible refine LeO.ite ?_ ?_)
      | (with_reducible refine LeO.bind ?_ (fun _ => ?_))
      | exact ih0 _ _ _
      | exact ih1 _ _ _ _ _
      | exact ih2 _ _ _ _ _
      | exact ih3 _ _ _ _ _ _
      | exact LeO.none _
      | refine LeO.ite ?_ ?_
      | refine LeO.bind ?_ (fun _ => ?_)
    · intro y0 y1 y2 y3 y4 y5
      unfold fastfloat_ParseInt64BestEffort.j2
      repeat' first
      | (with_reducible exact ih0 _ _ _)
      | (with_reducible exact ih1 _ _ _ _ _)
      | (with_reducible exact ih2 _ _ _ _ _)
      | (with_reducible exact ih3 _ _ _ _ _ _)
      | (with_reducible exact LeO.refl _)
      | (with_reducible exact LeO.none _)
      | (with_reducible refine LeO.ite ?_ ?_)
      | (with_reducible refine LeO.bind ?_ (fun _ => ?_))
      | exact ih0 _ _ _
      | exact ih1 _ _ _ _ _
      | exact ih2 _ _ _ _ _
      | exact ih3 _ _ _ _ _ _
      | exact LeO.none _
      | refine LeO.ite ?_ ?_
      | refine LeO.bind ?_ (fun _ => ?_)
theorem fastfloat_ParseInt64BestEffort.mono : ∀ a0 k, LeO (fastfloat_ParseInt64BestEffort.f k a0) (fastfloat_ParseInt64BestEffort.f (k + 1) a0) := by
  intro a0 k
  obtain ⟨ih0, ih1, ih2, ih3⟩ := fastfloat_ParseInt64BestEffort.mono_l k
  unfold fastfloat_ParseInt64BestEffort.f
  repeat' first
      | (with_reducible exact ih0 _ _ _)
      | (with_reducible exact ih1 _ _ _ _ _)
      | (with_reducible exact ih2 _ _ _ _ _)
      | (with_reducible exact ih3 _ _ _ _ _ _)
      | (with_reducible exact LeO.refl _)
      | (with_reducible exact LeO.none _)
      | (with_reducible refine LeO.ite ?_ ?_)
      | (with_reducible refine LeO.bind ?_ (fun _ => ?_))
      | exact ih0 _ _ _
      | exact ih1 _ _ _ _ _
      | exact ih2 _ _ _ _ _
      | exact ih3 _ _ _ _ _ _
      | exact LeO.none _
      | refine LeO.ite ?_ ?_
      | refine LeO.bind ?_ (fun _ => ?_)
set_option maxHeartbeats 8000000 in
set_option maxRecDepth 100000 in
theorem fastfloat_ParseInt64BestEffort.calls (k : Nat) (a0 : ByteArray) (r : Int) (w : World) (hL : Laid w) (h : fastfloat_ParseInt64BestEffort.f k a0 = some r) :
    Calls Tryd.prog 38 #[.string a0] w fun e w' => e = .returned (.int .i64 r) ∧ Below w.heap.size w w' := by
  have hu74 := Tryd.underlying74
  have HB := Aside0.mk (Below.refl w.heap.size w)
  have HLD := Aside0.mk hL
  clear hL
  have H : (if (a0.size : Int) = 0 then (some 0) else (if 0 < (a0.size : Int) then (if (bt a0 0) = 45 then (if 1 ≥ (IntKind.u64.wrap ((a0.size : Int))) then (some 0) else (fastfloat_ParseInt64BestEffort.j0 k a0 1 ((bt a0 0) == 45))) else (fastfloat_ParseInt64BestEffort.j0 k a0 0 ((bt a0 0) == 45))) else (none))) = some r := h
  clear h
  by_cases c2 : (a0.size : Int) = 0
  · rw [if_pos c2] at H
    have c2b0 : ((a0.size : Int) == 0) = true := beq_iff_eq.mpr c2
    have c2b1 : ((a0.size : Int) != 0) = false := bne_eq_false_iff_eq.mpr c2
    clear c2
    obtain rfl := Option.some.inj H
    go_enter Tryd.func38, Tryd.ntmps38
    go_wp2
    go_ret
    exact ⟨by first | rfl | (simp [errX_none, errX_some] <;> rfl) | (simp [*, errX_none, errX_some] <;> rfl), by repeat (first | (with_reducible first | exact HB.out | apply below_alloc | apply pw_below_drewN | apply below_drew1) | exact HB.out)⟩
  · rw [if_neg c2] at H
    have c2b0 : ((a0.size : Int) == 0) = false := beq_eq_false_iff_ne.mpr c2
    have c2b1 : ((a0.size : Int) != 0) = true := bne_iff_ne.mpr c2
    by_cases c3 : 0 < (a0.size : Int)
    · rw [if_pos c3] at H
      have c3b0 : decide (0 < (a0.size : Int)) = true := decide_eq_true c3
      have c3b1 : decide (0 < a0.size) = true := decide_eq_true (by omega)
      clear c3
      have HC5 := Aside0.mk H
      clear H
      have p4 : 0 ≤ (0 : Int) := (by omega)
      have q4 : 0 < a0.size := (by have : (0 : Int) < (a0.size : Int) := of_decide_eq_true (by first | (with_reducible assumption) | assumption); omega)
      have hx4 : ∀ h : 0 < a0.size, ((a0[0]'h).toNat : Int) = bt a0 0 := bt_at a0 0
      clear p4
      have qi4 : (0 < (a0.size : Int)) = True := eq_true (of_decide_eq_true (by first | (with_reducible assumption) | assumption))
      replace q4 := eq_true q4
      go_enter Tryd.func38, Tryd.ntmps38
      go_upto_if 15 with (fail)
      go_cut [3] (fun v3 wc => ∃ (kq : Nat) (x3_4 : Int), v3 = .int .u64 x3_4 ∧ Aside0 (fastfloat_ParseInt64BestEffort.j0 kq a0 x3_4 ((bt a0 0) == 45) = some r) ∧ Aside0 (kq ≤ k) ∧ Aside0 (Below w.heap.size w wc))
      case first =>
        have H := HC5.out
        clear HC5
        by_cases c6 : (bt a0 0) = 45
        · rw [if_pos c6] at H
          have c6b0 : ((bt a0 0) == 45) = true := beq_iff_eq.mpr c6
          have c6b1 : ((bt a0 0) != 45) = false := bne_eq_false_iff_eq.mpr c6
          clear c6
          (first | rw [c6b0] | (simp only [i64_w, i32_w]; rw [c6b0]) | skip)
          by_cases c7 : 1 ≥ (IntKind.u64.wrap ((a0.size : Int)))
          · rw [if_pos c7] at H
            have c7b0 : decide ((IntKind.u64.wrap ((a0.size : Int))) ≤ 1) = true := decide_eq_true c7
            clear c7
            obtain rfl := Option.some.inj H
            go_wp2
            go_ret
            exact ⟨by first | rfl | (simp [errX_none, errX_some] <;> rfl) | (simp [*, errX_none, errX_some] <;> rfl), by repeat (first | (with_reducible first | exact HB.out | apply below_alloc | apply pw_below_drewN | apply below_drew1) | exact HB.out)⟩
          · rw [if_neg c7] at H
            have c7b0 : decide ((IntKind.u64.wrap ((a0.size : Int))) ≤ 1) = false := decide_eq_false c7
            clear c7
            have H' := Aside0.mk H
            clear H
            go_wp2
            (first | go_meet | (rw [← c2b0]; go_meet) | (rw [← c6b0]; go_meet))
            case rel => exact ⟨_, (1), (by first | rfl | (simp; done) | (simp [*]; done)), H', ⟨by first | omega | exact Nat.le_refl _⟩, ⟨by repeat (first | (with_reducible first | exact HB.out | apply below_alloc | apply pw_below_drewN | apply below_drew1) | exact HB.out)⟩⟩
        · rw [if_neg c6] at H
          have c6b0 : ((bt a0 0) == 45) = false := beq_eq_false_iff_ne.mpr c6
          have c6b1 : ((bt a0 0) != 45) = true := bne_iff_ne.mpr c6
          (first | rw [c6b0] | (simp only [i64_w, i32_w]; rw [c6b0]) | skip)
          have H' := Aside0.mk H
          clear H
          go_wp2
          (first | go_meet | (rw [← c2b0]; go_meet) | (rw [← c6b0]; go_meet))
          case rel => exact ⟨_, (0), (by first | rfl | (simp; done) | (simp [*]; done)), H', ⟨by first | omega | exact Nat.le_refl _⟩, ⟨by repeat (first | (with_reducible first | exact HB.out | apply below_alloc | apply pw_below_drewN | apply below_drew1) | exact HB.out)⟩⟩
      case rest =>
        clear HC5
        try clear c2
        try clear c2b0
        try clear c2b1
        try clear p2
        try clear c3
        try clear c3b0
        try clear c3b1
        try clear p4
        try clear q4
        try clear hx4
        try clear qi4
        try clear c6
        try clear c6b0
        try clear c6b1
        try clear c7
        try clear c7b0
        try clear p4
        try clear q4
        obtain ⟨kq, x3_4, rfl, HA, HJ4, HB⟩ := hcut
        cases kq with
        | zero => exact absurd HA.out (by simp [fastfloat_ParseInt64BestEffort.j0])
        | succ kj4 =>
          have H := HA.out
          clear HA
          simp only [fastfloat_ParseInt64BestEffort.j0] at H
          have HC8 := Aside0.mk H
          clear H
          go_upto_block 0 with (fail)
          go_cut [3, 5] (fun v3 v5 wc => ∃ (kq : Nat) (x3_7 : Int) (x5_7 : Int), v3 = .int .u64 x3_7 ∧ v5 = .int .i64 x5_7 ∧ Aside0 (fastfloat_ParseInt64BestEffort.j3 kq a0 x3_7 ((bt a0 0) == 45) x5_7 x3_4 = some r) ∧ Aside0 (kq ≤ kj4) ∧ Aside0 (Below w.heap.size w wc))
          case first =>
            have H := HC8.out
            clear HC8
            have H' := Aside0.mk H
            clear H
            go_wp2
            (try simp only [Act.put, List.setIfInBounds_toArray, List.set_cons_zero, List.set_cons_succ])
            go_loopg [3, 5] kj4 (fun kq v3 v5 w' => ∃ (x3_2 : Int) (x5_2 : Int), v3 = .int .u64 x3_2 ∧ v5 = .int .i64 x5_2 ∧ Aside0 (fastfloat_ParseInt64BestEffort.l0 kq a0 x3_2 ((bt a0 0) == 45) x5_2 x3_4 = some r) ∧ Aside0 (kq ≤ kj4) ∧ Aside0 (Below w.heap.size w w'))
            case atStart => exact ⟨(x3_4), (0), (by first | rfl | (simp; done) | (simp [*]; done)), (by first | rfl | (simp; done) | (simp [*]; done)), H', ⟨Nat.le_refl _⟩, ⟨by repeat (first | (with_reducible first | exact HB.out | apply below_alloc | apply pw_below_drewN | apply below_drew1) | exact HB.out)⟩⟩
            case round =>
              clear H'
              try clear c2
              try clear c2b0
              try clear c2b1
              try clear p2
              try clear c3
              try clear c3b0
              try clear c3b1
              try clear p4
              try clear q4
              try clear hx4
              try clear qi4
              try clear c6
              try clear c6b0
              try clear c6b1
              try clear c7
              try clear c7b0
              try clear p2
              try clear p4
              try clear q4
              obtain ⟨x3_2, x5_2, rfl, rfl, HA, HK2, HB⟩ := hrel
              cases gk with
              | zero => exact absurd HA.out (by simp [fastfloat_ParseInt64BestEffort.l0])
              | succ k2 =>
                have H := HA.out
                clear HA
                simp only [fastfloat_ParseInt64BestEffort.l0] at H
                by_cases c9 : x3_2 < (IntKind.u64.wrap ((a0.size : Int)))
                · rw [if_pos c9] at H
                  have c9b0 : decide (x3_2 < (IntKind.u64.wrap ((a0.size : Int)))) = true := decide_eq_true c9
                  clear c9
                  (first | rw [c9b0] | (simp only [i64_w, i32_w]; rw [c9b0]) | skip)
                  have HC10 := Aside0.mk H
                  clear H
                  go_upto_region 12 with (fail)
                  go_cut [38] (fun v38 wc => ∃ (kq : Nat) (x38_9 : Bool), v38 = .bool x38_9 ∧ Aside0 (fastfloat_ParseInt64BestEffort.j2 kq a0 x3_2 ((bt a0 0) == 45) x5_2 x3_4 x38_9 = some r) ∧ Aside0 (kq ≤ k2) ∧ Aside0 (Below w.heap.size w wc))
                  case first =>
                    have H := HC10.out
                    clear HC10
                    by_cases c11 : 0 ≤ x3_2
                    · rw [if_pos c11] at H
                      have c11b0 : decide (0 ≤ x3_2) = true := decide_eq_true c11
                      clear c11
                      (first | rw [c11b0] | (simp only [i64_w, i32_w]; rw [c11b0]) | skip)
                      by_cases c12 : x3_2 < (a0.size : Int)
                      · rw [if_pos c12] at H
                        have c12b0 : decide (x3_2 < (a0.size : Int)) = true := decide_eq_true c12
                        clear c12
                        by_cases c14 : (bt a0 x3_2) ≥ 48
                        · rw [if_pos c14] at H
                          have c14b0 : decide (48 ≤ (bt a0 x3_2)) = true := decide_eq_true c14
                          clear c14
                          have H' := Aside0.mk H
                          clear H
                          have p13 : 0 ≤ (x3_2 : Int) := of_decide_eq_true (by first | (with_reducible assumption) | assumption)
                          have q13 : x3_2 < (a0.size : Int) := of_decide_eq_true (by first | (with_reducible assumption) | assumption)
                          have hx13 := bt_at a0 x3_2
                          replace p13 := eq_true p13
                          replace q13 := eq_true q13
                          have p15 : 0 ≤ (x3_2 : Int) := of_decide_eq_true (by first | (with_reducible assumption) | assumption)
                          have q15 : x3_2 < (a0.size : Int) := of_decide_eq_true (by first | (with_reducible assumption) | assumption)
                          have hx15 := bt_at a0 x3_2
                          replace p15 := eq_true p15
                          replace q15 := eq_true q15
                          go_wp2
                          (first | go_meet | (rw [← c2b0]; go_meet))
                          case rel => exact ⟨_, (decide ((bt a0 x3_2) ≤ 57)), (by first | rfl | (simp; done) | (simp [*]; done)), H', ⟨by have := HJ4.out; have := HK2.out; first | omega | exact Nat.le_refl _⟩, ⟨by repeat (first | (with_reducible first | exact HB.out | apply below_alloc | apply pw_below_drewN | apply below_drew1) | exact HB.out)⟩⟩
                        · rw [if_neg c14] at H
                          have c14b0 : decide (48 ≤ (bt a0 x3_2)) = false := decide_eq_false c14
                          clear c14
                          have H' := Aside0.mk H
                          clear H
                          have p13 : 0 ≤ (x3_2 : Int) := of_decide_eq_true (by first | (with_reducible assumption) | assumption)
                          have q13 : x3_2 < (a0.size : Int) := of_decide_eq_true (by first | (with_reducible assumption) | assumption)
                          have hx13 := bt_at a0 x3_2
                          replace p13 := eq_true p13
                          replace q13 := eq_true q13
                          go_wp2
                          (first | go_meet | (rw [← c2b0]; go_meet))
                          case rel => exact ⟨_, (false), (by first | rfl | (simp; done) | (simp [*]; done)), H', ⟨by have := HJ4.out; have := HK2.out; first | omega | exact Nat.le_refl _⟩, ⟨by repeat (first | (with_reducible first | exact HB.out | apply below_alloc | apply pw_below_drewN | apply below_drew1) | exact HB.out)⟩⟩
                      · rw [if_neg c12] at H
                        exact absurd H (by simp)
                    · rw [if_neg c11] at H
                      exact absurd H (by simp)
                  case rest =>
                    clear HC10
                    try clear c1
                    try clear p1
                    try clear q1
                    try clear hx1
                    try clear c2
                    try clear c2b0
                    try clear c2b1
                    try clear p2
                    try clear c3
                    try clear c3b0
                    try clear c3b1
                    try clear p4
                    try clear q4
                    try clear hx4
                    try clear qi4
                    try clear c6
                    try clear c6b0
                    try clear c6b1
                    try clear c7
                    try clear c7b0
                    try clear c9
                    try clear c9b0
                    try clear c11
                    try clear c11b0
                    try clear c12
                    try clear c12b0
                    try clear p13
                    try clear q13
                    try clear hx13
                    try clear c14
                    try clear c14b0
                    try clear p15
                    try clear q15
                    try clear hx15
                    try clear p13
                    try clear p15
                    try clear p2
                    try clear p4
                    try clear q13
                    try clear q15
                    try clear q4
                    obtain ⟨kq, x38_9, rfl, HA, HJ9, HB⟩ := hcut
                    cases kq with
                    | zero => exact absurd HA.out (by simp [fastfloat_ParseInt64BestEffort.j2])
                    | succ kj9 =>
                      have H := HA.out
                      clear HA
                      simp only [fastfloat_ParseInt64BestEffort.j2] at H
                      by_cases c16 : x38_9 = true
                      · subst c16
                        have H1 : (if 0 ≤ x3_2 then (if x3_2 < (a0.size : Int) then (if (IntKind.u64.wrap (x3_2 + 1)) > 18 then ((strconv_ParseInt_61.f a0 10 64).bind fun bt111 => (if bt111.2.isNone = true then (some bt111.1) else (some 0))) else (fastfloat_ParseInt64BestEffort.l0 kj9 a0 (IntKind.u64.wrap (x3_2 + 1)) ((bt a0 0) == 45) (wrap64 ((wrap64 (x5_2 * 10)) + (((bt a0 x3_2) - 48) % 256))) x3_4)) else (none)) else (none)) = some r := by rw [if_pos rfl] at H; exact H
                        clear H
                        have H := H1
                        clear H1
                        by_cases c17 : 0 ≤ x3_2
                        · rw [if_pos c17] at H
                          have c17b0 : decide (0 ≤ x3_2) = true := decide_eq_true c17
                          clear c17
                          by_cases c18 : x3_2 < (a0.size : Int)
                          · rw [if_pos c18] at H
                            have c18b0 : decide (x3_2 < (a0.size : Int)) = true := decide_eq_true c18
                            clear c18
                            by_cases c20 : (IntKind.u64.wrap (x3_2 + 1)) > 18
                            · rw [if_pos c20] at H
                              have c20b0 : decide (18 < (IntKind.u64.wrap (x3_2 + 1))) = true := decide_eq_true c20
                              clear c20
                              replace H := Option.bind_eq_some_iff.mp H
                              obtain ⟨⟨t111, t112⟩, A210, H⟩ := H
                              replace H : (if t112.isNone = true then (some t111) else (some 0)) = some r := H
                              have A21 := Aside0.mk A210
                              clear A210
                              rcases t112 with _ | q113
                              · have H1 : (some t111) = some r := by rw [if_pos (show (none : Option Int).isNone = true by rfl)] at H; exact H
                                clear H
                                have H := H1
                                clear H1
                                try simp only [errX_none, errX_some]
                                obtain rfl := Option.some.inj H
                                have p19 : 0 ≤ (x3_2 : Int) := of_decide_eq_true (by first | (with_reducible assumption) | assumption)
                                have q19 : x3_2 < (a0.size : Int) := of_decide_eq_true (by first | (with_reducible assumption) | assumption)
                                have hx19 := bt_at a0 x3_2
                                replace p19 := eq_true p19
                                replace q19 := eq_true q19
                                go_wp2_with (first | ((with_reducible refine gate_callee (f := 61) rfl ?_); refine goesL_ (some 53) rfl rfl Tryd.func61 (by kernel_rfl) rfl #[.string a0, .int .i64 10, .int .i64 64] rfl (by (try simp only [List.map_toArray, List.map_cons, List.map_nil]); first | done | rfl | (simp only [List.length_drop, List.length_take]; rfl)) ?_; (with_reducible refine (strconv_ParseInt_61.calls a0 10 64 t111 none _ ?side1 A21.out).mono ?_); (case side1 => exact Laid.below HLD.out (by repeat (first | (with_reducible first | exact HB.out | apply below_alloc | apply pw_below_drewN | apply below_drew1) | exact HB.out))); rintro e w22 ⟨_, rfl, hb⟩; refine ⟨_, rfl, ?_⟩; have n0_ := Aside0.mk (below_step (by repeat (first | (with_reducible first | exact HB.out | apply below_alloc | apply pw_below_drewN | apply below_drew1) | exact HB.out)) hb); clear HB; have HB := n0_; clear n0_; (try clear hb); (try clear hb2); (try clear hk); (try clear hi); (try simp only [errX_none, errX_some])))
                                go_ret
                                exact ⟨by first | rfl | (simp [errX_none, errX_some] <;> rfl) | (simp [*, errX_none, errX_some] <;> rfl), by repeat (first | (with_reducible first | exact HB.out | apply below_alloc | apply pw_below_drewN | apply below_drew1) | exact HB.out)⟩
                              · have H1 : (some 0) = some r := by rw [if_neg (show ¬ (some q113).isNone = true by simp)] at H; exact H
                                clear H
                                have H := H1
                                clear H1
                                try simp only [errX_none, errX_some]
                                obtain rfl := Option.some.inj H
                                have p19 : 0 ≤ (x3_2 : Int) := of_decide_eq_true (by first | (with_reducible assumption) | assumption)
                                have q19 : x3_2 < (a0.size : Int) := of_decide_eq_true (by first | (with_reducible assumption) | assumption)
                                have hx19 := bt_at a0 x3_2
                                replace p19 := eq_true p19
                                replace q19 := eq_true q19
                                go_wp2_with (first | ((with_reducible refine gate_callee (f := 61) rfl ?_); refine goesL_ (some 53) rfl rfl Tryd.func61 (by kernel_rfl) rfl #[.string a0, .int .i64 10, .int .i64 64] rfl (by (try simp only [List.map_toArray, List.map_cons, List.map_nil]); first | done | rfl | (simp only [List.length_drop, List.length_take]; rfl)) ?_; (with_reducible refine (strconv_ParseInt_61.calls a0 10 64 t111 (some q113) _ ?side1 A21.out).mono ?_); (case side1 => exact Laid.below HLD.out (by repeat (first | (with_reducible first | exact HB.out | apply below_alloc | apply pw_below_drewN | apply below_drew1) | exact HB.out))); rintro e w23 ⟨ex_t112, rfl, hb⟩; refine ⟨_, rfl, ?_⟩; have n0_ := Aside0.mk (below_step (by repeat (first | (with_reducible first | exact HB.out | apply below_alloc | apply pw_below_drewN | apply below_drew1) | exact HB.out)) hb); clear HB; have HB := n0_; clear n0_; (try clear hb); (try clear hb2); (try clear hk); (try clear hi); (try simp only [errX_none, errX_some])))
                                go_ret
                                exact ⟨by first | rfl | (simp [errX_none, errX_some] <;> rfl) | (simp [*, errX_none, errX_some] <;> rfl), by repeat (first | (with_reducible first | exact HB.out | apply below_alloc | apply pw_below_drewN | apply below_drew1) | exact HB.out)⟩
                            · rw [if_neg c20] at H
                              have c20b0 : decide (18 < (IntKind.u64.wrap (x3_2 + 1))) = false := decide_eq_false c20
                              clear c20
                              have H' := Aside0.mk H
                              clear H
                              have p19 : 0 ≤ (x3_2 : Int) := of_decide_eq_true (by first | (with_reducible assumption) | assumption)
                              have q19 : x3_2 < (a0.size : Int) := of_decide_eq_true (by first | (with_reducible assumption) | assumption)
                              have hx19 := bt_at a0 x3_2
                              replace p19 := eq_true p19
                              replace q19 := eq_true q19
                              go_wp2
                              go_roundg kj9
                              case measure => have := HJ4.out; have := HK2.out; have := HJ9.out; omega
                              case rel => exact ⟨(IntKind.u64.wrap (x3_2 + 1)), (wrap64 ((wrap64 (x5_2 * 10)) + (((bt a0 x3_2) - 48) % 256))), (by first | rfl | (simp; done) | (simp [*]; done)), (by first | rfl | (simp; done) | (simp [*]; done)), H', ⟨by have := HJ4.out; have := HK2.out; have := HJ9.out; omega⟩, ⟨by repeat (first | (with_reducible first | exact HB.out | apply below_alloc | apply pw_below_drewN | apply below_drew1) | exact HB.out)⟩⟩
                          · rw [if_neg c18] at H
                            exact absurd H (by simp)
                        · rw [if_neg c17] at H
                          exact absurd H (by simp)
                      · replace c16 := Bool.eq_false_iff.mpr c16
                        subst c16
                        have H1 : (fastfloat_ParseInt64BestEffort.j3 kj9 a0 x3_2 ((bt a0 0) == 45) x5_2 x3_4) = some r := by rw [if_neg (show ¬ (false = true) by decide)] at H; exact H
                        clear H
                        have H := H1
                        clear H1
                        have H' := Aside0.mk H
                        clear H
                        go_wp2
                        (first | go_meet | (rw [← c2b0]; go_meet))
                        case rel => exact ⟨_, (x3_2), (x5_2), (by first | rfl | (simp; done) | (simp [*]; done)), (by first | rfl | (simp; done) | (simp [*]; done)), H', ⟨by have := HJ4.out; have := HK2.out; have := HJ9.out; first | omega | exact Nat.le_refl _⟩, ⟨by repeat (first | (with_reducible first | exact HB.out | apply below_alloc | apply pw_below_drewN | apply below_drew1) | exact HB.out)⟩⟩
                · rw [if_neg c9] at H
                  have c9b0 : decide (x3_2 < (IntKind.u64.wrap ((a0.size : Int)))) = false := decide_eq_false c9
                  clear c9
                  (first | rw [c9b0] | (simp only [i64_w, i32_w]; rw [c9b0]) | skip)
                  have H' := Aside0.mk H
                  clear H
                  go_wp2
                  (first | go_meet | (rw [← c2b0]; go_meet))
                  case rel => exact ⟨_, (x3_2), (x5_2), (by first | rfl | (simp; done) | (simp [*]; done)), (by first | rfl | (simp; done) | (simp [*]; done)), H', ⟨by have := HJ4.out; have := HK2.out; first | omega | exact Nat.le_refl _⟩, ⟨by repeat (first | (with_reducible first | exact HB.out | apply below_alloc | apply pw_below_drewN | apply below_drew1) | exact HB.out)⟩⟩
          case rest =>
            clear HC8
            try clear c1
            try clear p1
            try clear q1
            try clear hx1
            try clear c2
            try clear c2b0
            try clear c2b1
            try clear p2
            try clear c3
            try clear c3b0
            try clear c3b1
            try clear p4
            try clear q4
            try clear hx4
            try clear qi4
            try clear c6
            try clear c6b0
            try clear c6b1
            try clear p6
            try clear c7
            try clear c7b0
            try clear c9
            try clear c9b0
            try clear c11
            try clear c11b0
            try clear q11
            try clear c12
            try clear c12b0
            try clear p13
            try clear q13
            try clear hx13
            try clear c14
            try clear c14b0
            try clear p15
            try clear q15
            try clear hx15
            try clear c16
            try clear c17
            try clear c17b0
            try clear c18
            try clear c18b0
            try clear p19
            try clear q19
            try clear hx19
            try clear c20
            try clear c20b0
            try clear p1
            try clear p13
            try clear p15
            try clear p19
            try clear p2
            try clear p4
            try clear q1
            try clear q113
            try clear q13
            try clear q15
            try clear q19
            try clear q4
            obtain ⟨kq, x3_7, x5_7, rfl, rfl, HA, HJ7, HB⟩ := hcut
            cases kq with
            | zero => exact absurd HA.out (by simp [fastfloat_ParseInt64BestEffort.j3])
            | succ kj7 =>
              have H := HA.out
              clear HA
              simp only [fastfloat_ParseInt64BestEffort.j3] at H
              by_cases c24 : x3_7 ≤ x3_4
              · rw [if_pos c24] at H
                have c24b0 : decide (x3_7 ≤ x3_4) = true := decide_eq_true c24
                clear c24
                obtain rfl := Option.some.inj H
                go_wp2
                go_ret
                exact ⟨by first | rfl | (simp [errX_none, errX_some] <;> rfl) | (simp [*, errX_none, errX_some] <;> rfl), by repeat (first | (with_reducible first | exact HB.out | apply below_alloc | apply pw_below_drewN | apply below_drew1) | exact HB.out)⟩
              · rw [if_neg c24] at H
                have c24b0 : decide (x3_7 ≤ x3_4) = false := decide_eq_false c24
                clear c24
                by_cases c25 : x3_7 < (IntKind.u64.wrap ((a0.size : Int)))
                · rw [if_pos c25] at H
                  have c25b0 : decide (x3_7 < (IntKind.u64.wrap ((a0.size : Int)))) = true := decide_eq_true c25
                  clear c25
                  obtain rfl := Option.some.inj H
                  go_wp2
                  go_ret
                  exact ⟨by first | rfl | (simp [errX_none, errX_some] <;> rfl) | (simp [*, errX_none, errX_some] <;> rfl), by repeat (first | (with_reducible first | exact HB.out | apply below_alloc | apply pw_below_drewN | apply below_drew1) | exact HB.out)⟩
                · rw [if_neg c25] at H
                  have c25b0 : decide (x3_7 < (IntKind.u64.wrap ((a0.size : Int)))) = false := decide_eq_false c25
                  clear c25
                  by_cases c26 : ((bt a0 0) == 45) = true
                  · rw [if_pos c26] at H
                    have c26b0 : ((bt a0 0) == 45) = true := c26
                    (try (have c26b1 : decide ((bt a0 0) = 45) = true := by simpa using c26))
                    (try (have c26b2 : ((bt a0 0) == 45) = true := by simpa using c26))
                    clear c26
                    obtain rfl := Option.some.inj H
                    go_wp2
                    go_ret
                    exact ⟨by first | rfl | (simp [errX_none, errX_some] <;> rfl) | (simp [*, errX_none, errX_some] <;> rfl), by repeat (first | (with_reducible first | exact HB.out | apply below_alloc | apply pw_below_drewN | apply below_drew1) | exact HB.out)⟩
                  · rw [if_neg c26] at H
                    have c26b0 : ((bt a0 0) == 45) = false := by simpa using c26
                    (try (have c26b1 : decide ((bt a0 0) = 45) = false := by simpa using c26))
                    (try (have c26b2 : ((bt a0 0) == 45) = false := by simpa using c26))
                    (try (have c26b3 : ¬ ((bt a0 0) = 45) := by simpa using c26))
                    clear c26
                    obtain rfl := Option.some.inj H
                    go_wp2
                    go_ret
                    exact ⟨by first | rfl | (simp [errX_none, errX_some] <;> rfl) | (simp [*, errX_none, errX_some] <;> rfl), by repeat (first | (with_reducible first | exact HB.out | apply below_alloc | apply pw_below_drewN | apply below_drew1) | exact HB.out)⟩
    · rw [if_neg c3] at H
      exact absurd H (by simp)

/-! ### impl_FfInt64Best: function 18 -/
def impl_FfInt64Best.f (k : Nat) (a0 : ByteArray) : Option (Int) := (fastfloat_ParseInt64BestEffort.f k a0).bind fun t114 => (some t114)
theorem impl_FfInt64Best.mono : ∀ a0 k, LeO (impl_FfInt64Best.f k a0) (impl_FfInt64Best.f (k + 1) a0) := by
  intro a0 k
  unfold impl_FfInt64Best.f
  repeat' first
      | (with_reducible exact fastfloat_ParseInt64BestEffort.mono _ _)
      | (with_reducible exact LeO.refl _)
      | (with_reducible exact LeO.none _)
      | (with_reducible refine LeO.ite ?_ ?_)
      | (with_reducible refine LeO.bind ?_ (fun _ => ?_))
      | exact fastfloat_ParseInt64BestEffort.mono _ _
      | exact LeO.none _
      | refine LeO.ite ?_ ?_
      | refine LeO.bind ?_ (fun _ => ?_)
set_option maxHeartbeats 8000000 in
set_option maxRecDepth 100000 in
theorem impl_FfInt64Best.calls (k : Nat) (a0 : ByteArray) (r : Int) (w : World) (hL : Laid w) (h : impl_FfInt64Best.f k a0 = some r) :
    Calls Tryd.prog 18 #[.string a0] w fun e w' => e = .returned (.int .i64 r) ∧ Below w.heap.size w w' := by
  have HB := Aside0.mk (Below.refl w.heap.size w)
  have HLD := Aside0.mk hL
  clear hL
  have H : ((fastfloat_ParseInt64BestEffort.f k a0).bind fun t114 => (some t114)) = some r := h
  clear h
  replace H := Option.bind_eq_some_iff.mp H
  obtain ⟨t114, A20, H⟩ := H
  replace H : (some t114) = some r := H
  have A2 := Aside0.mk A20
  clear A20
  obtain rfl := Option.some.inj H
  go_enter Tryd.func18, Tryd.ntmps18
  go_wp2_with (first | ((with_reducible refine gate_callee (f := 38) rfl ?_); refine goesL_ (some 4) rfl rfl Tryd.func38 (by kernel_rfl) rfl #[.string a0] rfl (by (try simp only [List.map_toArray, List.map_cons, List.map_nil]); first | done | rfl | (simp only [List.length_drop, List.length_take]; rfl)) ?_; (with_reducible refine (fastfloat_ParseInt64BestEffort.calls k a0 t114 _ ?side1 A2.out).mono ?_); (case side1 => exact Laid.below HLD.out (by repeat (first | (with_reducible first | exact HB.out | apply below_alloc | apply pw_below_drewN | apply below_drew1) | exact HB.out))); rintro e w3 ⟨rfl, hb⟩; refine ⟨_, rfl, ?_⟩; have n0_ := Aside0.mk (below_step (by repeat (first | (with_reducible first | exact HB.out | apply below_alloc | apply pw_below_drewN | apply below_drew1) | exact HB.out)) hb); clear HB; have HB := n0_; clear n0_; (try clear hb); (try clear hb2); (try clear hk); (try clear hi)))
  go_ret
  exact ⟨by first | rfl | (simp [errX_none, errX_some] <;> rfl) | (simp [*, errX_none, errX_some] <;> rfl), by repeat (first | (with_reducible first | exact HB.out | apply below_alloc | apply pw_below_drewN | apply below_drew1) | exact HB.out)⟩

/-! ### laws_FnFfInt64Best: function 6 -/
def laws_FnFfInt64Best.f (k : Nat) (a0 : ByteArray) : Option (Bool) := if (a0.size : Int) > 2147483647 then (some true) else (if (a0.size : Int) > 1000 then (some true) else ((impl_FfInt64.f k a0).bind fun bt115 => (if bt115.2 = true then ((impl_FfInt64Best.f k a0).bind fun t117 => (if t117 = bt115.1 then ((impl_FfInt64Best.f k (⟨#[45, 55]⟩ : ByteArray)).bind fun t118 => (some (t118 == (-7)))) else (some false))) else ((impl_FfInt64Best.f k a0).bind fun t119 => (if t119 = 0 then ((impl_FfInt64Best.f k (⟨#[45, 55]⟩ : ByteArray)).bind fun t120 => (some (t120 == (-7)))) else (some false))))))
theorem laws_FnFfInt64Best.mono : ∀ a0 k, LeO (laws_FnFfInt64Best.f k a0) (laws_FnFfInt64Best.f (k + 1) a0) := by
  intro a0 k
  unfold laws_FnFfInt64Best.f
  repeat' first
      | (with_reducible exact impl_FfInt64.mono _ _)
      | (with_reducible exact impl_FfInt64Best.mono _ _)
      | (with_reducible exact LeO.refl _)
      | (with_reducible exact LeO.none _)
      | (with_reducible refine LeO.ite ?_ ?_)
      | (with_reducible refine LeO.bind ?_ (fun _ => ?_))
      | exact impl_FfInt64.mono _ _
      | exact impl_FfInt64Best.mono _ _
      | exact LeO.none _
      | refine LeO.ite ?_ ?_
      | refine LeO.bind ?_ (fun _ => ?_)
set_option maxHeartbeats 8000000 in
set_option maxRecDepth 100000 in
theorem laws_FnFfInt64Best.calls (k : Nat) (a0 : ByteArray) (r : Bool) (w : World) (hL : Laid w) (h : laws_FnFfInt64Best.f k a0 = some r) :
    Calls Tryd.prog 6 #[.string a0] w fun e w' => e = .returned (.bool r) ∧ Below w.heap.size w w' := by
  have HB := Aside0.mk (Below.refl w.heap.size w)
  have HLD := Aside0.mk hL
  clear hL
  have H : (if (a0.size : Int) > 2147483647 then (some true) else (if (a0.size : Int) > 1000 then (some true) else ((impl_FfInt64.f k a0).bind fun bt115 => (if bt115.2 = true then ((impl_FfInt64Best.f k a0).bind fun t117 => (if t117 = bt115.1 then ((impl_FfInt64Best.f k (⟨#[45, 55]⟩ : ByteArray)).bind fun t118 => (some (t118 == (-7)))) else (some false))) else ((impl_FfInt64Best.f k a0).bind fun t119 => (if t119 = 0 then ((impl_FfInt64Best.f k (⟨#[45, 55]⟩ : ByteArray)).bind fun t120 => (some (t120 == (-7)))) else (some false))))))) = some r := h
  clear h
  by_cases c2 : (a0.size : Int) > 2147483647
  · rw [if_pos c2] at H
    have c2b0 : decide (2147483647 < (a0.size : Int)) = true := decide_eq_true c2
    have c2b1 : decide (2147483647 < a0.size) = true := decide_eq_true (by omega)
    clear c2
    obtain rfl := Option.some.inj H
    go_enter Tryd.func6, Tryd.ntmps6
    go_wp2
    go_ret
    exact ⟨by first | rfl | (simp [errX_none, errX_some] <;> rfl) | (simp [*, errX_none, errX_some] <;> rfl), by repeat (first | (with_reducible first | exact HB.out | apply below_alloc | apply pw_below_drewN | apply below_drew1) | exact HB.out)⟩
  · rw [if_neg c2] at H
    have c2b0 : decide (2147483647 < (a0.size : Int)) = false := decide_eq_false c2
    have c2b1 : decide (2147483647 < a0.size) = false := decide_eq_false (by omega)
    clear c2
    by_cases c3 : (a0.size : Int) > 1000
    · rw [if_pos c3] at H
      have c3b0 : decide (1000 < (a0.size : Int)) = true := decide_eq_true c3
      have c3b1 : decide (1000 < a0.size) = true := decide_eq_true (by omega)
      clear c3
      obtain rfl := Option.some.inj H
      go_enter Tryd.func6, Tryd.ntmps6
      go_wp2
      go_ret
      exact ⟨by first | rfl | (simp [errX_none, errX_some] <;> rfl) | (simp [*, errX_none, errX_some] <;> rfl), by repeat (first | (with_reducible first | exact HB.out | apply below_alloc | apply pw_below_drewN | apply below_drew1) | exact HB.out)⟩
    · rw [if_neg c3] at H
      have c3b0 : decide (1000 < (a0.size : Int)) = false := decide_eq_false c3
      have c3b1 : decide (1000 < a0.size) = false := decide_eq_false (by omega)
      clear c3
      replace H := Option.bind_eq_some_iff.mp H
      obtain ⟨⟨t115, t116⟩, A40, H⟩ := H
      replace H : (if t116 = true then ((impl_FfInt64Best.f k a0).bind fun t117 => (if t117 = t115 then ((impl_FfInt64Best.f k (⟨#[45, 55]⟩ : ByteArray)).bind fun t118 => (some (t118 == (-7)))) else (some false))) else ((impl_FfInt64Best.f k a0).bind fun t119 => (if t119 = 0 then ((impl_FfInt64Best.f k (⟨#[45, 55]⟩ : ByteArray)).bind fun t120 => (some (t120 == (-7)))) else (some false)))) = some r := H
      have A4 := Aside0.mk A40
      clear A40
      by_cases c5 : t116 = true
      · subst c5
        have H1 : ((impl_FfInt64Best.f k a0).bind fun t117 => (if t117 = t115 then ((impl_FfInt64Best.f k (⟨#[45, 55]⟩ : ByteArray)).bind fun t118 => (some (t118 == (-7)))) else (some false))) = some r := by rw [if_pos rfl] at H; exact H
        clear H
        have H := H1
        clear H1
        replace H := Option.bind_eq_some_iff.mp H
        obtain ⟨t117, A60, H⟩ := H
        replace H : (if t117 = t115 then ((impl_FfInt64Best.f k (⟨#[45, 55]⟩ : ByteArray)).bind fun t118 => (some (t118 == (-7)))) else (some false)) = some r := H
        have A6 := Aside0.mk A60
        clear A60
        by_cases c7 : t117 = t115
        · rw [if_pos c7] at H
          have c7b0 : (t117 == t115) = true := beq_iff_eq.mpr c7
          have c7b1 : (t117 != t115) = false := bne_eq_false_iff_eq.mpr c7
          clear c7
          replace H := Option.bind_eq_some_iff.mp H
          obtain ⟨t118, A80, H⟩ := H
          replace H : (some (t118 == (-7))) = some r := H
          have A8 := Aside0.mk A80
          clear A80
          obtain rfl := Option.some.inj H
          go_enter Tryd.func6, Tryd.ntmps6
          go_wp2_with (first | ((with_reducible refine gate_callee (f := 17) rfl ?_); refine goesL_ (some 13) rfl rfl Tryd.func17 (by kernel_rfl) rfl #[.string a0] rfl (by (try simp only [List.map_toArray, List.map_cons, List.map_nil]); first | done | rfl | (simp only [List.length_drop, List.length_take]; rfl)) ?_; (with_reducible refine (impl_FfInt64.calls k a0 t115 true _ ?side1 A4.out).mono ?_); (case side1 => exact Laid.below HLD.out (by repeat (first | (with_reducible first | exact HB.out | apply below_alloc | apply pw_below_drewN | apply below_drew1) | exact HB.out))); rintro e w9 ⟨rfl, hb⟩; refine ⟨_, rfl, ?_⟩; have n0_ := Aside0.mk (below_step (by repeat (first | (with_reducible first | exact HB.out | apply below_alloc | apply pw_below_drewN | apply below_drew1) | exact HB.out)) hb); clear HB; have HB := n0_; clear n0_; (try clear hb); (try clear hb2); (try clear hk); (try clear hi)) | ((with_reducible refine gate_callee (f := 18) rfl ?_); refine goesL_ (some 19) rfl rfl Tryd.func18 (by kernel_rfl) rfl #[.string a0] rfl (by (try simp only [List.map_toArray, List.map_cons, List.map_nil]); first | done | rfl | (simp only [List.length_drop, List.length_take]; rfl)) ?_; (with_reducible refine (impl_FfInt64Best.calls k a0 t117 _ ?side1 A6.out).mono ?_); (case side1 => exact Laid.below HLD.out (by repeat (first | (with_reducible first | exact HB.out | apply below_alloc | apply pw_below_drewN | apply below_drew1) | exact HB.out))); rintro e w10 ⟨rfl, hb⟩; refine ⟨_, rfl, ?_⟩; have n0_ := Aside0.mk (below_step (by repeat (first | (with_reducible first | exact HB.out | apply below_alloc | apply pw_below_drewN | apply below_drew1) | exact HB.out)) hb); clear HB; have HB := n0_; clear n0_; (try clear hb); (try clear hb2); (try clear hk); (try clear hi)) | (go_at_call 18; (with_reducible refine (impl_FfInt64Best.calls k (⟨#[45, 55]⟩ : ByteArray) t118 _ ?side1 A8.out).mono ?_); (case side1 => exact Laid.below HLD.out (by repeat (first | (with_reducible first | exact HB.out | apply below_alloc | apply pw_below_drewN | apply below_drew1) | exact HB.out))); rintro e w11 ⟨rfl, hb⟩; have n0_ := Aside0.mk (below_step (by repeat (first | (with_reducible first | exact HB.out | apply below_alloc | apply pw_below_drewN | apply below_drew1) | exact HB.out)) hb); clear HB; have HB := n0_; clear n0_; (try clear hb); (try clear hb2); (try clear hk); (try clear hi)))
          go_ret
          exact ⟨by first | rfl | (simp [errX_none, errX_some] <;> rfl) | (simp [*, errX_none, errX_some] <;> rfl), by repeat (first | (with_reducible first | exact HB.out | apply below_alloc | apply pw_below_drewN | apply below_drew1) | exact HB.out)⟩
        · rw [if_neg c7] at H
          have c7b0 : (t117 == t115) = false := beq_eq_false_iff_ne.mpr c7
          have c7b1 : (t117 != t115) = true := bne_iff_ne.mpr c7
          obtain rfl := Option.some.inj H
          go_enter Tryd.func6, Tryd.ntmps6
          go_wp2_with (first | ((with_reducible refine gate_callee (f := 17) rfl ?_); refine goesL_ (some 13) rfl rfl Tryd.func17 (by kernel_rfl) rfl #[.string a0] rfl (by (try simp only [List.map_toArray, List.map_cons, List.map_nil]); first | done | rfl | (simp only [List.length_drop, List.length_take]; rfl)) ?_; (with_reducible refine (impl_FfInt64.calls k a0 t115 true _ ?side1 A4.out).mono ?_); (case side1 => exact Laid.below HLD.out (by repeat (first | (with_reducible first | exact HB.out | apply below_alloc | apply pw_below_drewN | apply below_drew1) | exact HB.out))); rintro e w12 ⟨rfl, hb⟩; refine ⟨_, rfl, ?_⟩; have n0_ := Aside0.mk (below_step (by repeat (first | (with_reducible first | exact HB.out | apply below_alloc | apply pw_below_drewN | apply below_drew1) | exact HB.out)) hb); clear HB; have HB := n0_; clear n0_; (try clear hb); (try clear hb2); (try clear hk); (try clear hi)) | ((with_reducible refine gate_callee (f := 18) rfl ?_); refine goesL_ (some 19) rfl rfl Tryd.func18 (by kernel_rfl) rfl #[.string a0] rfl (by (try simp only [List.map_toArray, List.map_cons, List.map_nil]); first | done | rfl | (simp only [List.length_drop, List.length_take]; rfl)) ?_; (with_reducible refine (impl_FfInt64Best.calls k a0 t117 _ ?side1 A6.out).mono ?_); (case side1 => exact Laid.below HLD.out (by repeat (first | (with_reducible first | exact HB.out | apply below_alloc | apply pw_below_drewN | apply below_drew1) | exact HB.out))); rintro e w13 ⟨rfl, hb⟩; refine ⟨_, rfl, ?_⟩; have n0_ := Aside0.mk (below_step (by repeat (first | (with_reducible first | exact HB.out | apply below_alloc | apply pw_below_drewN | apply below_drew1) | exact HB.out)) hb); clear HB; have HB := n0_; clear n0_; (try clear hb); (try clear hb2); (try clear hk); (try clear hi)))
          go_ret
          exact ⟨by first | rfl | (simp [errX_none, errX_some] <;> rfl) | (simp [*, errX_none, errX_some] <;> rfl), by repeat (first | (with_reducible first | exact HB.out | apply below_alloc | apply pw_below_drewN | apply below_drew1) | exact HB.out)⟩
      · replace c5 := Bool.eq_false_iff.mpr c5
        subst c5
        have H1 : ((impl_FfInt64Best.f k a0).bind fun t119 => (if t119 = 0 then ((impl_FfInt64Best.f k (⟨#[45, 55]⟩ : ByteArray)).bind fun t120 => (some (t120 == (-7)))) else (some false))) = some r := by rw [if_neg (show ¬ (false = true) by decide)] at H; exact H
        clear H
        have H := H1
        clear H1
        replace H := Option.bind_eq_some_iff.mp H
        obtain ⟨t119, A140, H⟩ := H
        replace H : (if t119 = 0 then ((impl_FfInt64Best.f k (⟨#[45, 55]⟩ : ByteArray)).bind fun t120 => (some (t120 == (-7)))) else (some false)) = some r := H
        have A14 := Aside0.mk A140
        clear A140
        by_cases c15 : t119 = 0
        · rw [if_pos c15] at H
          have c15b0 : (t119 == 0) = true := beq_iff_eq.mpr c15
          have c15b1 : (t119 != 0) = false := bne_eq_false_iff_eq.mpr c15
          clear c15
          replace H := Option.bind_eq_some_iff.mp H
          obtain ⟨t120, A160, H⟩ := H
          replace H : (some (t120 == (-7))) = some r := H
          have A16 := Aside0.mk A160
          clear A160
          obtain rfl := Option.some.inj H
          go_enter Tryd.func6, Tryd.ntmps6
          go_wp2_with (first | ((with_reducible refine gate_callee (f := 17) rfl ?_); refine goesL_ (some 13) rfl rfl Tryd.func17 (by kernel_rfl) rfl #[.string a0] rfl (by (try simp only [List.map_toArray, List.map_cons, List.map_nil]); first | done | rfl | (simp only [List.length_drop, List.length_take]; rfl)) ?_; (with_reducible refine (impl_FfInt64.calls k a0 t115 false _ ?side1 A4.out).mono ?_); (case side1 => exact Laid.below HLD.out (by repeat (first | (with_reducible first | exact HB.out | apply below_alloc | apply pw_below_drewN | apply below_drew1) | exact HB.out))); rintro e w17 ⟨rfl, hb⟩; refine ⟨_, rfl, ?_⟩; have n0_ := Aside0.mk (below_step (by repeat (first | (with_reducible first | exact HB.out | apply below_alloc | apply pw_below_drewN | apply below_drew1) | exact HB.out)) hb); clear HB; have HB := n0_; clear n0_; (try clear hb); (try clear hb2); (try clear hk); (try clear hi)) | ((with_reducible refine gate_callee (f := 18) rfl ?_); refine goesL_ (some 19) rfl rfl Tryd.func18 (by kernel_rfl) rfl #[.string a0] rfl (by (try simp only [List.map_toArray, List.map_cons, List.map_nil]); first | done | rfl | (simp only [List.length_drop, List.length_take]; rfl)) ?_; (with_reducible refine (impl_FfInt64Best.calls k a0 t119 _ ?side1 A14.out).mono ?_); (case side1 => exact Laid.below HLD.out (by repeat (first | (with_reducible first | exact HB.out | apply below_alloc | apply pw_below_drewN | apply below_drew1) | exact HB.out))); rintro e w18 ⟨rfl, hb⟩; refine ⟨_, rfl, ?_⟩; have n0_ := Aside0.mk (below_step (by repeat (first | (with_reducible first | exact HB.out | apply below_alloc | apply pw_below_drewN | apply below_drew1) | exact HB.out)) hb); clear HB; have HB := n0_; clear n0_; (try clear hb); (try clear hb2); (try clear hk); (try clear hi)) | (go_at_call 18; (with_reducible refine (impl_FfInt64Best.calls k (⟨#[45, 55]⟩ : ByteArray) t120 _ ?side1 A16.out).mono ?_); (case side1 => exact Laid.below HLD.out (by repeat (first | (with_reducible first | exact HB.out | apply below_alloc | apply pw_below_drewN | apply below_drew1) | exact HB.out))); rintro e w19 ⟨rfl, hb⟩; have n0_ := Aside0.mk (below_step (by repeat (first | (with_reducible first | exact HB.out | apply below_alloc | apply pw_below_drewN | apply below_drew1) | exact HB.out)) hb); clear HB; have HB := n0_; clear n0_; (try clear hb); (try clear hb2); (try clear hk); (try clear hi)))
          go_ret
          exact ⟨by first | rfl | (simp [errX_none, errX_some] <;> rfl) | (simp [*, errX_none, errX_some] <;> rfl), by repeat (first | (with_reducible first | exact HB.out | apply below_alloc | apply pw_below_drewN | apply below_drew1) | exact HB.out)⟩
        · rw [if_neg c15] at H
          have c15b0 : (t119 == 0) = false := beq_eq_false_iff_ne.mpr c15
          have c15b1 : (t119 != 0) = true := bne_iff_ne.mpr c15
          obtain rfl := Option.some.inj H
          go_enter Tryd.func6, Tryd.ntmps6
          go_wp2_with (first | ((with_reducible refine gate_callee (f := 17) rfl ?_); refine goesL_ (some 13) rfl rfl Tryd.func17 (by kernel_rfl) rfl #[.string a0] rfl (by (try simp only [List.map_toArray, List.map_cons, List.map_nil]); first | done | rfl | (simp only [List.length_drop, List.length_take]; rfl)) ?_; (with_reducible refine (impl_FfInt64.calls k a0 t115 false _ ?side1 A4.out).mono ?_); (case side1 => exact Laid.below HLD.out (by repeat (first | (with_reducible first | exact HB.out | apply below_alloc | apply pw_below_drewN | apply below_drew1) | exact HB.out))); rintro e w20 ⟨rfl, hb⟩; refine ⟨_, rfl, ?_⟩; have n0_ := Aside0.mk (below_step (by repeat (first | (with_reducible first | exact HB.out | apply below_alloc | apply pw_below_drewN | apply below_drew1) | exact HB.out)) hb); clear HB; have HB := n0_; clear n0_; (try clear hb); (try clear hb2); (try clear hk); (try clear hi)) | ((with_reducible refine gate_callee (f := 18) rfl ?_); refine goesL_ (some 19) rfl rfl Tryd.func18 (by kernel_rfl) rfl #[.string a0] rfl (by (try simp only [List.map_toArray, List.map_cons, List.map_nil]); first | done | rfl | (simp only [List.length_drop, List.length_take]; rfl)) ?_; (with_reducible refine (impl_FfInt64Best.calls k a0 t119 _ ?side1 A14.out).mono ?_); (case side1 => exact Laid.below HLD.out (by repeat (first | (with_reducible first | exact HB.out | apply below_alloc | apply pw_below_drewN | apply below_drew1) | exact HB.out))); rintro e w21 ⟨rfl, hb⟩; refine ⟨_, rfl, ?_⟩; have n0_ := Aside0.mk (below_step (by repeat (first | (with_reducible first | exact HB.out | apply below_alloc | apply pw_below_drewN | apply below_drew1) | exact HB.out)) hb); clear HB; have HB := n0_; clear n0_; (try clear hb); (try clear hb2); (try clear hk); (try clear hi)))
          go_ret
          exact ⟨by first | rfl | (simp [errX_none, errX_some] <;> rfl) | (simp [*, errX_none, errX_some] <;> rfl), by repeat (first | (with_reducible first | exact HB.out | apply below_alloc | apply pw_below_drewN | apply below_drew1) | exact HB.out)⟩

/-- THE ONE PURE STATEMENT of laws_FnFfInt64Best: yours. -/
def laws_FnFfInt64Best.Pure : Prop := ∀ (a0 : ByteArray), a0.size ≤ 140737488351232 → ∃ k, laws_FnFfInt64Best.f k a0 = some true
theorem laws_FnFfInt64Best.walk (P : laws_FnFfInt64Best.Pure) (a0 : ByteArray) (w : World) (hL : Laid w) (w0 : a0.size ≤ 140737488351232) :
    Calls Tryd.prog 6 #[.string a0] w fun e w' => e = .returned (.bool true) ∧ Below w.heap.size w w' := by
  obtain ⟨k, h⟩ := P a0 w0
  refine (laws_FnFfInt64Best.calls k a0 true w hL h).mono ?_
  rintro e w' ⟨rfl, hd⟩
  exact ⟨rfl, hd⟩

end Go.Proofs.YtkdpkenhhcgnbaaDoor.PFnFfInt64Best
