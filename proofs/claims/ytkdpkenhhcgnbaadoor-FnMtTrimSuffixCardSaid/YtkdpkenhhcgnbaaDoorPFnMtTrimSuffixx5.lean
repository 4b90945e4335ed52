-- Written for this claim by this session's own program (wip/xprint).
import Derived.Test.YtkdpkenhhcgnbaaDoorPFnMtTrimSuffixx0
import Derived.Test.YtkdpkenhhcgnbaaDoorPFnMtTrimSuffixx4
namespace Go.Proofs.YtkdpkenhhcgnbaaDoor.PFnMtTrimSuffix
open Go.RowKit Go.Proofs.YtkdpkenhhcgnbaaDoorW.PrintWords Go.Proofs.YtkdpkenhhcgnbaaDoorW.PrintLast Go.Proofs.YtkdpkenhhcgnbaaDoorW.PrintMore
attribute [local go_sem] max2_int min2_int max_two min_two max_three min_three max_four min_four   -- for this text's walks alone
set_option linter.unusedVariables false
set_option linter.unusedSimpArgs false

/-! ### match_matchTrimSuffix: function 59 -/
mutual
def match_matchTrimSuffix.l0 : Nat → ByteArray → ByteArray → Bool → Bool → Option (ByteArray × ByteArray × Bool)
  | 0, _, _, _, _ => none
  | k + 1, x0, x1, x2, x9 => if (x0.size : Int) > 0 then (match_matchTrimSuffix.j1 k x0 x1 x2 x9 (decide ((x1.size : Int) > 1))) else (match_matchTrimSuffix.j1 k x0 x1 x2 x9 false)
def match_matchTrimSuffix.j1 : Nat → ByteArray → ByteArray → Bool → Bool → Bool → Option (ByteArray × ByteArray × Bool)
  | 0, _, _, _, _, _ => none
  | k + 1, x0, x1, x2, x9, x23 => if x23 = true then ((utf8_DecodeLastRuneInString.f x1).bind fun bt157 => (match_matchTrimSuffix.l1 k x0 x1 x2 x9 bt157.1 bt157.2 false 0)) else (some (x0, x1, x9))
def match_matchTrimSuffix.j3 : Nat → ByteArray → ByteArray → Bool → Bool → Int → Int → Bool → Option (ByteArray × ByteArray × Bool)
  | 0, _, _, _, _, _, _, _ => none
  | k + 1, x0, x1, x2, x9, x10, x11, x12 => if x10 = 42 then (match_matchTrimSuffix.j4 k x0 x1 x2 x9 x10 x11 x12 (!x12)) else (match_matchTrimSuffix.j4 k x0 x1 x2 x9 x10 x11 x12 false)
def match_matchTrimSuffix.j4 : Nat → ByteArray → ByteArray → Bool → Bool → Int → Int → Bool → Bool → Option (ByteArray × ByteArray × Bool)
  | 0, _, _, _, _, _, _, _, _ => none
  | k + 1, x0, x1, x2, x9, x10, x11, x12, x51 => if x51 = true then (some (x0, x1, true)) else ((utf8_DecodeLastRuneInString.f x0).bind fun bt159 => (if x2 = true then ((match_tolower.f x10).bind fun t161 => ((match_tolower.f bt159.1).bind fun t162 => (if t161 = 63 then (if x12 = true then (if t161 = t162 then (if 0 ≤ (wrap64 ((x0.size : Int) - bt159.2)) then (if (wrap64 ((x0.size : Int) - bt159.2)) ≤ (x0.size : Int) then (if 0 ≤ (wrap64 ((x1.size : Int) - x11)) then (if (wrap64 ((x1.size : Int) - x11)) ≤ (x1.size : Int) then (match_matchTrimSuffix.l0 k (x0.extract 0 ((wrap64 ((x0.size : Int) - bt159.2)) : Int).toNat) (x1.extract 0 ((wrap64 ((x1.size : Int) - x11)) : Int).toNat) x2 x9) else (none)) else (none)) else (none)) else (none)) else (some (x0, x1, false))) else (if 0 ≤ (wrap64 ((x0.size : Int) - bt159.2)) then (if (wrap64 ((x0.size : Int) - bt159.2)) ≤ (x0.size : Int) then (if 0 ≤ (wrap64 ((x1.size : Int) - x11)) then (if (wrap64 ((x1.size : Int) - x11)) ≤ (x1.size : Int) then (match_matchTrimSuffix.l0 k (x0.extract 0 ((wrap64 ((x0.size : Int) - bt159.2)) : Int).toNat) (x1.extract 0 ((wrap64 ((x1.size : Int) - x11)) : Int).toNat) x2 x9) else (none)) else (none)) else (none)) else (none))) else (if t161 = t162 then (if 0 ≤ (wrap64 ((x0.size : Int) - bt159.2)) then (if (wrap64 ((x0.size : Int) - bt159.2)) ≤ (x0.size : Int) then (if 0 ≤ (wrap64 ((x1.size : Int) - x11)) then (if (wrap64 ((x1.size : Int) - x11)) ≤ (x1.size : Int) then (match_matchTrimSuffix.l0 k (x0.extract 0 ((wrap64 ((x0.size : Int) - bt159.2)) : Int).toNat) (x1.extract 0 ((wrap64 ((x1.size : Int) - x11)) : Int).toNat) x2 x9) else (none)) else (none)) else (none)) else (none)) else (some (x0, x1, false)))))) else (if x10 = 63 then (if x12 = true then (if x10 = bt159.1 then (if 0 ≤ (wrap64 ((x0.size : Int) - bt159.2)) then (if (wrap64 ((x0.size : Int) - bt159.2)) ≤ (x0.size : Int) then (if 0 ≤ (wrap64 ((x1.size : Int) - x11)) then (if (wrap64 ((x1.size : Int) - x11)) ≤ (x1.size : Int) then (match_matchTrimSuffix.l0 k (x0.extract 0 ((wrap64 ((x0.size : Int) - bt159.2)) : Int).toNat) (x1.extract 0 ((wrap64 ((x1.size : Int) - x11)) : Int).toNat) x2 x9) else (none)) else (none)) else (none)) else (none)) else (some (x0, x1, false))) else (if 0 ≤ (wrap64 ((x0.size : Int) - bt159.2)) then (if (wrap64 ((x0.size : Int) - bt159.2)) ≤ (x0.size : Int) then (if 0 ≤ (wrap64 ((x1.size : Int) - x11)) then (if (wrap64 ((x1.size : Int) - x11)) ≤ (x1.size : Int) then (match_matchTrimSuffix.l0 k (x0.extract 0 ((wrap64 ((x0.size : Int) - bt159.2)) : Int).toNat) (x1.extract 0 ((wrap64 ((x1.size : Int) - x11)) : Int).toNat) x2 x9) else (none)) else (none)) else (none)) else (none))) else (if x10 = bt159.1 then (if 0 ≤ (wrap64 ((x0.size : Int) - bt159.2)) then (if (wrap64 ((x0.size : Int) - bt159.2)) ≤ (x0.size : Int) then (if 0 ≤ (wrap64 ((x1.size : Int) - x11)) then (if (wrap64 ((x1.size : Int) - x11)) ≤ (x1.size : Int) then (match_matchTrimSuffix.l0 k (x0.extract 0 ((wrap64 ((x0.size : Int) - bt159.2)) : Int).toNat) (x1.extract 0 ((wrap64 ((x1.size : Int) - x11)) : Int).toNat) x2 x9) else (none)) else (none)) else (none)) else (none)) else (some (x0, x1, false))))))
def match_matchTrimSuffix.l1 : Nat → ByteArray → ByteArray → Bool → Bool → Int → Int → Bool → Int → Option (ByteArray × ByteArray × Bool)
  | 0, _, _, _, _, _, _, _, _ => none
  | k + 1, x0, x1, x2, x9, x10, x11, x12, x13 => if 0 ≤ (wrap64 ((wrap64 ((wrap64 ((x1.size : Int) - x11)) - x13)) - 1)) then (if (wrap64 ((wrap64 ((wrap64 ((x1.size : Int) - x11)) - x13)) - 1)) < (x1.size : Int) then (if (bt x1 (wrap64 ((wrap64 ((wrap64 ((x1.size : Int) - x11)) - x13)) - 1))) = 92 then (match_matchTrimSuffix.l1 k x0 x1 x2 x9 x10 x11 x12 (wrap64 (x13 + 1))) else (if (Go.bits .and .i64 x13 1) = 1 then (match_matchTrimSuffix.j3 k x0 x1 x2 x9 x10 (wrap64 (x11 + 1)) true) else (match_matchTrimSuffix.j3 k x0 x1 x2 x9 x10 x11 x12))) else (none)) else (none)
end
def match_matchTrimSuffix.f (k : Nat) (a0 : ByteArray) (a1 : ByteArray) (a2 : Bool) : Option (ByteArray × ByteArray × Bool) := match_matchTrimSuffix.l0 k a0 a1 a2 true
theorem match_matchTrimSuffix.mono_l : ∀ k, (∀ y0 y1 y2 y3, LeO (match_matchTrimSuffix.l0 k y0 y1 y2 y3) (match_matchTrimSuffix.l0 (k + 1) y0 y1 y2 y3)) ∧ (∀ y0 y1 y2 y3 y4, LeO (match_matchTrimSuffix.j1 k y0 y1 y2 y3 y4) (match_matchTrimSuffix.j1 (k + 1) y0 y1 y2 y3 y4)) ∧ (∀ y0 y1 y2 y3 y4 y5 y6, LeO (match_matchTrimSuffix.j3 k y0 y1 y2 y3 y4 y5 y6) (match_matchTrimSuffix.j3 (k + 1) y0 y1 y2 y3 y4 y5 y6)) ∧ (∀ y0 y1 y2 y3 y4 y5 y6 y7, LeO (match_matchTrimSuffix.j4 k y0 y1 y2 y3 y4 y5 y6 y7) (match_matchTrimSuffix.j4 (k + 1) y0 y1 y2 y3 y4 y5 y6 y7)) ∧ (∀ y0 y1 y2 y3 y4 y5 y6 y7, LeO (match_matchTrimSuffix.l1 k y0 y1 y2 y3 y4 y5 y6 y7) (match_matchTrimSuffix.l1 (k + 1) y0 y1 y2 y3 y4 y5 y6 y7))
  | 0 => ⟨fun _ _ _ _ r h => by simp [match_matchTrimSuffix.l0] at h, fun _ _ _ _ _ r h => by simp [match_matchTrimSuffix.j1] at h, fun _ _ _ _ _ _ _ r h => by simp [match_matchTrimSuffix.j3] at h, fun _ _ _ _ _ _ _ _ r h => by simp [match_matchTrimSuffix.j4] at h, fun _ _ _ _ _ _ _ _ r h => by simp [match_matchTrimSuffix.l1] at h⟩
  | k + 1 => by
    obtain ⟨ih0, ih1, ih2, ih3, ih4⟩ := match_matchTrimSuffix.mono_l k
    refine ⟨?_, ?_, ?_, ?_, ?_⟩
    · intro y0 y1 y2 y3
      unfold match_matchTrimSuffix.l0
      repeat' first
      | (with_reducible exact ih0 _ _ _ _)
      | (with_reducible exact ih1 _ _ _ _ _)
      | (with_reducible exact ih2 _ _ _ _ _ _ _)
      | (with_reducible exact ih3 _ _ _ _ _ _ _ _)
      | (with_reducible exact ih4 _ _ _ _ _ _ _ _)
      | (with_reducible exact LeO.refl _)
      | (with_reducible exact LeO.none _)
      | (with_reducible refine LeO.ite ?_ ?_)
      | (with_reducible refine LeO.bind ?_ (fun _ => ?_))
      | exact ih0 _ _ _ _
      | exact ih1 _ _ _ _ _
      | exact ih2 _ _ _ _ _ _ _
      | exact ih3 _ _ _ _ _ _ _ _
      | exact ih4 _ _ _ _ _ _ _ _
      | exact LeO.none _
      | refine LeO.ite ?_ ?_
      | refine LeO.bind ?_ (fun _ => ?_)
    · intro y0 y1 y2 y3 y4
      unfold match_matchTrimSuffix.j1
      repeat' first
      | (with_reducible exact ih0 _ _ _ _)
      | (with_reducible exact ih1 _ _ _ _ _)
      | (with_reducible exact ih2 _ _ _ _ _ _ _)
      | (with_reducible exact ih3 _ _ _ _ _ _ _ _)
      | (with_reducible exact ih4 _ _ _ _ _ _ _ _)
      | (with_reducible exact LeO.refl _)
      | (with_reducible exact LeO.none _)
      | (with_reducible refine LeO.ite ?_ ?_)
      | (with_reducible refine LeO.bind ?_ (fun _ => ?_))
      | exact ih0 _ _ _ _
      | exact ih1 _ _ _ _ _
      | exact ih2 _ _ _ _ _ _ _
      | exact ih3 _ _ _ _ _ _ _ _
      | exact ih4 _ _ _ _ _ _ _ _
      | exact LeO.none _
      | refine LeO.ite ?_ ?_
      | refine LeO.bind ?_ (fun _ => ?_)
    · intro y0 y1 y2 y3 y4 y5 y6
      unfold match_matchTrimSuffix.j3
      repeat' first
      | (with_reducible exact ih0 _ _ _ _)
      | (with_reducible exact ih1 _ _ _ _ _)
      | (with_reducible exact ih2 _ _ _ _ _ _ _)
      | (with_reducible exact ih3 _ _ _ _ _ _ _ _)
      | (with_reducible exact ih4 _ _ _ _ _ _ _ _)
      | (with_reducible exact LeO.refl _)
      | (with_reducible exact LeO.none _)
      | (with_reducible refine LeO.ite ?_ ?_)
      | (with_reducible refine LeO.bind ?_ (fun _ => ?_))
      | exact ih0 _ _ _ _
      | exact ih1 _ _ _ _ _
      | exact ih2 _ _ _ _ _ _ _
      | exact ih3 _ _ _ _ _ _ _ _
      | exact ih4 _ _ _ _ _ _ _ _
      | exact LeO.none _
      | refine LeO.ite ?_ ?_
      | refine LeO.bind ?_ (fun _ => ?_)
    · intro y0 y1 y2 y3 y4 y5 y6 y7
      unfold match_matchTrimSuffix.j4
      repeat' first
      | (with_reducible exact ih0 _ _ _ _)
      | (with_reducible exact ih1 _ _ _ _ _)
      | (with_reducible exact ih2 _ _ _ _ _ _ _)
      | (with_reducible exact ih3 _ _ _ _ _ _ _ _)
      | (with_reducible exact ih4 _ _ _ _ _ _ _ _)
      | (with_reducible exact LeO.refl _)
      | (with_reducible exact LeO.none _)
      | (with_reducible refine LeO.ite ?_ ?_)
      | (with_reducible refine LeO.bind ?_ (fun _ => ?_))
      | exact ih0 _ _ _ _
      | exact ih1 _ _ _ _ _
      | exact ih2 _ _ _ _ _ _ _
      | exact ih3 _ _ _ _ _ _ _ _
      | exact ih4 _ _ _ _ _ _ _ _
      | exact LeO.none _
      | refine LeO.ite ?_ ?_
      | refine LeO.bind ?_ (fun _ => ?_)
    · intro y0 y1 y2 y3 y4 y5 y6 y7
      unfold match_matchTrimSuffix.l1
      repeat' first
      | (with_reducible exact ih0 _ _ _ _)
      | (with_reducible exact ih1 _ _ _ _ _)
      | (with_reducible exact ih2 _ _ _ _ _ _ _)
      | (with_reducible exact ih3 _ _ _ _ _ _ _ _)
      | (with_reducible exact ih4 _ _ _ _ _ _ _ _)
      | (with_reducible exact LeO.refl _)
      | (with_reducible exact LeO.none _)
      | (with_reducible refine LeO.ite ?_ ?_)
      | (with_reducible refine LeO.bind ?_ (fun _ => ?_))
      | exact ih0 _ _ _ _
      | exact ih1 _ _ _ _ _
      | exact ih2 _ _ _ _ _ _ _
      | exact ih3 _ _ _ _ _ _ _ _
      | exact ih4 _ _ _ _ _ _ _ _
      | exact LeO.none _
      | refine LeO.ite ?_ ?_
      | refine LeO.bind ?_ (fun _ => ?_)
theorem match_matchTrimSuffix.mono : ∀ a0 a1 a2 k, LeO (match_matchTrimSuffix.f k a0 a1 a2) (match_matchTrimSuffix.f (k + 1) a0 a1 a2) := by
  intro a0 a1 a2 k
  obtain ⟨ih0, ih1, ih2, ih3, ih4⟩ := match_matchTrimSuffix.mono_l k
  unfold match_matchTrimSuffix.f
  repeat' first
      | (with_reducible exact ih0 _ _ _ _)
      | (with_reducible exact ih1 _ _ _ _ _)
      | (with_reducible exact ih2 _ _ _ _ _ _ _)
      | (with_reducible exact ih3 _ _ _ _ _ _ _ _)
      | (with_reducible exact ih4 _ _ _ _ _ _ _ _)
      | (with_reducible exact LeO.refl _)
      | (with_reducible exact LeO.none _)
      | (with_reducible refine LeO.ite ?_ ?_)
      | (with_reducible refine LeO.bind ?_ (fun _ => ?_))
      | exact ih0 _ _ _ _
      | exact ih1 _ _ _ _ _
      | exact ih2 _ _ _ _ _ _ _
      | exact ih3 _ _ _ _ _ _ _ _
      | exact ih4 _ _ _ _ _ _ _ _
      | exact LeO.none _
      | refine LeO.ite ?_ ?_
      | refine LeO.bind ?_ (fun _ => ?_)
set_option maxHeartbeats 8000000 in
set_option maxRecDepth 100000 in
theorem match_matchTrimSuffix.calls (k : Nat) (a0 : ByteArray) (a1 : ByteArray) (a2 : Bool) (r1 : ByteArray) (r2 : ByteArray) (r3 : Bool) (w : World) (hL : Laid w) (h : match_matchTrimSuffix.f k a0 a1 a2 = some (r1, r2, r3)) :
    Calls Tryd.prog 59 #[.string a0, .string a1, .bool a2] w fun e w' => e = .returned (.tuple #[.string r1, .string r2, .bool r3]) ∧ Below w.heap.size w w' := by
  have HB := Aside0.mk (Below.refl w.heap.size w)
  have HLD := Aside0.mk hL
  clear hL
  have H : (match_matchTrimSuffix.l0 k a0 a1 a2 true) = some (r1, r2, r3) := h
  clear h
  have H' := Aside0.mk H
  clear H
  go_enter Tryd.func59, Tryd.ntmps59
  go_wp2
  (try simp only [Act.put, List.setIfInBounds_toArray, List.set_cons_zero, List.set_cons_succ])
  go_loopg [0, 1, 9] k (fun kq v0 v1 v9 w' => ∃ (x0_1 : ByteArray) (x1_1 : ByteArray) (x9_1 : Bool), v0 = .string x0_1 ∧ v1 = .string x1_1 ∧ v9 = .bool x9_1 ∧ Aside0 (match_matchTrimSuffix.l0 kq x0_1 x1_1 a2 x9_1 = some (r1, r2, r3)) ∧ Aside0 (kq ≤ k) ∧ Aside0 (Below w.heap.size w w'))
  case atStart => exact ⟨(a0), (a1), (true), (by first | rfl | (simp; done) | (simp [*]; done)), (by first | rfl | (simp; done) | (simp [*]; done)), (by first | rfl | (simp; done) | (simp [*]; done)), H', ⟨Nat.le_refl _⟩, ⟨by repeat (first | (with_reducible first | exact HB.out | apply below_alloc | apply pw_below_drewN | apply below_drew1) | exact HB.out)⟩⟩
  case round =>
    clear H'
    try clear p2
    obtain ⟨x0_1, x1_1, x9_1, rfl, rfl, rfl, HA, HK1, HB⟩ := hrel
    cases gk with
    | zero => exact absurd HA.out (by simp [match_matchTrimSuffix.l0])
    | succ k1 =>
      have H := HA.out
      clear HA
      simp only [match_matchTrimSuffix.l0] at H
      have HC4 := Aside0.mk H
      clear H
      go_upto_region 2 with (fail)
      go_cut [23] (fun v23 wc => ∃ (kq : Nat) (x23_3 : Bool), v23 = .bool x23_3 ∧ Aside0 (match_matchTrimSuffix.j1 kq x0_1 x1_1 a2 x9_1 x23_3 = some (r1, r2, r3)) ∧ Aside0 (kq ≤ k1) ∧ Aside0 (Below w.heap.size w wc))
      case first =>
        have H := HC4.out
        clear HC4
        by_cases c5 : (x0_1.size : Int) > 0
        · rw [if_pos c5] at H
          have c5b0 : decide (0 < (x0_1.size : Int)) = true := decide_eq_true c5
          have c5b1 : decide (0 < x0_1.size) = true := decide_eq_true (by omega)
          clear c5
          (first | rw [c5b0] | (simp only [i64_w, i32_w]; rw [c5b0]) | skip)
          have H' := Aside0.mk H
          clear H
          go_wp2
          (first | go_meet)
          case rel => exact ⟨_, (decide ((x1_1.size : Int) > 1)), (by first | rfl | (simp; done) | (simp [*]; done)), H', ⟨by have := HK1.out; first | omega | exact Nat.le_refl _⟩, ⟨by repeat (first | (with_reducible first | exact HB.out | apply below_alloc | apply pw_below_drewN | apply below_drew1) | exact HB.out)⟩⟩
        · rw [if_neg c5] at H
          have c5b0 : decide (0 < (x0_1.size : Int)) = false := decide_eq_false c5
          have c5b1 : decide (0 < x0_1.size) = false := decide_eq_false (by omega)
          clear c5
          (first | rw [c5b0] | (simp only [i64_w, i32_w]; rw [c5b0]) | skip)
          have H' := Aside0.mk H
          clear H
          go_wp2
          (first | go_meet)
          case rel => exact ⟨_, (false), (by first | rfl | (simp; done) | (simp [*]; done)), H', ⟨by have := HK1.out; first | omega | exact Nat.le_refl _⟩, ⟨by repeat (first | (with_reducible first | exact HB.out | apply below_alloc | apply pw_below_drewN | apply below_drew1) | exact HB.out)⟩⟩
      case rest =>
        clear HC4
        try clear p2
        try clear c5
        try clear c5b0
        try clear c5b1
        try clear p2
        obtain ⟨kq, x23_3, rfl, HA, HJ3, HB⟩ := hcut
        cases kq with
        | zero => exact absurd HA.out (by simp [match_matchTrimSuffix.j1])
        | succ kj3 =>
          have H := HA.out
          clear HA
          simp only [match_matchTrimSuffix.j1] at H
          by_cases c6 : x23_3 = true
          · subst c6
            have H1 : ((utf8_DecodeLastRuneInString.f x1_1).bind fun bt157 => (match_matchTrimSuffix.l1 kj3 x0_1 x1_1 a2 x9_1 bt157.1 bt157.2 false 0)) = some (r1, r2, r3) := by rw [if_pos rfl] at H; exact H
            clear H
            have H := H1
            clear H1
            replace H := Option.bind_eq_some_iff.mp H
            obtain ⟨⟨t157, t158⟩, A70, H⟩ := H
            replace H : (match_matchTrimSuffix.l1 kj3 x0_1 x1_1 a2 x9_1 t157 t158 false 0) = some (r1, r2, r3) := H
            have A7 := Aside0.mk A70
            clear A70
            have HC8 := Aside0.mk H
            clear H
            go_upto_block 2 with (first | ((with_reducible refine gate_callee (f := 75) rfl ?_); refine goesL_ (some 26) rfl rfl Tryd.func75 (by kernel_rfl) rfl #[.string x1_1] rfl (by (try simp only [List.map_toArray, List.map_cons, List.map_nil]); first | done | rfl | (simp only [List.length_drop, List.length_take]; rfl)) ?_; (with_reducible refine (utf8_DecodeLastRuneInString.calls x1_1 t157 t158 _ ?side1 A7.out).mono ?_); (case side1 => exact Laid.below HLD.out (by repeat (first | (with_reducible first | exact HB.out | apply below_alloc | apply pw_below_drewN | apply below_drew1) | exact HB.out))); rintro e w9 ⟨rfl, hb⟩; refine ⟨_, rfl, ?_⟩; have n0_ := Aside0.mk (below_step (by repeat (first | (with_reducible first | exact HB.out | apply below_alloc | apply pw_below_drewN | apply below_drew1) | exact HB.out)) hb); clear HB; have HB := n0_; clear n0_; (try clear hb); (try clear hb2); (try clear hk); (try clear hi)))
            (try simp only [Act.put, List.setIfInBounds_toArray, List.set_cons_zero, List.set_cons_succ])
            go_cut [11, 12] (fun v11 v12 wc => ∃ (kq : Nat) (x11_7 : Int) (x12_7 : Bool), v11 = .int .i64 x11_7 ∧ v12 = .bool x12_7 ∧ Aside0 (match_matchTrimSuffix.j3 kq x0_1 x1_1 a2 x9_1 t157 x11_7 x12_7 = some (r1, r2, r3)) ∧ Aside0 (kq ≤ kj3) ∧ Aside0 (Below w.heap.size w wc))
            case first =>
              have H := HC8.out
              clear HC8
              have H' := Aside0.mk H
              clear H
              go_wp2
              (try simp only [Act.put, List.setIfInBounds_toArray, List.set_cons_zero, List.set_cons_succ])
              go_loopg [11, 12, 13] kj3 (fun kq v11 v12 v13 w' => ∃ (x11_3 : Int) (x12_3 : Bool) (x13_3 : Int), v11 = .int .i64 x11_3 ∧ v12 = .bool x12_3 ∧ v13 = .int .i64 x13_3 ∧ Aside0 (match_matchTrimSuffix.l1 kq x0_1 x1_1 a2 x9_1 t157 x11_3 x12_3 x13_3 = some (r1, r2, r3)) ∧ Aside0 (kq ≤ kj3) ∧ Aside0 (Below w.heap.size w w'))
              case atStart => exact ⟨(t158), (false), (0), (by first | rfl | (simp; done) | (simp [*]; done)), (by first | rfl | (simp; done) | (simp [*]; done)), (by first | rfl | (simp; done) | (simp [*]; done)), H', ⟨Nat.le_refl _⟩, ⟨by repeat (first | (with_reducible first | exact HB.out | apply below_alloc | apply pw_below_drewN | apply below_drew1) | exact HB.out)⟩⟩
              case round =>
                clear H'
                try clear p2
                try clear c5
                try clear c5b0
                try clear c5b1
                try clear c6
                try clear c7
                try clear p2
                obtain ⟨x11_3, x12_3, x13_3, rfl, rfl, rfl, HA, HK3, HB⟩ := hrel
                cases gk with
                | zero => exact absurd HA.out (by simp [match_matchTrimSuffix.l1])
                | succ k3 =>
                  have H := HA.out
                  clear HA
                  simp only [match_matchTrimSuffix.l1] at H
                  obtain ⟨ji10, hji10⟩ : ∃ j_ : Int, (wrap64 ((wrap64 ((wrap64 ((x1_1.size : Int) - x11_3)) - x13_3)) - 1)) = j_ := ⟨_, rfl⟩
                  replace H : (if 0 ≤ (ji10) then (if (ji10) < (x1_1.size : Int) then (if (bt x1_1 (ji10)) = 92 then (match_matchTrimSuffix.l1 k3 x0_1 x1_1 a2 x9_1 t157 x11_3 x12_3 (wrap64 (x13_3 + 1))) else (if (Go.bits .and .i64 x13_3 1) = 1 then (match_matchTrimSuffix.j3 k3 x0_1 x1_1 a2 x9_1 t157 (wrap64 (x11_3 + 1)) true) else (match_matchTrimSuffix.j3 k3 x0_1 x1_1 a2 x9_1 t157 x11_3 x12_3))) else (none)) else (none)) = some (r1, r2, r3) := by first | (rw [hji10] at H; exact H) | (simp only [hji10] at H ⊢; exact H)
                  have hji10w : (IntKind.i64.wrap ((wrap64 ((wrap64 ((x1_1.size : Int) - x11_3)) - x13_3)) - 1)) = ji10 := (i64_w _).trans hji10
                  by_cases c11 : 0 ≤ (ji10)
                  · rw [if_pos c11] at H
                    have c11b0 : decide (0 ≤ (ji10)) = true := decide_eq_true c11
                    clear c11
                    (first | rw [c11b0] | (simp only [i64_w, i32_w]; rw [c11b0]) | skip)
                    by_cases c12 : (ji10) < (x1_1.size : Int)
                    · rw [if_pos c12] at H
                      have c12b0 : decide ((ji10) < (x1_1.size : Int)) = true := decide_eq_true c12
                      clear c12
                      by_cases c14 : (bt x1_1 (ji10)) = 92
                      · rw [if_pos c14] at H
                        have c14b0 : ((bt x1_1 (ji10)) == 92) = true := beq_iff_eq.mpr c14
                        have c14b1 : ((bt x1_1 (ji10)) != 92) = false := bne_eq_false_iff_eq.mpr c14
                        clear c14
                        have H' := Aside0.mk H
                        clear H
                        have p13 : 0 ≤ ((ji10) : Int) := of_decide_eq_true (by first | (with_reducible assumption) | assumption)
                        have q13 : (ji10) < (x1_1.size : Int) := of_decide_eq_true (by first | (with_reducible assumption) | assumption)
                        have hx13 := bt_at x1_1 (ji10)
                        replace p13 := eq_true p13
                        replace q13 := eq_true q13
                        go_wp2
                        go_roundg k3
                        case measure => have := HK1.out; have := HJ3.out; have := HK3.out; omega
                        case rel => exact ⟨(x11_3), (x12_3), (wrap64 (x13_3 + 1)), (by first | rfl | (simp; done) | (simp [*]; done)), (by first | rfl | (simp; done) | (simp [*]; done)), (by first | rfl | (simp; done) | (simp [*]; done)), H', ⟨by have := HK1.out; have := HJ3.out; have := HK3.out; omega⟩, ⟨by repeat (first | (with_reducible first | exact HB.out | apply below_alloc | apply pw_below_drewN | apply below_drew1) | exact HB.out)⟩⟩
                      · rw [if_neg c14] at H
                        have c14b0 : ((bt x1_1 (ji10)) == 92) = false := beq_eq_false_iff_ne.mpr c14
                        have c14b1 : ((bt x1_1 (ji10)) != 92) = true := bne_iff_ne.mpr c14
                        by_cases c15 : (Go.bits .and .i64 x13_3 1) = 1
                        · rw [if_pos c15] at H
                          have c15b0 : ((Go.bits .and .i64 x13_3 1) == 1) = true := beq_iff_eq.mpr c15
                          have c15b1 : ((Go.bits .and .i64 x13_3 1) != 1) = false := bne_eq_false_iff_eq.mpr c15
                          clear c15
                          have H' := Aside0.mk H
                          clear H
                          have p13 : 0 ≤ ((ji10) : Int) := of_decide_eq_true (by first | (with_reducible assumption) | assumption)
                          have q13 : (ji10) < (x1_1.size : Int) := of_decide_eq_true (by first | (with_reducible assumption) | assumption)
                          have hx13 := bt_at x1_1 (ji10)
                          replace p13 := eq_true p13
                          replace q13 := eq_true q13
                          go_wp2
                          (first | go_meet | (rw [← c14b0]; go_meet) | (rw [← c15b0]; go_meet))
                          case rel => exact ⟨_, (wrap64 (x11_3 + 1)), (true), (by first | rfl | (simp; done) | (simp [*]; done)), (by first | rfl | (simp; done) | (simp [*]; done)), H', ⟨by have := HK1.out; have := HJ3.out; have := HK3.out; first | omega | exact Nat.le_refl _⟩, ⟨by repeat (first | (with_reducible first | exact HB.out | apply below_alloc | apply pw_below_drewN | apply below_drew1) | exact HB.out)⟩⟩
                        · rw [if_neg c15] at H
                          have c15b0 : ((Go.bits .and .i64 x13_3 1) == 1) = false := beq_eq_false_iff_ne.mpr c15
                          have c15b1 : ((Go.bits .and .i64 x13_3 1) != 1) = true := bne_iff_ne.mpr c15
                          have H' := Aside0.mk H
                          clear H
                          have p13 : 0 ≤ ((ji10) : Int) := of_decide_eq_true (by first | (with_reducible assumption) | assumption)
                          have q13 : (ji10) < (x1_1.size : Int) := of_decide_eq_true (by first | (with_reducible assumption) | assumption)
                          have hx13 := bt_at x1_1 (ji10)
                          replace p13 := eq_true p13
                          replace q13 := eq_true q13
                          go_wp2
                          (first | go_meet | (rw [← c14b0]; go_meet) | (rw [← c15b0]; go_meet))
                          case rel => exact ⟨_, (x11_3), (x12_3), (by first | rfl | (simp; done) | (simp [*]; done)), (by first | rfl | (simp; done) | (simp [*]; done)), H', ⟨by have := HK1.out; have := HJ3.out; have := HK3.out; first | omega | exact Nat.le_refl _⟩, ⟨by repeat (first | (with_reducible first | exact HB.out | apply below_alloc | apply pw_below_drewN | apply below_drew1) | exact HB.out)⟩⟩
                    · rw [if_neg c12] at H
                      exact absurd H (by simp)
                  · rw [if_neg c11] at H
                    exact absurd H (by simp)
            case rest =>
              clear HC8
              try clear c1
              try clear p1
              try clear q1
              try clear hx1
              try clear p2
              try clear c5
              try clear c5b0
              try clear c5b1
              try clear c6
              try clear p6
              try clear c7
              try clear c11
              try clear c11b0
              try clear c12
              try clear c12b0
              try clear p13
              try clear q13
              try clear hx13
              try clear c14
              try clear c14b0
              try clear c14b1
              try clear c15
              try clear c15b0
              try clear c15b1
              try clear p13
              try clear p2
              try clear q13
              obtain ⟨kq, x11_7, x12_7, rfl, rfl, HA, HJ7, HB⟩ := hcut
              cases kq with
              | zero => exact absurd HA.out (by simp [match_matchTrimSuffix.j3])
              | succ kj7 =>
                have H := HA.out
                clear HA
                simp only [match_matchTrimSuffix.j3] at H
                have HC16 := Aside0.mk H
                clear H
                go_upto_region 11 with (fail)
                go_cut [51] (fun v51 wc => ∃ (kq : Nat) (x51_15 : Bool), v51 = .bool x51_15 ∧ Aside0 (match_matchTrimSuffix.j4 kq x0_1 x1_1 a2 x9_1 t157 x11_7 x12_7 x51_15 = some (r1, r2, r3)) ∧ Aside0 (kq ≤ kj7) ∧ Aside0 (Below w.heap.size w wc))
                case first =>
                  have H := HC16.out
                  clear HC16
                  by_cases c17 : t157 = 42
                  · rw [if_pos c17] at H
                    have c17b0 : (t157 == 42) = true := beq_iff_eq.mpr c17
                    have c17b1 : (t157 != 42) = false := bne_eq_false_iff_eq.mpr c17
                    clear c17
                    (first | rw [c17b0] | (simp only [i64_w, i32_w]; rw [c17b0]) | skip)
                    have H' := Aside0.mk H
                    clear H
                    go_wp2
                    (first | go_meet | (rw [← c17b0]; go_meet))
                    case rel => exact ⟨_, (!x12_7), (by first | rfl | (simp; done) | (simp [*]; done)), H', ⟨by have := HK1.out; have := HJ3.out; have := HJ7.out; first | omega | exact Nat.le_refl _⟩, ⟨by repeat (first | (with_reducible first | exact HB.out | apply below_alloc | apply pw_below_drewN | apply below_drew1) | exact HB.out)⟩⟩
                  · rw [if_neg c17] at H
                    have c17b0 : (t157 == 42) = false := beq_eq_false_iff_ne.mpr c17
                    have c17b1 : (t157 != 42) = true := bne_iff_ne.mpr c17
                    (first | rw [c17b0] | (simp only [i64_w, i32_w]; rw [c17b0]) | skip)
                    have H' := Aside0.mk H
                    clear H
                    go_wp2
                    (first | go_meet | (rw [← c17b0]; go_meet))
                    case rel => exact ⟨_, (false), (by first | rfl | (simp; done) | (simp [*]; done)), H', ⟨by have := HK1.out; have := HJ3.out; have := HJ7.out; first | omega | exact Nat.le_refl _⟩, ⟨by repeat (first | (with_reducible first | exact HB.out | apply below_alloc | apply pw_below_drewN | apply below_drew1) | exact HB.out)⟩⟩
                case rest =>
                  clear HC16
                  try clear c1
                  try clear p1
                  try clear q1
                  try clear hx1
                  try clear p2
                  try clear c5
                  try clear c5b0
                  try clear c5b1
                  try clear c6
                  try clear p6
                  try clear c7
                  try clear c11
                  try clear c11b0
                  try clear c12
                  try clear c12b0
                  try clear p13
                  try clear q13
                  try clear hx13
                  try clear c14
                  try clear c14b0
                  try clear c14b1
                  try clear c15
                  try clear c15b0
                  try clear c15b1
                  try clear c17
                  try clear c17b0
                  try clear c17b1
                  try clear p1
                  try clear p13
                  try clear p2
                  try clear p6
                  try clear q1
                  try clear q13
                  obtain ⟨kq, x51_15, rfl, HA, HJ15, HB⟩ := hcut
                  cases kq with
                  | zero => exact absurd HA.out (by simp [match_matchTrimSuffix.j4])
                  | succ kj15 =>
                    have H := HA.out
                    clear HA
                    simp only [match_matchTrimSuffix.j4] at H
                    by_cases c18 : x51_15 = true
                    · subst c18
                      have H1 : (some (x0_1, x1_1, true)) = some (r1, r2, r3) := by rw [if_pos rfl] at H; exact H
                      clear H
                      have H := H1
                      clear H1
                      simp only [Option.some.injEq, Prod.mk.injEq] at H
                      obtain ⟨rfl, rfl, rfl⟩ := H
                      go_wp2
                      go_ret3
                      exact ⟨by first | rfl | (simp [errW_none, errW_some] <;> rfl) | (simp [*, errW_none, errW_some] <;> rfl), by repeat (first | (with_reducible first | exact HB.out | apply below_alloc | apply pw_below_drewN | apply below_drew1) | exact HB.out)⟩
                    · replace c18 := Bool.eq_false_iff.mpr c18
                      subst c18
                      have H1 : ((utf8_DecodeLastRuneInString.f x0_1).bind fun bt159 => (if a2 = true then ((match_tolower.f t157).bind fun t161 => ((match_tolower.f bt159.1).bind fun t162 => (if t161 = 63 then (if x12_7 = true then (if t161 = t162 then (if 0 ≤ (wrap64 ((x0_1.size : Int) - bt159.2)) then (if (wrap64 ((x0_1.size : Int) - bt159.2)) ≤ (x0_1.size : Int) then (if 0 ≤ (wrap64 ((x1_1.size : Int) - x11_7)) then (if (wrap64 ((x1_1.size : Int) - x11_7)) ≤ (x1_1.size : Int) then (match_matchTrimSuffix.l0 kj15 (x0_1.extract 0 ((wrap64 ((x0_1.size : Int) - bt159.2)) : Int).toNat) (x1_1.extract 0 ((wrap64 ((x1_1.size : Int) - x11_7)) : Int).toNat) a2 x9_1) else (none)) else (none)) else (none)) else (none)) else (some (x0_1, x1_1, false))) else (if 0 ≤ (wrap64 ((x0_1.size : Int) - bt159.2)) then (if (wrap64 ((x0_1.size : Int) - bt159.2)) ≤ (x0_1.size : Int) then (if 0 ≤ (wrap64 ((x1_1.size : Int) - x11_7)) then (if (wrap64 ((x1_1.size : Int) - x11_7)) ≤ (x1_1.size : Int) then (match_matchTrimSuffix.l0 kj15 (x0_1.extract 0 ((wrap64 ((x0_1.size : Int) - bt159.2)) : Int).toNat) (x1_1.extract 0 ((wrap64 ((x1_1.size : Int) - x11_7)) : Int).toNat) a2 x9_1) else (none)) else (none)) else (none)) else (none))) else (if t161 = t162 then (if 0 ≤ (wrap64 ((x0_1.size : Int) - bt159.2)) then (if (wrap64 ((x0_1.size : Int) - bt159.2)) ≤ (x0_1.size : Int) then (if 0 ≤ (wrap64 ((x1_1.size : Int) - x11_7)) then (if (wrap64 ((x1_1.size : Int) - x11_7)) ≤ (x1_1.size : Int) then (match_matchTrimSuffix.l0 kj15 (x0_1.extract 0 ((wrap64 ((x0_1.size : Int) - bt159.2)) : Int).toNat) (x1_1.extract 0 ((wrap64 ((x1_1.size : Int) - x11_7)) : Int).toNat) a2 x9_1) else (none)) else (none)) else (none)) else (none)) else (some (x0_1, x1_1, false)))))) else (if t157 = 63 then (if x12_7 = true then (if t157 = bt159.1 then (if 0 ≤ (wrap64 ((x0_1.size : Int) - bt159.2)) then (if (wrap64 ((x0_1.size : Int) - bt159.2)) ≤ (x0_1.size : Int) then (if 0 ≤ (wrap64 ((x1_1.size : Int) - x11_7)) then (if (wrap64 ((x1_1.size : Int) - x11_7)) ≤ (x1_1.size : Int) then (match_matchTrimSuffix.l0 kj15 (x0_1.extract 0 ((wrap64 ((x0_1.size : Int) - bt159.2)) : Int).toNat) (x1_1.extract 0 ((wrap64 ((x1_1.size : Int) - x11_7)) : Int).toNat) a2 x9_1) else (none)) else (none)) else (none)) else (none)) else (some (x0_1, x1_1, false))) else (if 0 ≤ (wrap64 ((x0_1.size : Int) - bt159.2)) then (if (wrap64 ((x0_1.size : Int) - bt159.2)) ≤ (x0_1.size : Int) then (if 0 ≤ (wrap64 ((x1_1.size : Int) - x11_7)) then (if (wrap64 ((x1_1.size : Int) - x11_7)) ≤ (x1_1.size : Int) then (match_matchTrimSuffix.l0 kj15 (x0_1.extract 0 ((wrap64 ((x0_1.size : Int) - bt159.2)) : Int).toNat) (x1_1.extract 0 ((wrap64 ((x1_1.size : Int) - x11_7)) : Int).toNat) a2 x9_1) else (none)) else (none)) else (none)) else (none))) else (if t157 = bt159.1 then (if 0 ≤ (wrap64 ((x0_1.size : Int) - bt159.2)) then (if (wrap64 ((x0_1.size : Int) - bt159.2)) ≤ (x0_1.size : Int) then (if 0 ≤ (wrap64 ((x1_1.size : Int) - x11_7)) then (if (wrap64 ((x1_1.size : Int) - x11_7)) ≤ (x1_1.size : Int) then (match_matchTrimSuffix.l0 kj15 (x0_1.extract 0 ((wrap64 ((x0_1.size : Int) - bt159.2)) : Int).toNat) (x1_1.extract 0 ((wrap64 ((x1_1.size : Int) - x11_7)) : Int).toNat) a2 x9_1) else (none)) else (none)) else (none)) else (none)) else (some (x0_1, x1_1, false)))))) = some (r1, r2, r3) := by rw [if_neg (show ¬ (false = true) by decide)] at H; exact H
                      clear H
                      have H := H1
                      clear H1
                      replace H := Option.bind_eq_some_iff.mp H
                      obtain ⟨⟨t159, t160⟩, A190, H⟩ := H
                      replace H : (if a2 = true then ((match_tolower.f t157).bind fun t161 => ((match_tolower.f t159).bind fun t162 => (if t161 = 63 then (if x12_7 = true then (if t161 = t162 then (if 0 ≤ (wrap64 ((x0_1.size : Int) - t160)) then (if (wrap64 ((x0_1.size : Int) - t160)) ≤ (x0_1.size : Int) then (if 0 ≤ (wrap64 ((x1_1.size : Int) - x11_7)) then (if (wrap64 ((x1_1.size : Int) - x11_7)) ≤ (x1_1.size : Int) then (match_matchTrimSuffix.l0 kj15 (x0_1.extract 0 ((wrap64 ((x0_1.size : Int) - t160)) : Int).toNat) (x1_1.extract 0 ((wrap64 ((x1_1.size : Int) - x11_7)) : Int).toNat) a2 x9_1) else (none)) else (none)) else (none)) else (none)) else (some (x0_1, x1_1, false))) else (if 0 ≤ (wrap64 ((x0_1.size : Int) - t160)) then (if (wrap64 ((x0_1.size : Int) - t160)) ≤ (x0_1.size : Int) then (if 0 ≤ (wrap64 ((x1_1.size : Int) - x11_7)) then (if (wrap64 ((x1_1.size : Int) - x11_7)) ≤ (x1_1.size : Int) then (match_matchTrimSuffix.l0 kj15 (x0_1.extract 0 ((wrap64 ((x0_1.size : Int) - t160)) : Int).toNat) (x1_1.extract 0 ((wrap64 ((x1_1.size : Int) - x11_7)) : Int).toNat) a2 x9_1) else (none)) else (none)) else (none)) else (none))) else (if t161 = t162 then (if 0 ≤ (wrap64 ((x0_1.size : Int) - t160)) then (if (wrap64 ((x0_1.size : Int) - t160)) ≤ (x0_1.size : Int) then (if 0 ≤ (wrap64 ((x1_1.size : Int) - x11_7)) then (if (wrap64 ((x1_1.size : Int) - x11_7)) ≤ (x1_1.size : Int) then (match_matchTrimSuffix.l0 kj15 (x0_1.extract 0 ((wrap64 ((x0_1.size : Int) - t160)) : Int).toNat) (x1_1.extract 0 ((wrap64 ((x1_1.size : Int) - x11_7)) : Int).toNat) a2 x9_1) else (none)) else (none)) else (none)) else (none)) else (some (x0_1, x1_1, false)))))) else (if t157 = 63 then (if x12_7 = true then (if t157 = t159 then (if 0 ≤ (wrap64 ((x0_1.size : Int) - t160)) then (if (wrap64 ((x0_1.size : Int) - t160)) ≤ (x0_1.size : Int) then (if 0 ≤ (wrap64 ((x1_1.size : Int) - x11_7)) then (if (wrap64 ((x1_1.size : Int) - x11_7)) ≤ (x1_1.size : Int) then (match_matchTrimSuffix.l0 kj15 (x0_1.extract 0 ((wrap64 ((x0_1.size : Int) - t160)) : Int).toNat) (x1_1.extract 0 ((wrap64 ((x1_1.size : Int) - x11_7)) : Int).toNat) a2 x9_1) else (none)) else (none)) else (none)) else (none)) else (some (x0_1, x1_1, false))) else (if 0 ≤ (wrap64 ((x0_1.size : Int) - t160)) then (if (wrap64 ((x0_1.size : Int) - t160)) ≤ (x0_1.size : Int) then (if 0 ≤ (wrap64 ((x1_1.size : Int) - x11_7)) then (if (wrap64 ((x1_1.size : Int) - x11_7)) ≤ (x1_1.size : Int) then (match_matchTrimSuffix.l0 kj15 (x0_1.extract 0 ((wrap64 ((x0_1.size : Int) - t160)) : Int).toNat) (x1_1.extract 0 ((wrap64 ((x1_1.size : Int) - x11_7)) : Int).toNat) a2 x9_1) else (none)) else (none)) else (none)) else (none))) else (if t157 = t159 then (if 0 ≤ (wrap64 ((x0_1.size : Int) - t160)) then (if (wrap64 ((x0_1.size : Int) - t160)) ≤ (x0_1.size : Int) then (if 0 ≤ (wrap64 ((x1_1.size : Int) - x11_7)) then (if (wrap64 ((x1_1.size : Int) - x11_7)) ≤ (x1_1.size : Int) then (match_matchTrimSuffix.l0 kj15 (x0_1.extract 0 ((wrap64 ((x0_1.size : Int) - t160)) : Int).toNat) (x1_1.extract 0 ((wrap64 ((x1_1.size : Int) - x11_7)) : Int).toNat) a2 x9_1) else (none)) else (none)) else (none)) else (none)) else (some (x0_1, x1_1, false))))) = some (r1, r2, r3) := H
                      have A19 := Aside0.mk A190
                      clear A190
                      by_cases c20 : a2 = true
                      · subst c20
                        have H1 : ((match_tolower.f t157).bind fun t161 => ((match_tolower.f t159).bind fun t162 => (if t161 = 63 then (if x12_7 = true then (if t161 = t162 then (if 0 ≤ (wrap64 ((x0_1.size : Int) - t160)) then (if (wrap64 ((x0_1.size : Int) - t160)) ≤ (x0_1.size : Int) then (if 0 ≤ (wrap64 ((x1_1.size : Int) - x11_7)) then (if (wrap64 ((x1_1.size : Int) - x11_7)) ≤ (x1_1.size : Int) then (match_matchTrimSuffix.l0 kj15 (x0_1.extract 0 ((wrap64 ((x0_1.size : Int) - t160)) : Int).toNat) (x1_1.extract 0 ((wrap64 ((x1_1.size : Int) - x11_7)) : Int).toNat) true x9_1) else (none)) else (none)) else (none)) else (none)) else (some (x0_1, x1_1, false))) else (if 0 ≤ (wrap64 ((x0_1.size : Int) - t160)) then (if (wrap64 ((x0_1.size : Int) - t160)) ≤ (x0_1.size : Int) then (if 0 ≤ (wrap64 ((x1_1.size : Int) - x11_7)) then (if (wrap64 ((x1_1.size : Int) - x11_7)) ≤ (x1_1.size : Int) then (match_matchTrimSuffix.l0 kj15 (x0_1.extract 0 ((wrap64 ((x0_1.size : Int) - t160)) : Int).toNat) (x1_1.extract 0 ((wrap64 ((x1_1.size : Int) - x11_7)) : Int).toNat) true x9_1) else (none)) else (none)) else (none)) else (none))) else (if t161 = t162 then (if 0 ≤ (wrap64 ((x0_1.size : Int) - t160)) then (if (wrap64 ((x0_1.size : Int) - t160)) ≤ (x0_1.size : Int) then (if 0 ≤ (wrap64 ((x1_1.size : Int) - x11_7)) then (if (wrap64 ((x1_1.size : Int) - x11_7)) ≤ (x1_1.size : Int) then (match_matchTrimSuffix.l0 kj15 (x0_1.extract 0 ((wrap64 ((x0_1.size : Int) - t160)) : Int).toNat) (x1_1.extract 0 ((wrap64 ((x1_1.size : Int) - x11_7)) : Int).toNat) true x9_1) else (none)) else (none)) else (none)) else (none)) else (some (x0_1, x1_1, false)))))) = some (r1, r2, r3) := by rw [if_pos rfl] at H; exact H
                        clear H
                        have H := H1
                        clear H1
                        replace H := Option.bind_eq_some_iff.mp H
                        obtain ⟨t161, A210, H⟩ := H
                        replace H : ((match_tolower.f t159).bind fun t162 => (if t161 = 63 then (if x12_7 = true then (if t161 = t162 then (if 0 ≤ (wrap64 ((x0_1.size : Int) - t160)) then (if (wrap64 ((x0_1.size : Int) - t160)) ≤ (x0_1.size : Int) then (if 0 ≤ (wrap64 ((x1_1.size : Int) - x11_7)) then (if (wrap64 ((x1_1.size : Int) - x11_7)) ≤ (x1_1.size : Int) then (match_matchTrimSuffix.l0 kj15 (x0_1.extract 0 ((wrap64 ((x0_1.size : Int) - t160)) : Int).toNat) (x1_1.extract 0 ((wrap64 ((x1_1.size : Int) - x11_7)) : Int).toNat) true x9_1) else (none)) else (none)) else (none)) else (none)) else (some (x0_1, x1_1, false))) else (if 0 ≤ (wrap64 ((x0_1.size : Int) - t160)) then (if (wrap64 ((x0_1.size : Int) - t160)) ≤ (x0_1.size : Int) then (if 0 ≤ (wrap64 ((x1_1.size : Int) - x11_7)) then (if (wrap64 ((x1_1.size : Int) - x11_7)) ≤ (x1_1.size : Int) then (match_matchTrimSuffix.l0 kj15 (x0_1.extract 0 ((wrap64 ((x0_1.size : Int) - t160)) : Int).toNat) (x1_1.extract 0 ((wrap64 ((x1_1.size : Int) - x11_7)) : Int).toNat) true x9_1) else (none)) else (none)) else (none)) else (none))) else (if t161 = t162 then (if 0 ≤ (wrap64 ((x0_1.size : Int) - t160)) then (if (wrap64 ((x0_1.size : Int) - t160)) ≤ (x0_1.size : Int) then (if 0 ≤ (wrap64 ((x1_1.size : Int) - x11_7)) then (if (wrap64 ((x1_1.size : Int) - x11_7)) ≤ (x1_1.size : Int) then (match_matchTrimSuffix.l0 kj15 (x0_1.extract 0 ((wrap64 ((x0_1.size : Int) - t160)) : Int).toNat) (x1_1.extract 0 ((wrap64 ((x1_1.size : Int) - x11_7)) : Int).toNat) true x9_1) else (none)) else (none)) else (none)) else (none)) else (some (x0_1, x1_1, false))))) = some (r1, r2, r3) := H
                        have A21 := Aside0.mk A210
                        clear A210
                        replace H := Option.bind_eq_some_iff.mp H
                        obtain ⟨t162, A220, H⟩ := H
                        replace H : (if t161 = 63 then (if x12_7 = true then (if t161 = t162 then (if 0 ≤ (wrap64 ((x0_1.size : Int) - t160)) then (if (wrap64 ((x0_1.size : Int) - t160)) ≤ (x0_1.size : Int) then (if 0 ≤ (wrap64 ((x1_1.size : Int) - x11_7)) then (if (wrap64 ((x1_1.size : Int) - x11_7)) ≤ (x1_1.size : Int) then (match_matchTrimSuffix.l0 kj15 (x0_1.extract 0 ((wrap64 ((x0_1.size : Int) - t160)) : Int).toNat) (x1_1.extract 0 ((wrap64 ((x1_1.size : Int) - x11_7)) : Int).toNat) true x9_1) else (none)) else (none)) else (none)) else (none)) else (some (x0_1, x1_1, false))) else (if 0 ≤ (wrap64 ((x0_1.size : Int) - t160)) then (if (wrap64 ((x0_1.size : Int) - t160)) ≤ (x0_1.size : Int) then (if 0 ≤ (wrap64 ((x1_1.size : Int) - x11_7)) then (if (wrap64 ((x1_1.size : Int) - x11_7)) ≤ (x1_1.size : Int) then (match_matchTrimSuffix.l0 kj15 (x0_1.extract 0 ((wrap64 ((x0_1.size : Int) - t160)) : Int).toNat) (x1_1.extract 0 ((wrap64 ((x1_1.size : Int) - x11_7)) : Int).toNat) true x9_1) else (none)) else (none)) else (none)) else (none))) else (if t161 = t162 then (if 0 ≤ (wrap64 ((x0_1.size : Int) - t160)) then (if (wrap64 ((x0_1.size : Int) - t160)) ≤ (x0_1.size : Int) then (if 0 ≤ (wrap64 ((x1_1.size : Int) - x11_7)) then (if (wrap64 ((x1_1.size : Int) - x11_7)) ≤ (x1_1.size : Int) then (match_matchTrimSuffix.l0 kj15 (x0_1.extract 0 ((wrap64 ((x0_1.size : Int) - t160)) : Int).toNat) (x1_1.extract 0 ((wrap64 ((x1_1.size : Int) - x11_7)) : Int).toNat) true x9_1) else (none)) else (none)) else (none)) else (none)) else (some (x0_1, x1_1, false)))) = some (r1, r2, r3) := H
                        have A22 := Aside0.mk A220
                        clear A220
                        by_cases c23 : t161 = 63
                        · rw [if_pos c23] at H
                          have c23b0 : (t161 == 63) = true := beq_iff_eq.mpr c23
                          have c23b1 : (t161 != 63) = false := bne_eq_false_iff_eq.mpr c23
                          clear c23
                          by_cases c24 : x12_7 = true
                          · subst c24
                            have H1 : (if t161 = t162 then (if 0 ≤ (wrap64 ((x0_1.size : Int) - t160)) then (if (wrap64 ((x0_1.size : Int) - t160)) ≤ (x0_1.size : Int) then (if 0 ≤ (wrap64 ((x1_1.size : Int) - x11_7)) then (if (wrap64 ((x1_1.size : Int) - x11_7)) ≤ (x1_1.size : Int) then (match_matchTrimSuffix.l0 kj15 (x0_1.extract 0 ((wrap64 ((x0_1.size : Int) - t160)) : Int).toNat) (x1_1.extract 0 ((wrap64 ((x1_1.size : Int) - x11_7)) : Int).toNat) true x9_1) else (none)) else (none)) else (none)) else (none)) else (some (x0_1, x1_1, false))) = some (r1, r2, r3) := by rw [if_pos rfl] at H; exact H
                            clear H
                            have H := H1
                            clear H1
                            by_cases c25 : t161 = t162
                            · rw [if_pos c25] at H
                              have c25b0 : (t161 == t162) = true := beq_iff_eq.mpr c25
                              have c25b1 : (t161 != t162) = false := bne_eq_false_iff_eq.mpr c25
                              clear c25
                              obtain ⟨ji26, hji26⟩ : ∃ j_ : Int, (wrap64 ((x0_1.size : Int) - t160)) = j_ := ⟨_, rfl⟩
                              replace H : (if 0 ≤ (ji26) then (if (ji26) ≤ (x0_1.size : Int) then (if 0 ≤ (wrap64 ((x1_1.size : Int) - x11_7)) then (if (wrap64 ((x1_1.size : Int) - x11_7)) ≤ (x1_1.size : Int) then (match_matchTrimSuffix.l0 kj15 (x0_1.extract 0 ((ji26) : Int).toNat) (x1_1.extract 0 ((wrap64 ((x1_1.size : Int) - x11_7)) : Int).toNat) true x9_1) else (none)) else (none)) else (none)) else (none)) = some (r1, r2, r3) := by first | (rw [hji26] at H; exact H) | (simp only [hji26] at H ⊢; exact H)
                              (try rw [hji26] at A19)
                              (try rw [hji26] at A21)
                              (try rw [hji26] at A22)
                              have hji26w : (IntKind.i64.wrap ((x0_1.size : Int) - t160)) = ji26 := (i64_w _).trans hji26
                              by_cases c27 : 0 ≤ (ji26)
                              · rw [if_pos c27] at H
                                have c27b0 := eq_true c27
                                have c27b1 : decide (0 ≤ (ji26)) = true := decide_eq_true c27
                                clear c27
                                by_cases c28 : (ji26) ≤ (x0_1.size : Int)
                                · rw [if_pos c28] at H
                                  have c28b0 := eq_true c28
                                  have c28b1 : decide ((ji26) ≤ (x0_1.size : Int)) = true := decide_eq_true c28
                                  clear c28
                                  obtain ⟨ji29, hji29⟩ : ∃ j_ : Int, (wrap64 ((x1_1.size : Int) - x11_7)) = j_ := ⟨_, rfl⟩
                                  replace H : (if 0 ≤ (ji29) then (if (ji29) ≤ (x1_1.size : Int) then (match_matchTrimSuffix.l0 kj15 (x0_1.extract 0 ((ji26) : Int).toNat) (x1_1.extract 0 ((ji29) : Int).toNat) true x9_1) else (none)) else (none)) = some (r1, r2, r3) := by first | (rw [hji29] at H; exact H) | (simp only [hji29] at H ⊢; exact H)
                                  (try rw [hji29] at A19)
                                  (try rw [hji29] at A21)
                                  (try rw [hji29] at A22)
                                  have hji29w : (IntKind.i64.wrap ((x1_1.size : Int) - x11_7)) = ji29 := (i64_w _).trans hji29
                                  by_cases c30 : 0 ≤ (ji29)
                                  · rw [if_pos c30] at H
                                    have c30b0 := eq_true c30
                                    have c30b1 : decide (0 ≤ (ji29)) = true := decide_eq_true c30
                                    clear c30
                                    by_cases c31 : (ji29) ≤ (x1_1.size : Int)
                                    · rw [if_pos c31] at H
                                      have c31b0 := eq_true c31
                                      have c31b1 : decide ((ji29) ≤ (x1_1.size : Int)) = true := decide_eq_true c31
                                      clear c31
                                      have H' := Aside0.mk H
                                      clear H
                                      go_wp2_with (first | ((with_reducible refine gate_callee (f := 75) rfl ?_); refine goesL_ (some 54) rfl rfl Tryd.func75 (by kernel_rfl) rfl #[.string x0_1] rfl (by (try simp only [List.map_toArray, List.map_cons, List.map_nil]); first | done | rfl | (simp only [List.length_drop, List.length_take]; rfl)) ?_; (with_reducible refine (utf8_DecodeLastRuneInString.calls x0_1 t159 t160 _ ?side1 A19.out).mono ?_); (case side1 => exact Laid.below HLD.out (by repeat (first | (with_reducible first | exact HB.out | apply below_alloc | apply pw_below_drewN | apply below_drew1) | exact HB.out))); rintro e w32 ⟨rfl, hb⟩; refine ⟨_, rfl, ?_⟩; have n0_ := Aside0.mk (below_step (by repeat (first | (with_reducible first | exact HB.out | apply below_alloc | apply pw_below_drewN | apply below_drew1) | exact HB.out)) hb); clear HB; have HB := n0_; clear n0_; (try clear hb); (try clear hb2); (try clear hk); (try clear hi)) | ((with_reducible refine gate_callee (f := 76) rfl ?_); refine goesL_ (some 59) rfl rfl Tryd.func76 (by kernel_rfl) rfl #[.int .i32 t157] rfl (by (try simp only [List.map_toArray, List.map_cons, List.map_nil]); first | done | rfl | (simp only [List.length_drop, List.length_take]; rfl)) ?_; (with_reducible refine (match_tolower.calls t157 t161 _ A21.out).mono ?_); rintro e w' ⟨rfl, ⟨nd, rfl⟩⟩; refine ⟨_, rfl, ?_⟩) | ((with_reducible refine gate_callee (f := 76) rfl ?_); refine goesL_ (some 61) rfl rfl Tryd.func76 (by kernel_rfl) rfl #[.int .i32 t159] rfl (by (try simp only [List.map_toArray, List.map_cons, List.map_nil]); first | done | rfl | (simp only [List.length_drop, List.length_take]; rfl)) ?_; (with_reducible refine (match_tolower.calls t159 t162 _ A22.out).mono ?_); rintro e w' ⟨rfl, ⟨nd, rfl⟩⟩; refine ⟨_, rfl, ?_⟩))
                                      go_roundg kj15
                                      case measure => have := HK1.out; have := HJ3.out; have := HJ7.out; have := HJ15.out; omega
                                      case rel => exact ⟨(x0_1.extract 0 ((ji26) : Int).toNat), (x1_1.extract 0 ((ji29) : Int).toNat), (x9_1), (by first | rfl | (simp; done) | (simp only [← hji26] <;> (first | rfl | (simp; done))) | (simp [*]; done) | (simp only [*]; done)), (by first | rfl | (simp; done) | (simp only [← hji29] <;> (first | rfl | (simp; done))) | (simp [*]; done) | (simp only [*]; done)), (by first | rfl | (simp; done) | (simp [*]; done)), H', ⟨by have := HK1.out; have := HJ3.out; have := HJ7.out; have := HJ15.out; omega⟩, ⟨by repeat (first | (with_reducible first | exact HB.out | apply below_alloc | apply pw_below_drewN | apply below_drew1) | exact HB.out)⟩⟩
                                    · rw [if_neg c31] at H
                                      exact absurd H (by simp)
                                  · rw [if_neg c30] at H
                                    exact absurd H (by simp)
                                · rw [if_neg c28] at H
                                  exact absurd H (by simp)
                              · rw [if_neg c27] at H
                                exact absurd H (by simp)
                            · rw [if_neg c25] at H
                              have c25b0 : (t161 == t162) = false := beq_eq_false_iff_ne.mpr c25
                              have c25b1 : (t161 != t162) = true := bne_iff_ne.mpr c25
                              simp only [Option.some.injEq, Prod.mk.injEq] at H
                              obtain ⟨rfl, rfl, rfl⟩ := H
                              go_wp2_with (first | ((with_reducible refine gate_callee (f := 75) rfl ?_); refine goesL_ (some 54) rfl rfl Tryd.func75 (by kernel_rfl) rfl #[.string x0_1] rfl (by (try simp only [List.map_toArray, List.map_cons, List.map_nil]); first | done | rfl | (simp only [List.length_drop, List.length_take]; rfl)) ?_; (with_reducible refine (utf8_DecodeLastRuneInString.calls x0_1 t159 t160 _ ?side1 A19.out).mono ?_); (case side1 => exact Laid.below HLD.out (by repeat (first | (with_reducible first | exact HB.out | apply below_alloc | apply pw_below_drewN | apply below_drew1) | exact HB.out))); rintro e w33 ⟨rfl, hb⟩; refine ⟨_, rfl, ?_⟩; have n0_ := Aside0.mk (below_step (by repeat (first | (with_reducible first | exact HB.out | apply below_alloc | apply pw_below_drewN | apply below_drew1) | exact HB.out)) hb); clear HB; have HB := n0_; clear n0_; (try clear hb); (try clear hb2); (try clear hk); (try clear hi)) | ((with_reducible refine gate_callee (f := 76) rfl ?_); refine goesL_ (some 59) rfl rfl Tryd.func76 (by kernel_rfl) rfl #[.int .i32 t157] rfl (by (try simp only [List.map_toArray, List.map_cons, List.map_nil]); first | done | rfl | (simp only [List.length_drop, List.length_take]; rfl)) ?_; (with_reducible refine (match_tolower.calls t157 t161 _ A21.out).mono ?_); rintro e w' ⟨rfl, ⟨nd, rfl⟩⟩; refine ⟨_, rfl, ?_⟩) | ((with_reducible refine gate_callee (f := 76) rfl ?_); refine goesL_ (some 61) rfl rfl Tryd.func76 (by kernel_rfl) rfl #[.int .i32 t159] rfl (by (try simp only [List.map_toArray, List.map_cons, List.map_nil]); first | done | rfl | (simp only [List.length_drop, List.length_take]; rfl)) ?_; (with_reducible refine (match_tolower.calls t159 t162 _ A22.out).mono ?_); rintro e w' ⟨rfl, ⟨nd, rfl⟩⟩; refine ⟨_, rfl, ?_⟩))
                              go_ret3
                              exact ⟨by first | rfl | (simp [errW_none, errW_some] <;> rfl) | (simp [*, errW_none, errW_some] <;> rfl), by repeat (first | (with_reducible first | exact HB.out | apply below_alloc | apply pw_below_drewN | apply below_drew1) | exact HB.out)⟩
                          · replace c24 := Bool.eq_false_iff.mpr c24
                            subst c24
                            have H1 : (if 0 ≤ (wrap64 ((x0_1.size : Int) - t160)) then (if (wrap64 ((x0_1.size : Int) - t160)) ≤ (x0_1.size : Int) then (if 0 ≤ (wrap64 ((x1_1.size : Int) - x11_7)) then (if (wrap64 ((x1_1.size : Int) - x11_7)) ≤ (x1_1.size : Int) then (match_matchTrimSuffix.l0 kj15 (x0_1.extract 0 ((wrap64 ((x0_1.size : Int) - t160)) : Int).toNat) (x1_1.extract 0 ((wrap64 ((x1_1.size : Int) - x11_7)) : Int).toNat) true x9_1) else (none)) else (none)) else (none)) else (none)) = some (r1, r2, r3) := by rw [if_neg (show ¬ (false = true) by decide)] at H; exact H
                            clear H
                            have H := H1
                            clear H1
                            obtain ⟨ji34, hji34⟩ : ∃ j_ : Int, (wrap64 ((x0_1.size : Int) - t160)) = j_ := ⟨_, rfl⟩
                            replace H : (if 0 ≤ (ji34) then (if (ji34) ≤ (x0_1.size : Int) then (if 0 ≤ (wrap64 ((x1_1.size : Int) - x11_7)) then (if (wrap64 ((x1_1.size : Int) - x11_7)) ≤ (x1_1.size : Int) then (match_matchTrimSuffix.l0 kj15 (x0_1.extract 0 ((ji34) : Int).toNat) (x1_1.extract 0 ((wrap64 ((x1_1.size : Int) - x11_7)) : Int).toNat) true x9_1) else (none)) else (none)) else (none)) else (none)) = some (r1, r2, r3) := by first | (rw [hji34] at H; exact H) | (simp only [hji34] at H ⊢; exact H)
                            (try rw [hji34] at A19)
                            (try rw [hji34] at A21)
                            (try rw [hji34] at A22)
                            have hji34w : (IntKind.i64.wrap ((x0_1.size : Int) - t160)) = ji34 := (i64_w _).trans hji34
                            by_cases c35 : 0 ≤ (ji34)
                            · rw [if_pos c35] at H
                              have c35b0 := eq_true c35
                              have c35b1 : decide (0 ≤ (ji34)) = true := decide_eq_true c35
                              clear c35
                              by_cases c36 : (ji34) ≤ (x0_1.size : Int)
                              · rw [if_pos c36] at H
                                have c36b0 := eq_true c36
                                have c36b1 : decide ((ji34) ≤ (x0_1.size : Int)) = true := decide_eq_true c36
                                clear c36
                                obtain ⟨ji37, hji37⟩ : ∃ j_ : Int, (wrap64 ((x1_1.size : Int) - x11_7)) = j_ := ⟨_, rfl⟩
                                replace H : (if 0 ≤ (ji37) then (if (ji37) ≤ (x1_1.size : Int) then (match_matchTrimSuffix.l0 kj15 (x0_1.extract 0 ((ji34) : Int).toNat) (x1_1.extract 0 ((ji37) : Int).toNat) true x9_1) else (none)) else (none)) = some (r1, r2, r3) := by first | (rw [hji37] at H; exact H) | (simp only [hji37] at H ⊢; exact H)
                                (try rw [hji37] at A19)
                                (try rw [hji37] at A21)
                                (try rw [hji37] at A22)
                                have hji37w : (IntKind.i64.wrap ((x1_1.size : Int) - x11_7)) = ji37 := (i64_w _).trans hji37
                                by_cases c38 : 0 ≤ (ji37)
                                · rw [if_pos c38] at H
                                  have c38b0 := eq_true c38
                                  have c38b1 : decide (0 ≤ (ji37)) = true := decide_eq_true c38
                                  clear c38
                                  by_cases c39 : (ji37) ≤ (x1_1.size : Int)
                                  · rw [if_pos c39] at H
                                    have c39b0 := eq_true c39
                                    have c39b1 : decide ((ji37) ≤ (x1_1.size : Int)) = true := decide_eq_true c39
                                    clear c39
                                    have H' := Aside0.mk H
                                    clear H
                                    go_wp2_with (first | ((with_reducible refine gate_callee (f := 75) rfl ?_); refine goesL_ (some 54) rfl rfl Tryd.func75 (by kernel_rfl) rfl #[.string x0_1] rfl (by (try simp only [List.map_toArray, List.map_cons, List.map_nil]); first | done | rfl | (simp only [List.length_drop, List.length_take]; rfl)) ?_; (with_reducible refine (utf8_DecodeLastRuneInString.calls x0_1 t159 t160 _ ?side1 A19.out).mono ?_); (case side1 => exact Laid.below HLD.out (by repeat (first | (with_reducible first | exact HB.out | apply below_alloc | apply pw_below_drewN | apply below_drew1) | exact HB.out))); rintro e w40 ⟨rfl, hb⟩; refine ⟨_, rfl, ?_⟩; have n0_ := Aside0.mk (below_step (by repeat (first | (with_reducible first | exact HB.out | apply below_alloc | apply pw_below_drewN | apply below_drew1) | exact HB.out)) hb); clear HB; have HB := n0_; clear n0_; (try clear hb); (try clear hb2); (try clear hk); (try clear hi)) | ((with_reducible refine gate_callee (f := 76) rfl ?_); refine goesL_ (some 59) rfl rfl Tryd.func76 (by kernel_rfl) rfl #[.int .i32 t157] rfl (by (try simp only [List.map_toArray, List.map_cons, List.map_nil]); first | done | rfl | (simp only [List.length_drop, List.length_take]; rfl)) ?_; (with_reducible refine (match_tolower.calls t157 t161 _ A21.out).mono ?_); rintro e w' ⟨rfl, ⟨nd, rfl⟩⟩; refine ⟨_, rfl, ?_⟩) | ((with_reducible refine gate_callee (f := 76) rfl ?_); refine goesL_ (some 61) rfl rfl Tryd.func76 (by kernel_rfl) rfl #[.int .i32 t159] rfl (by (try simp only [List.map_toArray, List.map_cons, List.map_nil]); first | done | rfl | (simp only [List.length_drop, List.length_take]; rfl)) ?_; (with_reducible refine (match_tolower.calls t159 t162 _ A22.out).mono ?_); rintro e w' ⟨rfl, ⟨nd, rfl⟩⟩; refine ⟨_, rfl, ?_⟩))
                                    go_roundg kj15
                                    case measure => have := HK1.out; have := HJ3.out; have := HJ7.out; have := HJ15.out; omega
                                    case rel => exact ⟨(x0_1.extract 0 ((ji34) : Int).toNat), (x1_1.extract 0 ((ji37) : Int).toNat), (x9_1), (by first | rfl | (simp; done) | (simp only [← hji34] <;> (first | rfl | (simp; done))) | (simp [*]; done) | (simp only [*]; done)), (by first | rfl | (simp; done) | (simp only [← hji37] <;> (first | rfl | (simp; done))) | (simp [*]; done) | (simp only [*]; done)), (by first | rfl | (simp; done) | (simp [*]; done)), H', ⟨by have := HK1.out; have := HJ3.out; have := HJ7.out; have := HJ15.out; omega⟩, ⟨by repeat (first | (with_reducible first | exact HB.out | apply below_alloc | apply pw_below_drewN | apply below_drew1) | exact HB.out)⟩⟩
                                  · rw [if_neg c39] at H
                                    exact absurd H (by simp)
                                · rw [if_neg c38] at H
                                  exact absurd H (by simp)
                              · rw [if_neg c36] at H
                                exact absurd H (by simp)
                            · rw [if_neg c35] at H
                              exact absurd H (by simp)
                        · rw [if_neg c23] at H
                          have c23b0 : (t161 == 63) = false := beq_eq_false_iff_ne.mpr c23
                          have c23b1 : (t161 != 63) = true := bne_iff_ne.mpr c23
                          by_cases c41 : t161 = t162
                          · rw [if_pos c41] at H
                            have c41b0 : (t161 == t162) = true := beq_iff_eq.mpr c41
                            have c41b1 : (t161 != t162) = false := bne_eq_false_iff_eq.mpr c41
                            clear c41
                            obtain ⟨ji42, hji42⟩ : ∃ j_ : Int, (wrap64 ((x0_1.size : Int) - t160)) = j_ := ⟨_, rfl⟩
                            replace H : (if 0 ≤ (ji42) then (if (ji42) ≤ (x0_1.size : Int) then (if 0 ≤ (wrap64 ((x1_1.size : Int) - x11_7)) then (if (wrap64 ((x1_1.size : Int) - x11_7)) ≤ (x1_1.size : Int) then (match_matchTrimSuffix.l0 kj15 (x0_1.extract 0 ((ji42) : Int).toNat) (x1_1.extract 0 ((wrap64 ((x1_1.size : Int) - x11_7)) : Int).toNat) true x9_1) else (none)) else (none)) else (none)) else (none)) = some (r1, r2, r3) := by first | (rw [hji42] at H; exact H) | (simp only [hji42] at H ⊢; exact H)
                            (try rw [hji42] at A19)
                            (try rw [hji42] at A21)
                            (try rw [hji42] at A22)
                            have hji42w : (IntKind.i64.wrap ((x0_1.size : Int) - t160)) = ji42 := (i64_w _).trans hji42
                            by_cases c43 : 0 ≤ (ji42)
                            · rw [if_pos c43] at H
                              have c43b0 := eq_true c43
                              have c43b1 : decide (0 ≤ (ji42)) = true := decide_eq_true c43
                              clear c43
                              by_cases c44 : (ji42) ≤ (x0_1.size : Int)
                              · rw [if_pos c44] at H
                                have c44b0 := eq_true c44
                                have c44b1 : decide ((ji42) ≤ (x0_1.size : Int)) = true := decide_eq_true c44
                                clear c44
                                obtain ⟨ji45, hji45⟩ : ∃ j_ : Int, (wrap64 ((x1_1.size : Int) - x11_7)) = j_ := ⟨_, rfl⟩
                                replace H : (if 0 ≤ (ji45) then (if (ji45) ≤ (x1_1.size : Int) then (match_matchTrimSuffix.l0 kj15 (x0_1.extract 0 ((ji42) : Int).toNat) (x1_1.extract 0 ((ji45) : Int).toNat) true x9_1) else (none)) else (none)) = some (r1, r2, r3) := by first | (rw [hji45] at H; exact H) | (simp only [hji45] at H ⊢; exact H)
                                (try rw [hji45] at A19)
                                (try rw [hji45] at A21)
                                (try rw [hji45] at A22)
                                have hji45w : (IntKind.i64.wrap ((x1_1.size : Int) - x11_7)) = ji45 := (i64_w _).trans hji45
                                by_cases c46 : 0 ≤ (ji45)
                                · rw [if_pos c46] at H
                                  have c46b0 := eq_true c46
                                  have c46b1 : decide (0 ≤ (ji45)) = true := decide_eq_true c46
                                  clear c46
                                  by_cases c47 : (ji45) ≤ (x1_1.size : Int)
                                  · rw [if_pos c47] at H
                                    have c47b0 := eq_true c47
                                    have c47b1 : decide ((ji45) ≤ (x1_1.size : Int)) = true := decide_eq_true c47
                                    clear c47
                                    have H' := Aside0.mk H
                                    clear H
                                    go_wp2_with (first | ((with_reducible refine gate_callee (f := 75) rfl ?_); refine goesL_ (some 54) rfl rfl Tryd.func75 (by kernel_rfl) rfl #[.string x0_1] rfl (by (try simp only [List.map_toArray, List.map_cons, List.map_nil]); first | done | rfl | (simp only [List.length_drop, List.length_take]; rfl)) ?_; (with_reducible refine (utf8_DecodeLastRuneInString.calls x0_1 t159 t160 _ ?side1 A19.out).mono ?_); (case side1 => exact Laid.below HLD.out (by repeat (first | (with_reducible first | exact HB.out | apply below_alloc | apply pw_below_drewN | apply below_drew1) | exact HB.out))); rintro e w48 ⟨rfl, hb⟩; refine ⟨_, rfl, ?_⟩; have n0_ := Aside0.mk (below_step (by repeat (first | (with_reducible first | exact HB.out | apply below_alloc | apply pw_below_drewN | apply below_drew1) | exact HB.out)) hb); clear HB; have HB := n0_; clear n0_; (try clear hb); (try clear hb2); (try clear hk); (try clear hi)) | ((with_reducible refine gate_callee (f := 76) rfl ?_); refine goesL_ (some 59) rfl rfl Tryd.func76 (by kernel_rfl) rfl #[.int .i32 t157] rfl (by (try simp only [List.map_toArray, List.map_cons, List.map_nil]); first | done | rfl | (simp only [List.length_drop, List.length_take]; rfl)) ?_; (with_reducible refine (match_tolower.calls t157 t161 _ A21.out).mono ?_); rintro e w' ⟨rfl, ⟨nd, rfl⟩⟩; refine ⟨_, rfl, ?_⟩) | ((with_reducible refine gate_callee (f := 76) rfl ?_); refine goesL_ (some 61) rfl rfl Tryd.func76 (by kernel_rfl) rfl #[.int .i32 t159] rfl (by (try simp only [List.map_toArray, List.map_cons, List.map_nil]); first | done | rfl | (simp only [List.length_drop, List.length_take]; rfl)) ?_; (with_reducible refine (match_tolower.calls t159 t162 _ A22.out).mono ?_); rintro e w' ⟨rfl, ⟨nd, rfl⟩⟩; refine ⟨_, rfl, ?_⟩))
                                    go_roundg kj15
                                    case measure => have := HK1.out; have := HJ3.out; have := HJ7.out; have := HJ15.out; omega
                                    case rel => exact ⟨(x0_1.extract 0 ((ji42) : Int).toNat), (x1_1.extract 0 ((ji45) : Int).toNat), (x9_1), (by first | rfl | (simp; done) | (simp only [← hji42] <;> (first | rfl | (simp; done))) | (simp [*]; done) | (simp only [*]; done)), (by first | rfl | (simp; done) | (simp only [← hji45] <;> (first | rfl | (simp; done))) | (simp [*]; done) | (simp only [*]; done)), (by first | rfl | (simp; done) | (simp [*]; done)), H', ⟨by have := HK1.out; have := HJ3.out; have := HJ7.out; have := HJ15.out; omega⟩, ⟨by repeat (first | (with_reducible first | exact HB.out | apply below_alloc | apply pw_below_drewN | apply below_drew1) | exact HB.out)⟩⟩
                                  · rw [if_neg c47] at H
                                    exact absurd H (by simp)
                                · rw [if_neg c46] at H
                                  exact absurd H (by simp)
                              · rw [if_neg c44] at H
                                exact absurd H (by simp)
                            · rw [if_neg c43] at H
                              exact absurd H (by simp)
                          · rw [if_neg c41] at H
                            have c41b0 : (t161 == t162) = false := beq_eq_false_iff_ne.mpr c41
                            have c41b1 : (t161 != t162) = true := bne_iff_ne.mpr c41
                            simp only [Option.some.injEq, Prod.mk.injEq] at H
                            obtain ⟨rfl, rfl, rfl⟩ := H
                            go_wp2_with (first | ((with_reducible refine gate_callee (f := 75) rfl ?_); refine goesL_ (some 54) rfl rfl Tryd.func75 (by kernel_rfl) rfl #[.string x0_1] rfl (by (try simp only [List.map_toArray, List.map_cons, List.map_nil]); first | done | rfl | (simp only [List.length_drop, List.length_take]; rfl)) ?_; (with_reducible refine (utf8_DecodeLastRuneInString.calls x0_1 t159 t160 _ ?side1 A19.out).mono ?_); (case side1 => exact Laid.below HLD.out (by repeat (first | (with_reducible first | exact HB.out | apply below_alloc | apply pw_below_drewN | apply below_drew1) | exact HB.out))); rintro e w49 ⟨rfl, hb⟩; refine ⟨_, rfl, ?_⟩; have n0_ := Aside0.mk (below_step (by repeat (first | (with_reducible first | exact HB.out | apply below_alloc | apply pw_below_drewN | apply below_drew1) | exact HB.out)) hb); clear HB; have HB := n0_; clear n0_; (try clear hb); (try clear hb2); (try clear hk); (try clear hi)) | ((with_reducible refine gate_callee (f := 76) rfl ?_); refine goesL_ (some 59) rfl rfl Tryd.func76 (by kernel_rfl) rfl #[.int .i32 t157] rfl (by (try simp only [List.map_toArray, List.map_cons, List.map_nil]); first | done | rfl | (simp only [List.length_drop, List.length_take]; rfl)) ?_; (with_reducible refine (match_tolower.calls t157 t161 _ A21.out).mono ?_); rintro e w' ⟨rfl, ⟨nd, rfl⟩⟩; refine ⟨_, rfl, ?_⟩) | ((with_reducible refine gate_callee (f := 76) rfl ?_); refine goesL_ (some 61) rfl rfl Tryd.func76 (by kernel_rfl) rfl #[.int .i32 t159] rfl (by (try simp only [List.map_toArray, List.map_cons, List.map_nil]); first | done | rfl | (simp only [List.length_drop, List.length_take]; rfl)) ?_; (with_reducible refine (match_tolower.calls t159 t162 _ A22.out).mono ?_); rintro e w' ⟨rfl, ⟨nd, rfl⟩⟩; refine ⟨_, rfl, ?_⟩))
                            go_ret3
                            exact ⟨by first | rfl | (simp [errW_none, errW_some] <;> rfl) | (simp [*, errW_none, errW_some] <;> rfl), by repeat (first | (with_reducible first | exact HB.out | apply below_alloc | apply pw_below_drewN | apply below_drew1) | exact HB.out)⟩
                      · replace c20 := Bool.eq_false_iff.mpr c20
                        subst c20
                        have H1 : (if t157 = 63 then (if x12_7 = true then (if t157 = t159 then (if 0 ≤ (wrap64 ((x0_1.size : Int) - t160)) then (if (wrap64 ((x0_1.size : Int) - t160)) ≤ (x0_1.size : Int) then (if 0 ≤ (wrap64 ((x1_1.size : Int) - x11_7)) then (if (wrap64 ((x1_1.size : Int) - x11_7)) ≤ (x1_1.size : Int) then (match_matchTrimSuffix.l0 kj15 (x0_1.extract 0 ((wrap64 ((x0_1.size : Int) - t160)) : Int).toNat) (x1_1.extract 0 ((wrap64 ((x1_1.size : Int) - x11_7)) : Int).toNat) false x9_1) else (none)) else (none)) else (none)) else (none)) else (some (x0_1, x1_1, false))) else (if 0 ≤ (wrap64 ((x0_1.size : Int) - t160)) then (if (wrap64 ((x0_1.size : Int) - t160)) ≤ (x0_1.size : Int) then (if 0 ≤ (wrap64 ((x1_1.size : Int) - x11_7)) then (if (wrap64 ((x1_1.size : Int) - x11_7)) ≤ (x1_1.size : Int) then (match_matchTrimSuffix.l0 kj15 (x0_1.extract 0 ((wrap64 ((x0_1.size : Int) - t160)) : Int).toNat) (x1_1.extract 0 ((wrap64 ((x1_1.size : Int) - x11_7)) : Int).toNat) false x9_1) else (none)) else (none)) else (none)) else (none))) else (if t157 = t159 then (if 0 ≤ (wrap64 ((x0_1.size : Int) - t160)) then (if (wrap64 ((x0_1.size : Int) - t160)) ≤ (x0_1.size : Int) then (if 0 ≤ (wrap64 ((x1_1.size : Int) - x11_7)) then (if (wrap64 ((x1_1.size : Int) - x11_7)) ≤ (x1_1.size : Int) then (match_matchTrimSuffix.l0 kj15 (x0_1.extract 0 ((wrap64 ((x0_1.size : Int) - t160)) : Int).toNat) (x1_1.extract 0 ((wrap64 ((x1_1.size : Int) - x11_7)) : Int).toNat) false x9_1) else (none)) else (none)) else (none)) else (none)) else (some (x0_1, x1_1, false)))) = some (r1, r2, r3) := by rw [if_neg (show ¬ (false = true) by decide)] at H; exact H
                        clear H
                        have H := H1
                        clear H1
                        by_cases c50 : t157 = 63
                        · rw [if_pos c50] at H
                          have c50b0 : (t157 == 63) = true := beq_iff_eq.mpr c50
                          have c50b1 : (t157 != 63) = false := bne_eq_false_iff_eq.mpr c50
                          clear c50
                          by_cases c51 : x12_7 = true
                          · subst c51
                            have H1 : (if t157 = t159 then (if 0 ≤ (wrap64 ((x0_1.size : Int) - t160)) then (if (wrap64 ((x0_1.size : Int) - t160)) ≤ (x0_1.size : Int) then (if 0 ≤ (wrap64 ((x1_1.size : Int) - x11_7)) then (if (wrap64 ((x1_1.size : Int) - x11_7)) ≤ (x1_1.size : Int) then (match_matchTrimSuffix.l0 kj15 (x0_1.extract 0 ((wrap64 ((x0_1.size : Int) - t160)) : Int).toNat) (x1_1.extract 0 ((wrap64 ((x1_1.size : Int) - x11_7)) : Int).toNat) false x9_1) else (none)) else (none)) else (none)) else (none)) else (some (x0_1, x1_1, false))) = some (r1, r2, r3) := by rw [if_pos rfl] at H; exact H
                            clear H
                            have H := H1
                            clear H1
                            by_cases c52 : t157 = t159
                            · rw [if_pos c52] at H
                              have c52b0 : (t157 == t159) = true := beq_iff_eq.mpr c52
                              have c52b1 : (t157 != t159) = false := bne_eq_false_iff_eq.mpr c52
                              clear c52
                              obtain ⟨ji53, hji53⟩ : ∃ j_ : Int, (wrap64 ((x0_1.size : Int) - t160)) = j_ := ⟨_, rfl⟩
                              replace H : (if 0 ≤ (ji53) then (if (ji53) ≤ (x0_1.size : Int) then (if 0 ≤ (wrap64 ((x1_1.size : Int) - x11_7)) then (if (wrap64 ((x1_1.size : Int) - x11_7)) ≤ (x1_1.size : Int) then (match_matchTrimSuffix.l0 kj15 (x0_1.extract 0 ((ji53) : Int).toNat) (x1_1.extract 0 ((wrap64 ((x1_1.size : Int) - x11_7)) : Int).toNat) false x9_1) else (none)) else (none)) else (none)) else (none)) = some (r1, r2, r3) := by first | (rw [hji53] at H; exact H) | (simp only [hji53] at H ⊢; exact H)
                              (try rw [hji53] at A19)
                              have hji53w : (IntKind.i64.wrap ((x0_1.size : Int) - t160)) = ji53 := (i64_w _).trans hji53
                              by_cases c54 : 0 ≤ (ji53)
                              · rw [if_pos c54] at H
                                have c54b0 := eq_true c54
                                have c54b1 : decide (0 ≤ (ji53)) = true := decide_eq_true c54
                                clear c54
                                by_cases c55 : (ji53) ≤ (x0_1.size : Int)
                                · rw [if_pos c55] at H
                                  have c55b0 := eq_true c55
                                  have c55b1 : decide ((ji53) ≤ (x0_1.size : Int)) = true := decide_eq_true c55
                                  clear c55
                                  obtain ⟨ji56, hji56⟩ : ∃ j_ : Int, (wrap64 ((x1_1.size : Int) - x11_7)) = j_ := ⟨_, rfl⟩
                                  replace H : (if 0 ≤ (ji56) then (if (ji56) ≤ (x1_1.size : Int) then (match_matchTrimSuffix.l0 kj15 (x0_1.extract 0 ((ji53) : Int).toNat) (x1_1.extract 0 ((ji56) : Int).toNat) false x9_1) else (none)) else (none)) = some (r1, r2, r3) := by first | (rw [hji56] at H; exact H) | (simp only [hji56] at H ⊢; exact H)
                                  (try rw [hji56] at A19)
                                  have hji56w : (IntKind.i64.wrap ((x1_1.size : Int) - x11_7)) = ji56 := (i64_w _).trans hji56
                                  by_cases c57 : 0 ≤ (ji56)
                                  · rw [if_pos c57] at H
                                    have c57b0 := eq_true c57
                                    have c57b1 : decide (0 ≤ (ji56)) = true := decide_eq_true c57
                                    clear c57
                                    by_cases c58 : (ji56) ≤ (x1_1.size : Int)
                                    · rw [if_pos c58] at H
                                      have c58b0 := eq_true c58
                                      have c58b1 : decide ((ji56) ≤ (x1_1.size : Int)) = true := decide_eq_true c58
                                      clear c58
                                      have H' := Aside0.mk H
                                      clear H
                                      go_wp2_with (first | ((with_reducible refine gate_callee (f := 75) rfl ?_); refine goesL_ (some 54) rfl rfl Tryd.func75 (by kernel_rfl) rfl #[.string x0_1] rfl (by (try simp only [List.map_toArray, List.map_cons, List.map_nil]); first | done | rfl | (simp only [List.length_drop, List.length_take]; rfl)) ?_; (with_reducible refine (utf8_DecodeLastRuneInString.calls x0_1 t159 t160 _ ?side1 A19.out).mono ?_); (case side1 => exact Laid.below HLD.out (by repeat (first | (with_reducible first | exact HB.out | apply below_alloc | apply pw_below_drewN | apply below_drew1) | exact HB.out))); rintro e w59 ⟨rfl, hb⟩; refine ⟨_, rfl, ?_⟩; have n0_ := Aside0.mk (below_step (by repeat (first | (with_reducible first | exact HB.out | apply below_alloc | apply pw_below_drewN | apply below_drew1) | exact HB.out)) hb); clear HB; have HB := n0_; clear n0_; (try clear hb); (try clear hb2); (try clear hk); (try clear hi)))
                                      go_roundg kj15
                                      case measure => have := HK1.out; have := HJ3.out; have := HJ7.out; have := HJ15.out; omega
                                      case rel => exact ⟨(x0_1.extract 0 ((ji53) : Int).toNat), (x1_1.extract 0 ((ji56) : Int).toNat), (x9_1), (by first | rfl | (simp; done) | (simp only [← hji53] <;> (first | rfl | (simp; done))) | (simp [*]; done) | (simp only [*]; done)), (by first | rfl | (simp; done) | (simp only [← hji56] <;> (first | rfl | (simp; done))) | (simp [*]; done) | (simp only [*]; done)), (by first | rfl | (simp; done) | (simp [*]; done)), H', ⟨by have := HK1.out; have := HJ3.out; have := HJ7.out; have := HJ15.out; omega⟩, ⟨by repeat (first | (with_reducible first | exact HB.out | apply below_alloc | apply pw_below_drewN | apply below_drew1) | exact HB.out)⟩⟩
                                    · rw [if_neg c58] at H
                                      exact absurd H (by simp)
                                  · rw [if_neg c57] at H
                                    exact absurd H (by simp)
                                · rw [if_neg c55] at H
                                  exact absurd H (by simp)
                              · rw [if_neg c54] at H
                                exact absurd H (by simp)
                            · rw [if_neg c52] at H
                              have c52b0 : (t157 == t159) = false := beq_eq_false_iff_ne.mpr c52
                              have c52b1 : (t157 != t159) = true := bne_iff_ne.mpr c52
                              simp only [Option.some.injEq, Prod.mk.injEq] at H
                              obtain ⟨rfl, rfl, rfl⟩ := H
                              go_wp2_with (first | ((with_reducible refine gate_callee (f := 75) rfl ?_); refine goesL_ (some 54) rfl rfl Tryd.func75 (by kernel_rfl) rfl #[.string x0_1] rfl (by (try simp only [List.map_toArray, List.map_cons, List.map_nil]); first | done | rfl | (simp only [List.length_drop, List.length_take]; rfl)) ?_; (with_reducible refine (utf8_DecodeLastRuneInString.calls x0_1 t159 t160 _ ?side1 A19.out).mono ?_); (case side1 => exact Laid.below HLD.out (by repeat (first | (with_reducible first | exact HB.out | apply below_alloc | apply pw_below_drewN | apply below_drew1) | exact HB.out))); rintro e w60 ⟨rfl, hb⟩; refine ⟨_, rfl, ?_⟩; have n0_ := Aside0.mk (below_step (by repeat (first | (with_reducible first | exact HB.out | apply below_alloc | apply pw_below_drewN | apply below_drew1) | exact HB.out)) hb); clear HB; have HB := n0_; clear n0_; (try clear hb); (try clear hb2); (try clear hk); (try clear hi)))
                              go_ret3
                              exact ⟨by first | rfl | (simp [errW_none, errW_some] <;> rfl) | (simp [*, errW_none, errW_some] <;> rfl), by repeat (first | (with_reducible first | exact HB.out | apply below_alloc | apply pw_below_drewN | apply below_drew1) | exact HB.out)⟩
                          · replace c51 := Bool.eq_false_iff.mpr c51
                            subst c51
                            have H1 : (if 0 ≤ (wrap64 ((x0_1.size : Int) - t160)) then (if (wrap64 ((x0_1.size : Int) - t160)) ≤ (x0_1.size : Int) then (if 0 ≤ (wrap64 ((x1_1.size : Int) - x11_7)) then (if (wrap64 ((x1_1.size : Int) - x11_7)) ≤ (x1_1.size : Int) then (match_matchTrimSuffix.l0 kj15 (x0_1.extract 0 ((wrap64 ((x0_1.size : Int) - t160)) : Int).toNat) (x1_1.extract 0 ((wrap64 ((x1_1.size : Int) - x11_7)) : Int).toNat) false x9_1) else (none)) else (none)) else (none)) else (none)) = some (r1, r2, r3) := by rw [if_neg (show ¬ (false = true) by decide)] at H; exact H
                            clear H
                            have H := H1
                            clear H1
                            obtain ⟨ji61, hji61⟩ : ∃ j_ : Int, (wrap64 ((x0_1.size : Int) - t160)) = j_ := ⟨_, rfl⟩
                            replace H : (if 0 ≤ (ji61) then (if (ji61) ≤ (x0_1.size : Int) then (if 0 ≤ (wrap64 ((x1_1.size : Int) - x11_7)) then (if (wrap64 ((x1_1.size : Int) - x11_7)) ≤ (x1_1.size : Int) then (match_matchTrimSuffix.l0 kj15 (x0_1.extract 0 ((ji61) : Int).toNat) (x1_1.extract 0 ((wrap64 ((x1_1.size : Int) - x11_7)) : Int).toNat) false x9_1) else (none)) else (none)) else (none)) else (none)) = some (r1, r2, r3) := by first | (rw [hji61] at H; exact H) | (simp only [hji61] at H ⊢; exact H)
                            (try rw [hji61] at A19)
                            have hji61w : (IntKind.i64.wrap ((x0_1.size : Int) - t160)) = ji61 := (i64_w _).trans hji61
                            by_cases c62 : 0 ≤ (ji61)
                            · rw [if_pos c62] at H
                              have c62b0 := eq_true c62
                              have c62b1 : decide (0 ≤ (ji61)) = true := decide_eq_true c62
                              clear c62
                              by_cases c63 : (ji61) ≤ (x0_1.size : Int)
                              · rw [if_pos c63] at H
                                have c63b0 := eq_true c63
                                have c63b1 : decide ((ji61) ≤ (x0_1.size : Int)) = true := decide_eq_true c63
                                clear c63
                                obtain ⟨ji64, hji64⟩ : ∃ j_ : Int, (wrap64 ((x1_1.size : Int) - x11_7)) = j_ := ⟨_, rfl⟩
                                replace H : (if 0 ≤ (ji64) then (if (ji64) ≤ (x1_1.size : Int) then (match_matchTrimSuffix.l0 kj15 (x0_1.extract 0 ((ji61) : Int).toNat) (x1_1.extract 0 ((ji64) : Int).toNat) false x9_1) else (none)) else (none)) = some (r1, r2, r3) := by first | (rw [hji64] at H; exact H) | (simp only [hji64] at H ⊢; exact H)
                                (try rw [hji64] at A19)
                                have hji64w : (IntKind.i64.wrap ((x1_1.size : Int) - x11_7)) = ji64 := (i64_w _).trans hji64
                                by_cases c65 : 0 ≤ (ji64)
                                · rw [if_pos c65] at H
                                  have c65b0 := eq_true c65
                                  have c65b1 : decide (0 ≤ (ji64)) = true := decide_eq_true c65
                                  clear c65
                                  by_cases c66 : (ji64) ≤ (x1_1.size : Int)
                                  · rw [if_pos c66] at H
                                    have c66b0 := eq_true c66
                                    have c66b1 : decide ((ji64) ≤ (x1_1.size : Int)) = true := decide_eq_true c66
                                    clear c66
                                    have H' := Aside0.mk H
                                    clear H
                                    go_wp2_with (first | ((with_reducible refine gate_callee (f := 75) rfl ?_); refine goesL_ (some 54) rfl rfl Tryd.func75 (by kernel_rfl) rfl #[.string x0_1] rfl (by (try simp only [List.map_toArray, List.map_cons, List.map_nil]); first | done | rfl | (simp only [List.length_drop, List.length_take]; rfl)) ?_; (with_reducible refine (utf8_DecodeLastRuneInString.calls x0_1 t159 t160 _ ?side1 A19.out).mono ?_); (case side1 => exact Laid.below HLD.out (by repeat (first | (with_reducible first | exact HB.out | apply below_alloc | apply pw_below_drewN | apply below_drew1) | exact HB.out))); rintro e w67 ⟨rfl, hb⟩; refine ⟨_, rfl, ?_⟩; have n0_ := Aside0.mk (below_step (by repeat (first | (with_reducible first | exact HB.out | apply below_alloc | apply pw_below_drewN | apply below_drew1) | exact HB.out)) hb); clear HB; have HB := n0_; clear n0_; (try clear hb); (try clear hb2); (try clear hk); (try clear hi)))
                                    go_roundg kj15
                                    case measure => have := HK1.out; have := HJ3.out; have := HJ7.out; have := HJ15.out; omega
                                    case rel => exact ⟨(x0_1.extract 0 ((ji61) : Int).toNat), (x1_1.extract 0 ((ji64) : Int).toNat), (x9_1), (by first | rfl | (simp; done) | (simp only [← hji61] <;> (first | rfl | (simp; done))) | (simp [*]; done) | (simp only [*]; done)), (by first | rfl | (simp; done) | (simp only [← hji64] <;> (first | rfl | (simp; done))) | (simp [*]; done) | (simp only [*]; done)), (by first | rfl | (simp; done) | (simp [*]; done)), H', ⟨by have := HK1.out; have := HJ3.out; have := HJ7.out; have := HJ15.out; omega⟩, ⟨by repeat (first | (with_reducible first | exact HB.out | apply below_alloc | apply pw_below_drewN | apply below_drew1) | exact HB.out)⟩⟩
                                  · rw [if_neg c66] at H
                                    exact absurd H (by simp)
                                · rw [if_neg c65] at H
                                  exact absurd H (by simp)
                              · rw [if_neg c63] at H
                                exact absurd H (by simp)
                            · rw [if_neg c62] at H
                              exact absurd H (by simp)
                        · rw [if_neg c50] at H
                          have c50b0 : (t157 == 63) = false := beq_eq_false_iff_ne.mpr c50
                          have c50b1 : (t157 != 63) = true := bne_iff_ne.mpr c50
                          by_cases c68 : t157 = t159
                          · rw [if_pos c68] at H
                            have c68b0 : (t157 == t159) = true := beq_iff_eq.mpr c68
                            have c68b1 : (t157 != t159) = false := bne_eq_false_iff_eq.mpr c68
                            clear c68
                            obtain ⟨ji69, hji69⟩ : ∃ j_ : Int, (wrap64 ((x0_1.size : Int) - t160)) = j_ := ⟨_, rfl⟩
                            replace H : (if 0 ≤ (ji69) then (if (ji69) ≤ (x0_1.size : Int) then (if 0 ≤ (wrap64 ((x1_1.size : Int) - x11_7)) then (if (wrap64 ((x1_1.size : Int) - x11_7)) ≤ (x1_1.size : Int) then (match_matchTrimSuffix.l0 kj15 (x0_1.extract 0 ((ji69) : Int).toNat) (x1_1.extract 0 ((wrap64 ((x1_1.size : Int) - x11_7)) : Int).toNat) false x9_1) else (none)) else (none)) else (none)) else (none)) = some (r1, r2, r3) := by first | (rw [hji69] at H; exact H) | (simp only [hji69] at H ⊢; exact H)
                            (try rw [hji69] at A19)
                            have hji69w : (IntKind.i64.wrap ((x0_1.size : Int) - t160)) = ji69 := (i64_w _).trans hji69
                            by_cases c70 : 0 ≤ (ji69)
                            · rw [if_pos c70] at H
                              have c70b0 := eq_true c70
                              have c70b1 : decide (0 ≤ (ji69)) = true := decide_eq_true c70
                              clear c70
                              by_cases c71 : (ji69) ≤ (x0_1.size : Int)
                              · rw [if_pos c71] at H
                                have c71b0 := eq_true c71
                                have c71b1 : decide ((ji69) ≤ (x0_1.size : Int)) = true := decide_eq_true c71
                                clear c71
                                obtain ⟨ji72, hji72⟩ : ∃ j_ : Int, (wrap64 ((x1_1.size : Int) - x11_7)) = j_ := ⟨_, rfl⟩
                                replace H : (if 0 ≤ (ji72) then (if (ji72) ≤ (x1_1.size : Int) then (match_matchTrimSuffix.l0 kj15 (x0_1.extract 0 ((ji69) : Int).toNat) (x1_1.extract 0 ((ji72) : Int).toNat) false x9_1) else (none)) else (none)) = some (r1, r2, r3) := by first | (rw [hji72] at H; exact H) | (simp only [hji72] at H ⊢; exact H)
                                (try rw [hji72] at A19)
                                have hji72w : (IntKind.i64.wrap ((x1_1.size : Int) - x11_7)) = ji72 := (i64_w _).trans hji72
                                by_cases c73 : 0 ≤ (ji72)
                                · rw [if_pos c73] at H
                                  have c73b0 := eq_true c73
                                  have c73b1 : decide (0 ≤ (ji72)) = true := decide_eq_true c73
                                  clear c73
                                  by_cases c74 : (ji72) ≤ (x1_1.size : Int)
                                  · rw [if_pos c74] at H
                                    have c74b0 := eq_true c74
                                    have c74b1 : decide ((ji72) ≤ (x1_1.size : Int)) = true := decide_eq_true c74
                                    clear c74
                                    have H' := Aside0.mk H
                                    clear H
                                    go_wp2_with (first | ((with_reducible refine gate_callee (f := 75) rfl ?_); refine goesL_ (some 54) rfl rfl Tryd.func75 (by kernel_rfl) rfl #[.string x0_1] rfl (by (try simp only [List.map_toArray, List.map_cons, List.map_nil]); first | done | rfl | (simp only [List.length_drop, List.length_take]; rfl)) ?_; (with_reducible refine (utf8_DecodeLastRuneInString.calls x0_1 t159 t160 _ ?side1 A19.out).mono ?_); (case side1 => exact Laid.below HLD.out (by repeat (first | (with_reducible first | exact HB.out | apply below_alloc | apply pw_below_drewN | apply below_drew1) | exact HB.out))); rintro e w75 ⟨rfl, hb⟩; refine ⟨_, rfl, ?_⟩; have n0_ := Aside0.mk (below_step (by repeat (first | (with_reducible first | exact HB.out | apply below_alloc | apply pw_below_drewN | apply below_drew1) | exact HB.out)) hb); clear HB; have HB := n0_; clear n0_; (try clear hb); (try clear hb2); (try clear hk); (try clear hi)))
                                    go_roundg kj15
                                    case measure => have := HK1.out; have := HJ3.out; have := HJ7.out; have := HJ15.out; omega
                                    case rel => exact ⟨(x0_1.extract 0 ((ji69) : Int).toNat), (x1_1.extract 0 ((ji72) : Int).toNat), (x9_1), (by first | rfl | (simp; done) | (simp only [← hji69] <;> (first | rfl | (simp; done))) | (simp [*]; done) | (simp only [*]; done)), (by first | rfl | (simp; done) | (simp only [← hji72] <;> (first | rfl | (simp; done))) | (simp [*]; done) | (simp only [*]; done)), (by first | rfl | (simp; done) | (simp [*]; done)), H', ⟨by have := HK1.out; have := HJ3.out; have := HJ7.out; have := HJ15.out; omega⟩, ⟨by repeat (first | (with_reducible first | exact HB.out | apply below_alloc | apply pw_below_drewN | apply below_drew1) | exact HB.out)⟩⟩
                                  · rw [if_neg c74] at H
                                    exact absurd H (by simp)
                                · rw [if_neg c73] at H
                                  exact absurd H (by simp)
                              · rw [if_neg c71] at H
                                exact absurd H (by simp)
                            · rw [if_neg c70] at H
                              exact absurd H (by simp)
                          · rw [if_neg c68] at H
                            have c68b0 : (t157 == t159) = false := beq_eq_false_iff_ne.mpr c68
                            have c68b1 : (t157 != t159) = true := bne_iff_ne.mpr c68
                            simp only [Option.some.injEq, Prod.mk.injEq] at H
                            obtain ⟨rfl, rfl, rfl⟩ := H
                            go_wp2_with (first | ((with_reducible refine gate_callee (f := 75) rfl ?_); refine goesL_ (some 54) rfl rfl Tryd.func75 (by kernel_rfl) rfl #[.string x0_1] rfl (by (try simp only [List.map_toArray, List.map_cons, List.map_nil]); first | done | rfl | (simp only [List.length_drop, List.length_take]; rfl)) ?_; (with_reducible refine (utf8_DecodeLastRuneInString.calls x0_1 t159 t160 _ ?side1 A19.out).mono ?_); (case side1 => exact Laid.below HLD.out (by repeat (first | (with_reducible first | exact HB.out | apply below_alloc | apply pw_below_drewN | apply below_drew1) | exact HB.out))); rintro e w76 ⟨rfl, hb⟩; refine ⟨_, rfl, ?_⟩; have n0_ := Aside0.mk (below_step (by repeat (first | (with_reducible first | exact HB.out | apply below_alloc | apply pw_below_drewN | apply below_drew1) | exact HB.out)) hb); clear HB; have HB := n0_; clear n0_; (try clear hb); (try clear hb2); (try clear hk); (try clear hi)))
                            go_ret3
                            exact ⟨by first | rfl | (simp [errW_none, errW_some] <;> rfl) | (simp [*, errW_none, errW_some] <;> rfl), by repeat (first | (with_reducible first | exact HB.out | apply below_alloc | apply pw_below_drewN | apply below_drew1) | exact HB.out)⟩
          · replace c6 := Bool.eq_false_iff.mpr c6
            subst c6
            have H1 : (some (x0_1, x1_1, x9_1)) = some (r1, r2, r3) := by rw [if_neg (show ¬ (false = true) by decide)] at H; exact H
            clear H
            have H := H1
            clear H1
            simp only [Option.some.injEq, Prod.mk.injEq] at H
            obtain ⟨rfl, rfl, rfl⟩ := H
            go_wp2
            go_ret3
            exact ⟨by first | rfl | (simp [errW_none, errW_some] <;> rfl) | (simp [*, errW_none, errW_some] <;> rfl), by repeat (first | (with_reducible first | exact HB.out | apply below_alloc | apply pw_below_drewN | apply below_drew1) | exact HB.out)⟩

/-! ### match_DoorTrimSuffix: function 33 -/
def match_DoorTrimSuffix.f (k : Nat) (a0 : ByteArray) (a1 : ByteArray) : Option (ByteArray × ByteArray × Bool) := (match_matchTrimSuffix.f k a0 a1 false).bind fun bt163 => (some (bt163.1, bt163.2.1, bt163.2.2))
theorem match_DoorTrimSuffix.mono : ∀ a0 a1 k, LeO (match_DoorTrimSuffix.f k a0 a1) (match_DoorTrimSuffix.f (k + 1) a0 a1) := by
  intro a0 a1 k
  unfold match_DoorTrimSuffix.f
  repeat' first
      | (with_reducible exact match_matchTrimSuffix.mono _ _ _ _)
      | (with_reducible exact LeO.refl _)
      | (with_reducible exact LeO.none _)
      | (with_reducible refine LeO.ite ?_ ?_)
      | (with_reducible refine LeO.bind ?_ (fun _ => ?_))
      | exact match_matchTrimSuffix.mono _ _ _ _
      | exact LeO.none _
      | refine LeO.ite ?_ ?_
      | refine LeO.bind ?_ (fun _ => ?_)
set_option maxHeartbeats 8000000 in
set_option maxRecDepth 100000 in
theorem match_DoorTrimSuffix.calls (k : Nat) (a0 : ByteArray) (a1 : ByteArray) (r1 : ByteArray) (r2 : ByteArray) (r3 : Bool) (w : World) (hL : Laid w) (h : match_DoorTrimSuffix.f k a0 a1 = some (r1, r2, r3)) :
    Calls Tryd.prog 33 #[.string a0, .string a1] w fun e w' => e = .returned (.tuple #[.string r1, .string r2, .bool r3]) ∧ Below w.heap.size w w' := by
  have HB := Aside0.mk (Below.refl w.heap.size w)
  have HLD := Aside0.mk hL
  clear hL
  have H : ((match_matchTrimSuffix.f k a0 a1 false).bind fun bt163 => (some (bt163.1, bt163.2.1, bt163.2.2))) = some (r1, r2, r3) := h
  clear h
  replace H := Option.bind_eq_some_iff.mp H
  obtain ⟨⟨t163, t164, t165⟩, A30, H⟩ := H
  replace H : (some (t163, t164, t165)) = some (r1, r2, r3) := H
  have A3 := Aside0.mk A30
  clear A30
  simp only [Option.some.injEq, Prod.mk.injEq] at H
  obtain ⟨rfl, rfl, rfl⟩ := H
  go_enter Tryd.func33, Tryd.ntmps33
  go_wp2_with (first | ((with_reducible refine gate_callee (f := 59) rfl ?_); refine goesL_ (some 9) rfl rfl Tryd.func59 (by kernel_rfl) rfl #[.string a0, .string a1, .bool false] rfl (by (try simp only [List.map_toArray, List.map_cons, List.map_nil]); first | done | rfl | (simp only [List.length_drop, List.length_take]; rfl)) ?_; (with_reducible refine (match_matchTrimSuffix.calls k a0 a1 false t163 t164 t165 _ ?side1 A3.out).mono ?_); (case side1 => exact Laid.below HLD.out (by repeat (first | (with_reducible first | exact HB.out | apply below_alloc | apply pw_below_drewN | apply below_drew1) | exact HB.out))); rintro e w4 ⟨rfl, hb⟩; refine ⟨_, rfl, ?_⟩; have n0_ := Aside0.mk (below_step (by repeat (first | (with_reducible first | exact HB.out | apply below_alloc | apply pw_below_drewN | apply below_drew1) | exact HB.out)) hb); clear HB; have HB := n0_; clear n0_; (try clear hb); (try clear hb2); (try clear hk); (try clear hi)))
  go_ret3
  exact ⟨by first | rfl | (simp [errW_none, errW_some] <;> rfl) | (simp [*, errW_none, errW_some] <;> rfl), by repeat (first | (with_reducible first | exact HB.out | apply below_alloc | apply pw_below_drewN | apply below_drew1) | exact HB.out)⟩

end Go.Proofs.YtkdpkenhhcgnbaaDoor.PFnMtTrimSuffix
