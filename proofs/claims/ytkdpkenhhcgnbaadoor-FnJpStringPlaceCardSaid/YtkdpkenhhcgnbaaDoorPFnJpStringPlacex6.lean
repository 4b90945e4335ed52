-- Written for this claim by this session's own program (wip/xprint).
import Derived.Test.YtkdpkenhhcgnbaaDoorPFnJpStringPlacex0
namespace Go.Proofs.YtkdpkenhhcgnbaaDoor.PFnJpStringPlace
open Go.RowKit Go.Proofs.YtkdpkenhhcgnbaaDoorW.PrintWords Go.Proofs.YtkdpkenhhcgnbaaDoorW.PrintLast Go.Proofs.YtkdpkenhhcgnbaaDoorW.PrintMore
attribute [local go_sem] max2_int min2_int max_two min_two max_three min_three max_four min_four   -- for this text's walks alone
set_option linter.unusedVariables false
set_option linter.unusedSimpArgs false

/-! ### jsonparser_stringEndConfig: function 71 -/
mutual
def jsonparser_stringEndConfig.j1 : Nat → List Int → Int → Int → Int → Option (Int × Bool)
  | 0, _, _, _, _ => none
  | k + 1, x1, x2, x10, x11 => jsonparser_stringEndConfig.l1 k x1 x2 x10 x11 false
def jsonparser_stringEndConfig.l1 : Nat → List Int → Int → Int → Int → Bool → Option (Int × Bool)
  | 0, _, _, _, _, _ => none
  | k + 1, x1, x2, x10, x11, x17 => if x10 < x11 then (if 0 ≤ x10 then (if x10 < (x1.length : Int) then (if (rd x1 x10) > 92 then (jsonparser_stringEndConfig.l1 k x1 x2 (wrap64 (x10 + 1)) x11 x17) else (if (rd x1 x10) = x2 then (if x17 = true then (jsonparser_stringEndConfig.l2 k x1 x2 x10 x11 x17 (wrap64 (x10 - 1))) else (some (wrap64 (x10 + 1), false))) else (if (rd x1 x10) = 92 then (jsonparser_stringEndConfig.l1 k x1 x2 (wrap64 (x10 + 1)) x11 true) else (jsonparser_stringEndConfig.l1 k x1 x2 (wrap64 (x10 + 1)) x11 x17)))) else (none)) else (none)) else (some ((-1), x17))
def jsonparser_stringEndConfig.l2 : Nat → List Int → Int → Int → Int → Bool → Int → Option (Int × Bool)
  | 0, _, _, _, _, _, _ => none
  | k + 1, x1, x2, x10, x11, x17, x19 => if x19 < 0 then (jsonparser_stringEndConfig.j4 k x1 x2 x10 x11 x17 x19 true) else (if 0 ≤ x19 then (if x19 < (x1.length : Int) then (jsonparser_stringEndConfig.j4 k x1 x2 x10 x11 x17 x19 ((rd x1 x19) != 92)) else (none)) else (none))
def jsonparser_stringEndConfig.j4 : Nat → List Int → Int → Int → Int → Bool → Int → Bool → Option (Int × Bool)
  | 0, _, _, _, _, _, _, _ => none
  | k + 1, x1, x2, x10, x11, x17, x19, x89 => if x89 = true then (some (wrap64 (x10 + 1), true)) else (if (wrap64 (x19 - 1)) < 0 then (jsonparser_stringEndConfig.l1 k x1 x2 (wrap64 (x10 + 1)) x11 x17) else (if 0 ≤ (wrap64 (x19 - 1)) then (if (wrap64 (x19 - 1)) < (x1.length : Int) then (if (rd x1 (wrap64 (x19 - 1))) = 92 then (jsonparser_stringEndConfig.l2 k x1 x2 x10 x11 x17 (wrap64 ((wrap64 (x19 - 1)) - 1))) else (jsonparser_stringEndConfig.l1 k x1 x2 (wrap64 (x10 + 1)) x11 x17)) else (none)) else (none)))
def jsonparser_stringEndConfig.l0 : Nat → List Int → Int → Int → Int → Int → Int → Option (Int × Bool)
  | 0, _, _, _, _, _, _ => none
  | k + 1, x1, x2, x8, x9, x10, x11 => if (wrap64 (x10 + 8)) ≤ x11 then (if 0 ≤ x10 then (if x10 ≤ (x1.length : Int) then ((binary_littleEndian_Uint64.f () (x1.drop (x10 : Int).toNat)).bind fun t301 => (if (Go.bits .or .u64 (Go.bits .and .u64 (Go.bits .and .u64 (IntKind.u64.wrap ((Go.bits .xor .u64 t301 x8) - 72340172838076673)) (Go.bits .xor .u64 IntKind.u64.max (Go.bits .xor .u64 t301 x8))) 9259542123273814144) (Go.bits .and .u64 (Go.bits .and .u64 (IntKind.u64.wrap ((Go.bits .xor .u64 t301 x9) - 72340172838076673)) (Go.bits .xor .u64 IntKind.u64.max (Go.bits .xor .u64 t301 x9))) 9259542123273814144)) = 0 then (jsonparser_stringEndConfig.l0 k x1 x2 x8 x9 (wrap64 (x10 + 8)) x11) else (jsonparser_stringEndConfig.j1 k x1 x2 x10 x11))) else (none)) else (none)) else (jsonparser_stringEndConfig.j1 k x1 x2 x10 x11)
end
def jsonparser_stringEndConfig.f (k : Nat) (a0_0 : Bool) (a0_1 : Bool) (a0_2 : Int) (l1 : List Int) (a2 : Int) : Option (Int × Bool) := jsonparser_stringEndConfig.l0 k l1 a2 (IntKind.u64.wrap ((IntKind.u64.wrap (a2)) * 72340172838076673)) 6655295901103053916 0 (l1.length : Int)
theorem jsonparser_stringEndConfig.mono_l : ∀ k, (∀ y0 y1 y2 y3, LeO (jsonparser_stringEndConfig.j1 k y0 y1 y2 y3) (jsonparser_stringEndConfig.j1 (k + 1) y0 y1 y2 y3)) ∧ (∀ y0 y1 y2 y3 y4, LeO (jsonparser_stringEndConfig.l1 k y0 y1 y2 y3 y4) (jsonparser_stringEndConfig.l1 (k + 1) y0 y1 y2 y3 y4)) ∧ (∀ y0 y1 y2 y3 y4 y5, LeO (jsonparser_stringEndConfig.l2 k y0 y1 y2 y3 y4 y5) (jsonparser_stringEndConfig.l2 (k + 1) y0 y1 y2 y3 y4 y5)) ∧ (∀ y0 y1 y2 y3 y4 y5 y6, LeO (jsonparser_stringEndConfig.j4 k y0 y1 y2 y3 y4 y5 y6) (jsonparser_stringEndConfig.j4 (k + 1) y0 y1 y2 y3 y4 y5 y6)) ∧ (∀ y0 y1 y2 y3 y4 y5, LeO (jsonparser_stringEndConfig.l0 k y0 y1 y2 y3 y4 y5) (jsonparser_stringEndConfig.l0 (k + 1) y0 y1 y2 y3 y4 y5))
  | 0 => ⟨fun _ _ _ _ r h => by simp [jsonparser_stringEndConfig.j1] at h, fun _ _ _ _ _ r h => by simp [jsonparser_stringEndConfig.l1] at h, fun _ _ _ _ _ _ r h => by simp [jsonparser_stringEndConfig.l2] at h, fun _ _ _ _ _ _ _ r h => by simp [jsonparser_stringEndConfig.j4] at h, fun _ _ _ _ _ _ r h => by simp [jsonparser_stringEndConfig.l0] at h⟩
  | k + 1 => by
    obtain ⟨ih0, ih1, ih2, ih3, ih4⟩ := jsonparser_stringEndConfig.mono_l k
    refine ⟨?_, ?_, ?_, ?_, ?_⟩
    · intro y0 y1 y2 y3
      unfold jsonparser_stringEndConfig.j1
      repeat' first
      | (with_reducible exact ih0 _ _ _ _)
      | (with_reducible exact ih1 _ _ _ _ _)
      | (with_reducible exact ih2 _ _ _ _ _ _)
      | (with_reducible exact ih3 _ _ _ _ _ _ _)
      | (with_reducible exact ih4 _ _ _ _ _ _)
      | (with_reducible exact LeO.refl _)
      | (with_reducible exact LeO.none _)
      | (with_reducible refine LeO.ite ?_ ?_)
      | (with_reducible refine LeO.bind ?_ (fun _ => ?_))
      | exact ih0 _ _ _ _
      | exact ih1 _ _ _ _ _
      | exact ih2 _ _ _ _ _ _
      | exact ih3 _ _ _ _ _ _ _
      | exact ih4 _ _ _ _ _ _
      | exact LeO.none _
      | refine LeO.ite ?_ ?_
      | refine LeO.bind ?_ (fun _ => ?_)
    · intro y0 y1 y2 y3 y4
      unfold jsonparser_stringEndConfig.l1
      repeat' first
      | (with_reducible exact ih0 _ _ _ _)
      | (with_reducible exact ih1 _ _ _ _ _)
      | (with_reducible exact ih2 _ _ _ _ _ _)
      | (with_reducible exact ih3 _ _ _ _ _ _ _)
      | (with_reducible exact ih4 _ _ _ _ _ _)
      | (with_reducible exact LeO.refl _)
      | (with_reducible exact LeO.none _)
      | (with_reducible refine LeO.ite ?_ ?_)
      | (with_reducible refine LeO.bind ?_ (fun _ => ?_))
      | exact ih0 _ _ _ _
      | exact ih1 _ _ _ _ _
      | exact ih2 _ _ _ _ _ _
      | exact ih3 _ _ _ _ _ _ _
      | exact ih4 _ _ _ _ _ _
      | exact LeO.none _
      | refine LeO.ite ?_ ?_
      | refine LeO.bind ?_ (fun _ => ?_)
    · intro y0 y1 y2 y3 y4 y5
      unfold jsonparser_stringEndConfig.l2
      repeat' first
      | (with_reducible exact ih0 _ _ _ _)
      | (with_reducible exact ih1 _ _ _ _ _)
      | (with_reducible exact ih2 _ _ _ _ _ _)
      | (with_reducible exact ih3 _ _ _ _ _ _ _)
      | (with_reducible exact ih4 _ _ _ _ _ _)
      | (with_reducible exact LeO.refl _)
      | (with_reducible exact LeO.none _)
      | (with_reducible refine LeO.ite ?_ ?_)
      | (with_reducible refine LeO.bind ?_ (fun _ => ?_))
      | exact ih0 _ _ _ _
      | exact ih1 _ _ _ _ _
      | exact ih2 _ _ _ _ _ _
      | exact ih3 _ _ _ _ _ _ _
      | exact ih4 _ _ _ _ _ _
      | exact LeO.none _
      | refine LeO.ite ?_ ?_
      | refine LeO.bind ?_ (fun _ => ?_)
    · intro y0 y1 y2 y3 y4 y5 y6
      unfold jsonparser_stringEndConfig.j4
      repeat' first
      | (with_reducible exact ih0 _ _ _ _)
      | (with_reducible exact ih1 _ _ _ _ _)
      | (with_reducible exact ih2 _ _ _ _ _ _)
      | (with_reducible exact ih3 _ _ _ _ _ _ _)
      | (with_reducible exact ih4 _ _ _ _ _ _)
      | (with_reducible exact LeO.refl _)
      | (with_reducible exact LeO.none _)
      | (with_reducible refine LeO.ite ?_ ?_)
      | (with_reducible refine LeO.bind ?_ (fun _ => ?_))
      | exact ih0 _ _ _ _
      | exact ih1 _ _ _ _ _
      | exact ih2 _ _ _ _ _ _
      | exact ih3 _ _ _ _ _ _ _
      | exact ih4 _ _ _ _ _ _
      | exact LeO.none _
      | refine LeO.ite ?_ ?_
      | refine LeO.bind ?_ (fun _ => ?_)
    · intro y0 y1 y2 y3 y4 y5
      unfold jsonparser_stringEndConfig.l0
      repeat' first
      | (with_reducible exact ih0 _ _ _ _)
      | (with_reducible exact ih1 _ _ _ _ _)
      | (with_reducible exact ih2 _ _ _ _ _ _)
      | (with_reducible exact ih3 _ _ _ _ _ _ _)
      | (with_reducible exact ih4 _ _ _ _ _ _)
      | (with_reducible exact LeO.refl _)
      | (with_reducible exact LeO.none _)
      | (with_reducible refine LeO.ite ?_ ?_)
      | (with_reducible refine LeO.bind ?_ (fun _ => ?_))
      | exact ih0 _ _ _ _
      | exact ih1 _ _ _ _ _
      | exact ih2 _ _ _ _ _ _
      | exact ih3 _ _ _ _ _ _ _
      | exact ih4 _ _ _ _ _ _
      | exact LeO.none _
      | refine LeO.ite ?_ ?_
      | refine LeO.bind ?_ (fun _ => ?_)
theorem jsonparser_stringEndConfig.mono : ∀ a0 a1 a2 a3 a4 k, LeO (jsonparser_stringEndConfig.f k a0 a1 a2 a3 a4) (jsonparser_stringEndConfig.f (k + 1) a0 a1 a2 a3 a4) := by
  intro a0 a1 a2 a3 a4 k
  obtain ⟨ih0, ih1, ih2, ih3, ih4⟩ := jsonparser_stringEndConfig.mono_l k
  unfold jsonparser_stringEndConfig.f
  repeat' first
      | (with_reducible exact ih0 _ _ _ _)
      | (with_reducible exact ih1 _ _ _ _ _)
      | (with_reducible exact ih2 _ _ _ _ _ _)
      | (with_reducible exact ih3 _ _ _ _ _ _ _)
      | (with_reducible exact ih4 _ _ _ _ _ _)
      | (with_reducible exact LeO.refl _)
      | (with_reducible exact LeO.none _)
      | (with_reducible refine LeO.ite ?_ ?_)
      | (with_reducible refine LeO.bind ?_ (fun _ => ?_))
      | exact ih0 _ _ _ _
      | exact ih1 _ _ _ _ _
      | exact ih2 _ _ _ _ _ _
      | exact ih3 _ _ _ _ _ _ _
      | exact ih4 _ _ _ _ _ _
      | exact LeO.none _
      | refine LeO.ite ?_ ?_
      | refine LeO.bind ?_ (fun _ => ?_)
set_option maxHeartbeats 8000000 in
set_option maxRecDepth 100000 in
theorem jsonparser_stringEndConfig.calls (k : Nat) (a0_0 : Bool) (a0_1 : Bool) (a0_2 : Int) (A1 : Option Addr) (c1 : Nat) (l1 : List Int) (a2 : Int) (r1 : Int) (r2 : Bool) (w : World) (hL : Laid w) (hr1 : Kd.C (Kd.int .u8) w A1 l1.length l1) (hc1 : l1.length ≤ c1) (h : jsonparser_stringEndConfig.f k a0_0 a0_1 a0_2 l1 a2 = some (r1, r2)) :
    Calls Tryd.prog 71 #[.agg #[.bool a0_0, .bool a0_1, .int .i64 a0_2], .slice A1 l1.length c1, .int .u8 a2] w fun e w' => e = .returned (.tuple #[.int .i64 r1, .bool r2]) ∧ Below w.heap.size w w' := by
  have hu114 := Tryd.underlying114
  have HR1 := Aside0.mk hr1
  have HC1 := Aside0.mk hc1
  clear hr1 hc1
  have HB := Aside0.mk (Below.refl w.heap.size w)
  have HLD := Aside0.mk hL
  clear hL
  have H : (jsonparser_stringEndConfig.l0 k l1 a2 (IntKind.u64.wrap ((IntKind.u64.wrap (a2)) * 72340172838076673)) 6655295901103053916 0 (l1.length : Int)) = some (r1, r2) := h
  clear h
  have HC4 := Aside0.mk H
  clear H
  go_enter Tryd.func71, Tryd.ntmps71
  go_upto_block 0 with (first | ((with_reducible refine gate_dst (N := 3) rfl ?_); refine box_event ?hg (N := 3) ?hd (cs := #[.bool a0_0, .bool a0_1, .int .i64 a0_2]) (t := 114) ?hr ?_; (case hd => rfl); (case hg => rfl); (case hr => first | (go_simp; done) | (go_simp; rfl)); intro gb299 hg w5 hbox hb; have n0_ := Aside0.mk (below_step (by repeat (first | (with_reducible first | exact HB.out | apply below_alloc | apply pw_below_drewN | apply below_drew1) | exact HB.out)) hb); have n1_ := Aside0.mk (hbox); have n2_ := Aside0.mk ((by rw [hg]; exact (below_size (by repeat (first | (with_reducible first | exact HB.out | apply below_alloc | apply pw_below_drewN | apply below_drew1) | exact HB.out))) : w.heap.size ≤ gb299)); have n3_ := Aside0.mk ((by rw [hg]; exact (below_size (by repeat (first | (with_reducible first | exact HB.out | apply below_alloc | apply pw_below_drewN | apply below_drew1) | exact HB.out))) : w.heap.size ≤ gb299)); clear HB; have HB := n0_; have BK299 := n1_; have GW299 := n2_; have GE299 := n3_; clear n0_ n1_ n2_ n3_; clear hb hbox hg))
  (try simp only [Act.put, List.setIfInBounds_toArray, List.set_cons_zero, List.set_cons_succ])
  go_cut [10] (fun v10 wc => ∃ (kq : Nat) (x10_3 : Int), v10 = .int .i64 x10_3 ∧ Aside0 (jsonparser_stringEndConfig.j1 kq l1 a2 x10_3 (l1.length : Int) = some (r1, r2)) ∧ Aside0 (kq ≤ k) ∧ Aside0 (wc.heap[gb299]? = some (.cells #[.bool a0_0, .bool a0_1, .int .i64 a0_2] 114 (0, 0))) ∧ Aside0 (Below w.heap.size w wc))
  case first =>
    have H := HC4.out
    clear HC4
    have H' := Aside0.mk H
    clear H
    go_wp2
    (try simp only [Act.put, List.setIfInBounds_toArray, List.set_cons_zero, List.set_cons_succ])
    go_loopg [10] k (fun kq v10 w' => ∃ (x10_1 : Int), v10 = .int .i64 x10_1 ∧ Aside0 (jsonparser_stringEndConfig.l0 kq l1 a2 (IntKind.u64.wrap ((IntKind.u64.wrap (a2)) * 72340172838076673)) 6655295901103053916 x10_1 (l1.length : Int) = some (r1, r2)) ∧ Aside0 (kq ≤ k) ∧ Aside0 (w'.heap[gb299]? = some (.cells #[.bool a0_0, .bool a0_1, .int .i64 a0_2] 114 (0, 0))) ∧ Aside0 (Below w.heap.size w w'))
    case atStart => exact ⟨(0), (by first | rfl | (simp; done) | (simp [*]; done)), H', ⟨Nat.le_refl _⟩, ⟨by (with_reducible repeat (first | refine blk_drewN ?_ _ | refine blk_drew ?_ | refine blk_alloc ?_ _)); exact BK299.out⟩, ⟨by repeat (first | (with_reducible first | exact HB.out | apply below_alloc | apply pw_below_drewN | apply below_drew1 | refine below_set ?_ GE299.out) | exact HB.out)⟩⟩
    case round =>
      clear H'
      try clear c1
      try clear p2
      obtain ⟨x10_1, rfl, HA, HK1, BK299, HB⟩ := hrel
      cases gk with
      | zero => exact absurd HA.out (by simp [jsonparser_stringEndConfig.l0])
      | succ k1 =>
        have H := HA.out
        clear HA
        simp only [jsonparser_stringEndConfig.l0] at H
        by_cases c6 : (wrap64 (x10_1 + 8)) ≤ (l1.length : Int)
        · rw [if_pos c6] at H
          have c6b0 : decide ((wrap64 (x10_1 + 8)) ≤ (l1.length : Int)) = true := decide_eq_true c6
          clear c6
          (first | rw [c6b0] | (simp only [i64_w, i32_w]; rw [c6b0]) | skip)
          by_cases c7 : 0 ≤ x10_1
          · rw [if_pos c7] at H
            have c7b0 := eq_true c7
            have c7b1 : decide (0 ≤ x10_1) = true := decide_eq_true c7
            clear c7
            by_cases c8 : x10_1 ≤ (l1.length : Int)
            · rw [if_pos c8] at H
              have c8b0 := eq_true c8
              have c8b1 : decide (x10_1 ≤ (l1.length : Int)) = true := decide_eq_true c8
              clear c8
              replace H := Option.bind_eq_some_iff.mp H
              obtain ⟨t301, A90, H⟩ := H
              replace H : (if (Go.bits .or .u64 (Go.bits .and .u64 (Go.bits .and .u64 (IntKind.u64.wrap ((Go.bits .xor .u64 t301 (IntKind.u64.wrap ((IntKind.u64.wrap (a2)) * 72340172838076673))) - 72340172838076673)) (Go.bits .xor .u64 IntKind.u64.max (Go.bits .xor .u64 t301 (IntKind.u64.wrap ((IntKind.u64.wrap (a2)) * 72340172838076673))))) 9259542123273814144) (Go.bits .and .u64 (Go.bits .and .u64 (IntKind.u64.wrap ((Go.bits .xor .u64 t301 6655295901103053916) - 72340172838076673)) (Go.bits .xor .u64 IntKind.u64.max (Go.bits .xor .u64 t301 6655295901103053916))) 9259542123273814144)) = 0 then (jsonparser_stringEndConfig.l0 k1 l1 a2 (IntKind.u64.wrap ((IntKind.u64.wrap (a2)) * 72340172838076673)) 6655295901103053916 (wrap64 (x10_1 + 8)) (l1.length : Int)) else (jsonparser_stringEndConfig.j1 k1 l1 a2 x10_1 (l1.length : Int))) = some (r1, r2) := H
              have A9 := Aside0.mk A90
              clear A90
              by_cases c10 : (Go.bits .or .u64 (Go.bits .and .u64 (Go.bits .and .u64 (IntKind.u64.wrap ((Go.bits .xor .u64 t301 (IntKind.u64.wrap ((IntKind.u64.wrap (a2)) * 72340172838076673))) - 72340172838076673)) (Go.bits .xor .u64 IntKind.u64.max (Go.bits .xor .u64 t301 (IntKind.u64.wrap ((IntKind.u64.wrap (a2)) * 72340172838076673))))) 9259542123273814144) (Go.bits .and .u64 (Go.bits .and .u64 (IntKind.u64.wrap ((Go.bits .xor .u64 t301 6655295901103053916) - 72340172838076673)) (Go.bits .xor .u64 IntKind.u64.max (Go.bits .xor .u64 t301 6655295901103053916))) 9259542123273814144)) = 0
              · rw [if_pos c10] at H
                have c10b0 : ((Go.bits .or .u64 (Go.bits .and .u64 (Go.bits .and .u64 (IntKind.u64.wrap ((Go.bits .xor .u64 t301 (IntKind.u64.wrap ((IntKind.u64.wrap (a2)) * 72340172838076673))) - 72340172838076673)) (Go.bits .xor .u64 IntKind.u64.max (Go.bits .xor .u64 t301 (IntKind.u64.wrap ((IntKind.u64.wrap (a2)) * 72340172838076673))))) 9259542123273814144) (Go.bits .and .u64 (Go.bits .and .u64 (IntKind.u64.wrap ((Go.bits .xor .u64 t301 6655295901103053916) - 72340172838076673)) (Go.bits .xor .u64 IntKind.u64.max (Go.bits .xor .u64 t301 6655295901103053916))) 9259542123273814144)) == 0) = true := beq_iff_eq.mpr c10
                have c10b1 : ((Go.bits .or .u64 (Go.bits .and .u64 (Go.bits .and .u64 (IntKind.u64.wrap ((Go.bits .xor .u64 t301 (IntKind.u64.wrap ((IntKind.u64.wrap (a2)) * 72340172838076673))) - 72340172838076673)) (Go.bits .xor .u64 IntKind.u64.max (Go.bits .xor .u64 t301 (IntKind.u64.wrap ((IntKind.u64.wrap (a2)) * 72340172838076673))))) 9259542123273814144) (Go.bits .and .u64 (Go.bits .and .u64 (IntKind.u64.wrap ((Go.bits .xor .u64 t301 6655295901103053916) - 72340172838076673)) (Go.bits .xor .u64 IntKind.u64.max (Go.bits .xor .u64 t301 6655295901103053916))) 9259542123273814144)) != 0) = false := bne_eq_false_iff_eq.mpr c10
                have c10b2 : ((Go.bits .or .u64 (Go.bits .and .u64 (Go.bits .and .u64 (IntKind.u64.wrap ((Go.bits .xor .u64 t301 (IntKind.u64.wrap ((IntKind.u64.wrap (a2)) * 72340172838076673))) - 72340172838076673)) (Go.bits .xor .u64 (if IntKind.u64.signed = true then -1 else IntKind.u64.max) (Go.bits .xor .u64 t301 (IntKind.u64.wrap ((IntKind.u64.wrap (a2)) * 72340172838076673))))) 9259542123273814144) (Go.bits .and .u64 (Go.bits .and .u64 (IntKind.u64.wrap ((Go.bits .xor .u64 t301 6655295901103053916) - 72340172838076673)) (Go.bits .xor .u64 (if IntKind.u64.signed = true then -1 else IntKind.u64.max) (Go.bits .xor .u64 t301 6655295901103053916))) 9259542123273814144)) == 0) = true := beq_iff_eq.mpr c10
                have c10b3 : ((Go.bits .or .u64 (Go.bits .and .u64 (Go.bits .and .u64 (IntKind.u64.wrap ((Go.bits .xor .u64 t301 (IntKind.u64.wrap ((IntKind.u64.wrap (a2)) * 72340172838076673))) - 72340172838076673)) (Go.bits .xor .u64 (if IntKind.u64.signed = true then -1 else IntKind.u64.max) (Go.bits .xor .u64 t301 (IntKind.u64.wrap ((IntKind.u64.wrap (a2)) * 72340172838076673))))) 9259542123273814144) (Go.bits .and .u64 (Go.bits .and .u64 (IntKind.u64.wrap ((Go.bits .xor .u64 t301 6655295901103053916) - 72340172838076673)) (Go.bits .xor .u64 (if IntKind.u64.signed = true then -1 else IntKind.u64.max) (Go.bits .xor .u64 t301 6655295901103053916))) 9259542123273814144)) != 0) = false := bne_eq_false_iff_eq.mpr c10
                clear c10
                have H' := Aside0.mk H
                clear H
                try go_wp2
                have n0_ := Aside0.mk (blk_drew BK299.out)
                have n1_ := Aside0.mk (below_drew1 HB.out)
                clear BK299
                clear HB
                have BK299 := n0_
                have HB := n1_
                clear n0_ n1_
                obtain ⟨i013, hi013, _, hsz13, _⟩ := info_parts info5
                obtain ⟨A13, hcut13, hA13, hC13⟩ := print_drop_of (P := Tryd.prog) (Value.int .u8) 0 91 5 .i64 Tryd.underlying91 hi013 hsz13 A1 c1 l1 x10_1 (of_decide_eq_true (by first | (with_reducible assumption) | assumption)) (of_decide_eq_true (by first | (with_reducible assumption) | assumption)) HC1.out
                have HR300 := Aside0.mk (Kd.C_of_reads (h1 := fun _ => rfl) (hA13 _ (Kd.reads_of_C HR1.out)))
                have HC300 := Aside0.mk hC13
                clear hA13 hC13 hi013 hsz13
                refine start_ (n := 6) (S := fun w' => True) (ds := []) #[false, false, false, false, false, false] (by kernel_rfl) rfl rfl trivial (fun hHeld => ?_)
                generalize wr.drew = w11 at BK299 HB HR300 hHeld ⊢
                refine pure_ (i := 1) (N := some 30) (v := ?_) (a' := ?_) #[false, true, false, false, false, false] rfl rfl (by kernel_rfl) (fun _ _ _ h => h) (Or.inl ⟨by rfl, ?_⟩) ?_ ?_
                rotate_left
                · intro w'
                  go_simp
                  with_reducible rfl
                rotate_left
                · simp only [Act.put, List.setIfInBounds_toArray, List.set_cons_zero, List.set_cons_succ, i64_w, i32_w]
                  rfl
                refine pure_ (i := 2) (N := some 31) (v := ?_) (a' := ?_) #[false, true, true, false, false, false] rfl rfl (by kernel_rfl) (fun _ _ _ h => h) (Or.inl ⟨by rfl, ?_⟩) ?_ ?_
                rotate_left
                · intro w'
                  go_simp
                  with_reducible rfl
                rotate_left
                · simp only [Act.put, List.setIfInBounds_toArray, List.set_cons_zero, List.set_cons_succ, i64_w, i32_w]
                  rfl
                refine pure_ (i := 3) (N := some 32) (v := ?_) (a' := ?_) #[false, true, true, true, false, false] rfl rfl (by kernel_rfl) (fun _ _ _ h => h) (Or.inl ⟨by rfl, ?_⟩) ?_ ?_
                rotate_left
                · intro w'
                  go_simp
                  with_reducible rfl
                rotate_left
                · simp only [Act.put, List.setIfInBounds_toArray, List.set_cons_zero, List.set_cons_succ, i64_w, i32_w]
                  rfl
                refine take_ (i := 0) (N := some 29) (v := ?_) (a' := ?_) #[true, true, true, true, false, false] rfl rfl (by kernel_rfl) (fun _ _ _ h => h) (Or.inl ⟨by rfl, ?_⟩) hHeld ?_ ?_
                rotate_left
                · intro w' _
                  go_simp
                  with_reducible rfl
                rotate_left
                · simp only [Act.put, List.setIfInBounds_toArray, List.set_cons_zero, List.set_cons_succ, i64_w, i32_w]
                  rfl
                refine one_ (i := 4) (N := some 33) #[true, true, true, true, true, false] rfl rfl (by kernel_rfl) (by decide) (fun K hK => ?_)
                refine goes_ Tryd.func87 (by kernel_rfl) rfl #[.agg #[], .slice A13 (l1.drop (x10_1 : Int).toNat).length (c1 - x10_1.toNat)] (by rfl) rfl rfl (by (try simp only [List.map_toArray, List.map_cons, List.map_nil]); first | done | (rw [show (l1.drop (x10_1 : Int).toNat).length = (l1.length - x10_1.toNat) from List.length_drop] <;> rfl) | rfl | (simp only [List.length_drop, List.length_take]; rfl)) ?_
                with_reducible refine (binary_littleEndian_Uint64.calls () _ _ (l1.drop (x10_1 : Int).toNat) t301 _ ?side1 ?side2 A9.out).mono ?_
                (case side1 => repeat (first | exact (Kd.C_below HR300.out HB.out) | (with_reducible refine Kd.C_alloc ?_ _) | (with_reducible refine Kd.C_drewN ?_ _) | (with_reducible refine Kd.C_drew ?_)))
                (case side2 => exact HC300.out)
                rintro e w14 ⟨rfl, hb⟩
                refine ⟨_, rfl, ?_⟩
                have n0_ := Aside0.mk (blk_below (g := gb299) (o := .cells #[.bool a0_0, .bool a0_1, .int .i64 a0_2] 114 (0, 0)) (by (with_reducible repeat (first | refine blk_drewN ?_ _ | refine blk_drew ?_ | refine blk_alloc ?_ _)); exact BK299.out) hb)
                have n1_ := Aside0.mk (below_step (by repeat (first | (with_reducible first | exact HB.out | apply below_alloc | apply pw_below_drewN | apply below_drew1 | refine below_set ?_ GE299.out) | exact HB.out)) hb)
                clear BK299
                clear HB
                have BK299 := n0_
                have HB := n1_
                clear n0_ n1_
                (try clear hb)
                (try clear hb2)
                (try clear hk)
                (try clear hi)
                refine hK.out _ _ trivial (fun hHeld => ?_)
                clear hK K
                refine norm_ (a' := ?_) ?_ ?_
                rotate_left
                · show Act.put _ (some 33) _ = _
                  simp only [Act.put, List.setIfInBounds_toArray, List.set_cons_zero, List.set_cons_succ, i64_w, i32_w]
                  rfl
                refine pure_ (i := 5) (N := some 12) (v := ?_) (a' := ?_) #[true, true, true, true, true, true] rfl rfl (by kernel_rfl) (fun _ _ _ h => h) (Or.inl ⟨by rfl, ?_⟩) ?_ ?_
                rotate_left
                · intro w'
                  go_simp
                  with_reducible rfl
                rotate_left
                · simp only [Act.put, List.setIfInBounds_toArray, List.set_cons_zero, List.set_cons_succ, i64_w, i32_w]
                  rfl
                refine done_ (by kernel_rfl) ?_
                try go_wp2
                go_roundg k1
                case measure => have := HK1.out; omega
                case rel => exact ⟨(wrap64 (x10_1 + 8)), (by first | rfl | (simp; done) | (simp [*]; done)), H', ⟨by have := HK1.out; omega⟩, ⟨by (with_reducible repeat (first | refine blk_drewN ?_ _ | refine blk_drew ?_ | refine blk_alloc ?_ _)); exact BK299.out⟩, ⟨by repeat (first | (with_reducible first | exact HB.out | apply below_alloc | apply pw_below_drewN | apply below_drew1 | refine below_set ?_ GE299.out) | exact HB.out)⟩⟩
              · rw [if_neg c10] at H
                have c10b0 : ((Go.bits .or .u64 (Go.bits .and .u64 (Go.bits .and .u64 (IntKind.u64.wrap ((Go.bits .xor .u64 t301 (IntKind.u64.wrap ((IntKind.u64.wrap (a2)) * 72340172838076673))) - 72340172838076673)) (Go.bits .xor .u64 IntKind.u64.max (Go.bits .xor .u64 t301 (IntKind.u64.wrap ((IntKind.u64.wrap (a2)) * 72340172838076673))))) 9259542123273814144) (Go.bits .and .u64 (Go.bits .and .u64 (IntKind.u64.wrap ((Go.bits .xor .u64 t301 6655295901103053916) - 72340172838076673)) (Go.bits .xor .u64 IntKind.u64.max (Go.bits .xor .u64 t301 6655295901103053916))) 9259542123273814144)) == 0) = false := beq_eq_false_iff_ne.mpr c10
                have c10b1 : ((Go.bits .or .u64 (Go.bits .and .u64 (Go.bits .and .u64 (IntKind.u64.wrap ((Go.bits .xor .u64 t301 (IntKind.u64.wrap ((IntKind.u64.wrap (a2)) * 72340172838076673))) - 72340172838076673)) (Go.bits .xor .u64 IntKind.u64.max (Go.bits .xor .u64 t301 (IntKind.u64.wrap ((IntKind.u64.wrap (a2)) * 72340172838076673))))) 9259542123273814144) (Go.bits .and .u64 (Go.bits .and .u64 (IntKind.u64.wrap ((Go.bits .xor .u64 t301 6655295901103053916) - 72340172838076673)) (Go.bits .xor .u64 IntKind.u64.max (Go.bits .xor .u64 t301 6655295901103053916))) 9259542123273814144)) != 0) = true := bne_iff_ne.mpr c10
                have c10b2 : ((Go.bits .or .u64 (Go.bits .and .u64 (Go.bits .and .u64 (IntKind.u64.wrap ((Go.bits .xor .u64 t301 (IntKind.u64.wrap ((IntKind.u64.wrap (a2)) * 72340172838076673))) - 72340172838076673)) (Go.bits .xor .u64 (if IntKind.u64.signed = true then -1 else IntKind.u64.max) (Go.bits .xor .u64 t301 (IntKind.u64.wrap ((IntKind.u64.wrap (a2)) * 72340172838076673))))) 9259542123273814144) (Go.bits .and .u64 (Go.bits .and .u64 (IntKind.u64.wrap ((Go.bits .xor .u64 t301 6655295901103053916) - 72340172838076673)) (Go.bits .xor .u64 (if IntKind.u64.signed = true then -1 else IntKind.u64.max) (Go.bits .xor .u64 t301 6655295901103053916))) 9259542123273814144)) == 0) = false := beq_eq_false_iff_ne.mpr c10
                have c10b3 : ((Go.bits .or .u64 (Go.bits .and .u64 (Go.bits .and .u64 (IntKind.u64.wrap ((Go.bits .xor .u64 t301 (IntKind.u64.wrap ((IntKind.u64.wrap (a2)) * 72340172838076673))) - 72340172838076673)) (Go.bits .xor .u64 (if IntKind.u64.signed = true then -1 else IntKind.u64.max) (Go.bits .xor .u64 t301 (IntKind.u64.wrap ((IntKind.u64.wrap (a2)) * 72340172838076673))))) 9259542123273814144) (Go.bits .and .u64 (Go.bits .and .u64 (IntKind.u64.wrap ((Go.bits .xor .u64 t301 6655295901103053916) - 72340172838076673)) (Go.bits .xor .u64 (if IntKind.u64.signed = true then -1 else IntKind.u64.max) (Go.bits .xor .u64 t301 6655295901103053916))) 9259542123273814144)) != 0) = true := bne_iff_ne.mpr c10
                have H' := Aside0.mk H
                clear H
                try go_wp2
                have n0_ := Aside0.mk (blk_drew BK299.out)
                have n1_ := Aside0.mk (below_drew1 HB.out)
                clear BK299
                clear HB
                have BK299 := n0_
                have HB := n1_
                clear n0_ n1_
                obtain ⟨i017, hi017, _, hsz17, _⟩ := info_parts info5
                obtain ⟨A17, hcut17, hA17, hC17⟩ := print_drop_of (P := Tryd.prog) (Value.int .u8) 0 91 5 .i64 Tryd.underlying91 hi017 hsz17 A1 c1 l1 x10_1 (of_decide_eq_true (by first | (with_reducible assumption) | assumption)) (of_decide_eq_true (by first | (with_reducible assumption) | assumption)) HC1.out
                have HR300 := Aside0.mk (Kd.C_of_reads (h1 := fun _ => rfl) (hA17 _ (Kd.reads_of_C HR1.out)))
                have HC300 := Aside0.mk hC17
                clear hA17 hC17 hi017 hsz17
                refine start_ (n := 6) (S := fun w' => True) (ds := []) #[false, false, false, false, false, false] (by kernel_rfl) rfl rfl trivial (fun hHeld => ?_)
                generalize wr.drew = w15 at BK299 HB HR300 hHeld ⊢
                refine pure_ (i := 1) (N := some 30) (v := ?_) (a' := ?_) #[false, true, false, false, false, false] rfl rfl (by kernel_rfl) (fun _ _ _ h => h) (Or.inl ⟨by rfl, ?_⟩) ?_ ?_
                rotate_left
                · intro w'
                  go_simp
                  with_reducible rfl
                rotate_left
                · simp only [Act.put, List.setIfInBounds_toArray, List.set_cons_zero, List.set_cons_succ, i64_w, i32_w]
                  rfl
                refine pure_ (i := 2) (N := some 31) (v := ?_) (a' := ?_) #[false, true, true, false, false, false] rfl rfl (by kernel_rfl) (fun _ _ _ h => h) (Or.inl ⟨by rfl, ?_⟩) ?_ ?_
                rotate_left
                · intro w'
                  go_simp
                  with_reducible rfl
                rotate_left
                · simp only [Act.put, List.setIfInBounds_toArray, List.set_cons_zero, List.set_cons_succ, i64_w, i32_w]
                  rfl
                refine pure_ (i := 3) (N := some 32) (v := ?_) (a' := ?_) #[false, true, true, true, false, false] rfl rfl (by kernel_rfl) (fun _ _ _ h => h) (Or.inl ⟨by rfl, ?_⟩) ?_ ?_
                rotate_left
                · intro w'
                  go_simp
                  with_reducible rfl
                rotate_left
                · simp only [Act.put, List.setIfInBounds_toArray, List.set_cons_zero, List.set_cons_succ, i64_w, i32_w]
                  rfl
                refine take_ (i := 0) (N := some 29) (v := ?_) (a' := ?_) #[true, true, true, true, false, false] rfl rfl (by kernel_rfl) (fun _ _ _ h => h) (Or.inl ⟨by rfl, ?_⟩) hHeld ?_ ?_
                rotate_left
                · intro w' _
                  go_simp
                  with_reducible rfl
                rotate_left
                · simp only [Act.put, List.setIfInBounds_toArray, List.set_cons_zero, List.set_cons_succ, i64_w, i32_w]
                  rfl
                refine one_ (i := 4) (N := some 33) #[true, true, true, true, true, false] rfl rfl (by kernel_rfl) (by decide) (fun K hK => ?_)
                refine goes_ Tryd.func87 (by kernel_rfl) rfl #[.agg #[], .slice A17 (l1.drop (x10_1 : Int).toNat).length (c1 - x10_1.toNat)] (by rfl) rfl rfl (by (try simp only [List.map_toArray, List.map_cons, List.map_nil]); first | done | (rw [show (l1.drop (x10_1 : Int).toNat).length = (l1.length - x10_1.toNat) from List.length_drop] <;> rfl) | rfl | (simp only [List.length_drop, List.length_take]; rfl)) ?_
                with_reducible refine (binary_littleEndian_Uint64.calls () _ _ (l1.drop (x10_1 : Int).toNat) t301 _ ?side1 ?side2 A9.out).mono ?_
                (case side1 => repeat (first | exact (Kd.C_below HR300.out HB.out) | (with_reducible refine Kd.C_alloc ?_ _) | (with_reducible refine Kd.C_drewN ?_ _) | (with_reducible refine Kd.C_drew ?_)))
                (case side2 => exact HC300.out)
                rintro e w18 ⟨rfl, hb⟩
                refine ⟨_, rfl, ?_⟩
                have n0_ := Aside0.mk (blk_below (g := gb299) (o := .cells #[.bool a0_0, .bool a0_1, .int .i64 a0_2] 114 (0, 0)) (by (with_reducible repeat (first | refine blk_drewN ?_ _ | refine blk_drew ?_ | refine blk_alloc ?_ _)); exact BK299.out) hb)
                have n1_ := Aside0.mk (below_step (by repeat (first | (with_reducible first | exact HB.out | apply below_alloc | apply pw_below_drewN | apply below_drew1 | refine below_set ?_ GE299.out) | exact HB.out)) hb)
                clear BK299
                clear HB
                have BK299 := n0_
                have HB := n1_
                clear n0_ n1_
                (try clear hb)
                (try clear hb2)
                (try clear hk)
                (try clear hi)
                refine hK.out _ _ trivial (fun hHeld => ?_)
                clear hK K
                refine norm_ (a' := ?_) ?_ ?_
                rotate_left
                · show Act.put _ (some 33) _ = _
                  simp only [Act.put, List.setIfInBounds_toArray, List.set_cons_zero, List.set_cons_succ, i64_w, i32_w]
                  rfl
                refine pure_ (i := 5) (N := some 12) (v := ?_) (a' := ?_) #[true, true, true, true, true, true] rfl rfl (by kernel_rfl) (fun _ _ _ h => h) (Or.inl ⟨by rfl, ?_⟩) ?_ ?_
                rotate_left
                · intro w'
                  go_simp
                  with_reducible rfl
                rotate_left
                · simp only [Act.put, List.setIfInBounds_toArray, List.set_cons_zero, List.set_cons_succ, i64_w, i32_w]
                  rfl
                refine done_ (by kernel_rfl) ?_
                try go_wp2
                go_meet
                case rel => exact ⟨_, (x10_1), (by first | rfl | (simp; done) | (simp [*]; done)), H', ⟨by have := HK1.out; first | omega | exact Nat.le_refl _⟩, ⟨by (with_reducible repeat (first | refine blk_drewN ?_ _ | refine blk_drew ?_ | refine blk_alloc ?_ _)); exact BK299.out⟩, ⟨by repeat (first | (with_reducible first | exact HB.out | apply below_alloc | apply pw_below_drewN | apply below_drew1 | refine below_set ?_ GE299.out) | exact HB.out)⟩⟩
            · rw [if_neg c8] at H
              exact absurd H (by simp)
          · rw [if_neg c7] at H
            exact absurd H (by simp)
        · rw [if_neg c6] at H
          have c6b0 : decide ((wrap64 (x10_1 + 8)) ≤ (l1.length : Int)) = false := decide_eq_false c6
          clear c6
          (first | rw [c6b0] | (simp only [i64_w, i32_w]; rw [c6b0]) | skip)
          have H' := Aside0.mk H
          clear H
          go_wp2
          go_meet
          case rel => exact ⟨_, (x10_1), (by first | rfl | (simp; done) | (simp [*]; done)), H', ⟨by have := HK1.out; first | omega | exact Nat.le_refl _⟩, ⟨by (with_reducible repeat (first | refine blk_drewN ?_ _ | refine blk_drew ?_ | refine blk_alloc ?_ _)); exact BK299.out⟩, ⟨by repeat (first | (with_reducible first | exact HB.out | apply below_alloc | apply pw_below_drewN | apply below_drew1 | refine below_set ?_ GE299.out) | exact HB.out)⟩⟩
  case rest =>
    clear HC4
    try clear c1
    try clear p2
    try clear c6
    try clear c6b0
    try clear p6
    try clear c7
    try clear c7b0
    try clear c7b1
    try clear c8
    try clear c8b0
    try clear c8b1
    try clear c10
    try clear c10b0
    try clear c10b1
    try clear c10b2
    try clear p2
    obtain ⟨kq, x10_3, rfl, HA, HJ3, BK299, HB⟩ := hcut
    cases kq with
    | zero => exact absurd HA.out (by simp [jsonparser_stringEndConfig.j1])
    | succ kj3 =>
      have H := HA.out
      clear HA
      simp only [jsonparser_stringEndConfig.j1] at H
      have H' := Aside0.mk H
      clear H
      go_wp2
      (try simp only [Act.put, List.setIfInBounds_toArray, List.set_cons_zero, List.set_cons_succ])
      go_loopg [10, 17] kj3 (fun kq v10 v17 w' => ∃ (x10_2 : Int) (x17_2 : Bool), v10 = .int .i64 x10_2 ∧ v17 = .bool x17_2 ∧ Aside0 (jsonparser_stringEndConfig.l1 kq l1 a2 x10_2 (l1.length : Int) x17_2 = some (r1, r2)) ∧ Aside0 (kq ≤ kj3) ∧ Aside0 (w'.heap[gb299]? = some (.cells #[.bool a0_0, .bool a0_1, .int .i64 a0_2] 114 (0, 0))) ∧ Aside0 (Below w.heap.size w w'))
      case atStart => exact ⟨(x10_3), (false), (by first | rfl | (simp; done) | (simp [*]; done)), (by first | rfl | (simp; done) | (simp [*]; done)), H', ⟨Nat.le_refl _⟩, ⟨by (with_reducible repeat (first | refine blk_drewN ?_ _ | refine blk_drew ?_ | refine blk_alloc ?_ _)); exact BK299.out⟩, ⟨by repeat (first | (with_reducible first | exact HB.out | apply below_alloc | apply pw_below_drewN | apply below_drew1 | refine below_set ?_ GE299.out) | exact HB.out)⟩⟩
      case round =>
        clear H'
        try clear c1
        try clear p2
        try clear c6
        try clear c6b0
        try clear p6
        try clear c7
        try clear c7b0
        try clear c7b1
        try clear c8
        try clear c8b0
        try clear c8b1
        try clear c10
        try clear c10b0
        try clear c10b1
        try clear c10b2
        try clear p2
        try clear p6
        obtain ⟨x10_2, x17_2, rfl, rfl, HA, HK2, BK299, HB⟩ := hrel
        cases gk with
        | zero => exact absurd HA.out (by simp [jsonparser_stringEndConfig.l1])
        | succ k2 =>
          have H := HA.out
          clear HA
          simp only [jsonparser_stringEndConfig.l1] at H
          by_cases c19 : x10_2 < (l1.length : Int)
          · rw [if_pos c19] at H
            have c19b0 : decide (x10_2 < (l1.length : Int)) = true := decide_eq_true c19
            clear c19
            by_cases c20 : 0 ≤ x10_2
            · rw [if_pos c20] at H
              have c20b0 : decide (0 ≤ x10_2) = true := decide_eq_true c20
              clear c20
              by_cases c21 : x10_2 < (l1.length : Int)
              · rw [if_pos c21] at H
                have c21b0 : decide (x10_2 < (l1.length : Int)) = true := decide_eq_true c21
                clear c21
                by_cases c22 : (rd l1 x10_2) > 92
                · rw [if_pos c22] at H
                  have c22b0 : decide (92 < (rd l1 x10_2)) = true := decide_eq_true c22
                  clear c22
                  have H' := Aside0.mk H
                  clear H
                  have p302 : 0 ≤ (x10_2 : Int) := of_decide_eq_true (by first | (with_reducible assumption) | assumption)
                  have q302 : x10_2 < (l1.length : Int) := of_decide_eq_true (by first | (with_reducible assumption) | assumption)
                  obtain ⟨ad302, e302, hx302_0⟩ := Kd.at_int HR1.out x10_2 p302 q302
                  cases e302
                  replace hx302_0 := (HB.out.cell (World.block_lt_of_cell? w _ hx302_0)).trans hx302_0
                  replace p302 := eq_true p302
                  replace q302 := eq_true q302
                  go_wp2
                  go_roundg k2
                  case measure => have := HJ3.out; have := HK2.out; omega
                  case rel => exact ⟨(wrap64 (x10_2 + 1)), (x17_2), (by first | rfl | (simp; done) | (simp [*]; done)), (by first | rfl | (simp; done) | (simp [*]; done)), H', ⟨by have := HJ3.out; have := HK2.out; omega⟩, ⟨by (with_reducible repeat (first | refine blk_drewN ?_ _ | refine blk_drew ?_ | refine blk_alloc ?_ _)); exact BK299.out⟩, ⟨by repeat (first | (with_reducible first | exact HB.out | apply below_alloc | apply pw_below_drewN | apply below_drew1 | refine below_set ?_ GE299.out) | exact HB.out)⟩⟩
                · rw [if_neg c22] at H
                  have c22b0 : decide (92 < (rd l1 x10_2)) = false := decide_eq_false c22
                  clear c22
                  by_cases c23 : (rd l1 x10_2) = a2
                  · rw [if_pos c23] at H
                    have c23b0 : ((rd l1 x10_2) == a2) = true := beq_iff_eq.mpr c23
                    have c23b1 : ((rd l1 x10_2) != a2) = false := bne_eq_false_iff_eq.mpr c23
                    clear c23
                    by_cases c24 : x17_2 = true
                    · subst c24
                      have H1 : (jsonparser_stringEndConfig.l2 k2 l1 a2 x10_2 (l1.length : Int) true (wrap64 (x10_2 - 1))) = some (r1, r2) := by rw [if_pos rfl] at H; exact H
                      clear H
                      have H := H1
                      clear H1
                      have H' := Aside0.mk H
                      clear H
                      have p302 : 0 ≤ (x10_2 : Int) := of_decide_eq_true (by first | (with_reducible assumption) | assumption)
                      have q302 : x10_2 < (l1.length : Int) := of_decide_eq_true (by first | (with_reducible assumption) | assumption)
                      obtain ⟨ad302, e302, hx302_0⟩ := Kd.at_int HR1.out x10_2 p302 q302
                      cases e302
                      replace hx302_0 := (HB.out.cell (World.block_lt_of_cell? w _ hx302_0)).trans hx302_0
                      replace p302 := eq_true p302
                      replace q302 := eq_true q302
                      have p303 : 0 ≤ (x10_2 : Int) := of_decide_eq_true (by first | (with_reducible assumption) | assumption)
                      have q303 : x10_2 < (l1.length : Int) := of_decide_eq_true (by first | (with_reducible assumption) | assumption)
                      obtain ⟨ad303, e303, hx303_0⟩ := Kd.at_int HR1.out x10_2 p303 q303
                      obtain rfl : ad302 = ad303 := (by injection e303)
                      replace hx303_0 := (HB.out.cell (World.block_lt_of_cell? w _ hx303_0)).trans hx303_0
                      replace p303 := eq_true p303
                      replace q303 := eq_true q303
                      go_wp2
                      (try simp only [Act.put, List.setIfInBounds_toArray, List.set_cons_zero, List.set_cons_succ])
                      go_loopg [19] k2 (fun kq v19 w' => ∃ (x19_3 : Int), v19 = .int .i64 x19_3 ∧ Aside0 (jsonparser_stringEndConfig.l2 kq l1 a2 x10_2 (l1.length : Int) true x19_3 = some (r1, r2)) ∧ Aside0 (kq ≤ k2) ∧ Aside0 (w'.heap[gb299]? = some (.cells #[.bool a0_0, .bool a0_1, .int .i64 a0_2] 114 (0, 0))) ∧ Aside0 (Below w.heap.size w w'))
                      case atStart => exact ⟨(wrap64 (x10_2 - 1)), (by first | rfl | (simp; done) | (simp [*]; done)), H', ⟨Nat.le_refl _⟩, ⟨by (with_reducible repeat (first | refine blk_drewN ?_ _ | refine blk_drew ?_ | refine blk_alloc ?_ _)); exact BK299.out⟩, ⟨by repeat (first | (with_reducible first | exact HB.out | apply below_alloc | apply pw_below_drewN | apply below_drew1 | refine below_set ?_ GE299.out) | exact HB.out)⟩⟩
                      case round =>
                        clear H'
                        try clear c1
                        try clear c2
                        try clear p2
                        try clear p3
                        try clear q3
                        try clear hx3
                        try clear c6
                        try clear c6b0
                        try clear p6
                        try clear c7
                        try clear c7b0
                        try clear c7b1
                        try clear c8
                        try clear c8b0
                        try clear c8b1
                        try clear c10
                        try clear c10b0
                        try clear c10b1
                        try clear c10b2
                        try clear c19
                        try clear c19b0
                        try clear c20
                        try clear c20b0
                        try clear c21
                        try clear c21b0
                        try clear c22
                        try clear c22b0
                        try clear c23
                        try clear c23b0
                        try clear c23b1
                        try clear c24
                        try clear hx302_0
                        try clear hx303_0
                        try clear p2
                        try clear p302
                        try clear p303
                        try clear p6
                        try clear q302
                        try clear q303
                        obtain ⟨x19_3, rfl, HA, HK3, BK299, HB⟩ := hrel
                        cases gk with
                        | zero => exact absurd HA.out (by simp [jsonparser_stringEndConfig.l2])
                        | succ k3 =>
                          have H := HA.out
                          clear HA
                          simp only [jsonparser_stringEndConfig.l2] at H
                          have HC25 := Aside0.mk H
                          clear H
                          go_upto_region 22 with (fail)
                          go_cut [89] (fun v89 wc => ∃ (kq : Nat) (x89_24 : Bool), v89 = .bool x89_24 ∧ Aside0 (jsonparser_stringEndConfig.j4 kq l1 a2 x10_2 (l1.length : Int) true x19_3 x89_24 = some (r1, r2)) ∧ Aside0 (kq ≤ k3) ∧ Aside0 (wc.heap[gb299]? = some (.cells #[.bool a0_0, .bool a0_1, .int .i64 a0_2] 114 (0, 0))) ∧ Aside0 (Below w.heap.size w wc))
                          case first =>
                            have H := HC25.out
                            clear HC25
                            by_cases c26 : x19_3 < 0
                            · rw [if_pos c26] at H
                              have c26b0 : decide (x19_3 < 0) = true := decide_eq_true c26
                              clear c26
                              (first | rw [c26b0] | (simp only [i64_w, i32_w]; rw [c26b0]) | skip)
                              have H' := Aside0.mk H
                              clear H
                              go_wp2
                              go_meet
                              case rel => exact ⟨_, (true), (by first | rfl | (simp; done) | (simp [*]; done)), H', ⟨by have := HJ3.out; have := HK2.out; have := HK3.out; first | omega | exact Nat.le_refl _⟩, ⟨by (with_reducible repeat (first | refine blk_drewN ?_ _ | refine blk_drew ?_ | refine blk_alloc ?_ _)); exact BK299.out⟩, ⟨by repeat (first | (with_reducible first | exact HB.out | apply below_alloc | apply pw_below_drewN | apply below_drew1 | refine below_set ?_ GE299.out) | exact HB.out)⟩⟩
                            · rw [if_neg c26] at H
                              have c26b0 : decide (x19_3 < 0) = false := decide_eq_false c26
                              clear c26
                              (first | rw [c26b0] | (simp only [i64_w, i32_w]; rw [c26b0]) | skip)
                              by_cases c27 : 0 ≤ x19_3
                              · rw [if_pos c27] at H
                                have c27b0 : decide (0 ≤ x19_3) = true := decide_eq_true c27
                                clear c27
                                by_cases c28 : x19_3 < (l1.length : Int)
                                · rw [if_pos c28] at H
                                  have c28b0 : decide (x19_3 < (l1.length : Int)) = true := decide_eq_true c28
                                  clear c28
                                  have H' := Aside0.mk H
                                  clear H
                                  have p304 : 0 ≤ (x19_3 : Int) := of_decide_eq_true (by first | (with_reducible assumption) | assumption)
                                  have q304 : x19_3 < (l1.length : Int) := of_decide_eq_true (by first | (with_reducible assumption) | assumption)
                                  obtain ⟨ad304, e304, hx304_0⟩ := Kd.at_int HR1.out x19_3 p304 q304
                                  obtain rfl : ad302 = ad304 := (by injection e304)
                                  replace hx304_0 := (HB.out.cell (World.block_lt_of_cell? w _ hx304_0)).trans hx304_0
                                  replace p304 := eq_true p304
                                  replace q304 := eq_true q304
                                  go_wp2
                                  go_meet
                                  case rel => exact ⟨_, (((rd l1 x19_3) != 92)), (by first | rfl | (simp; done) | (simp [*]; done)), H', ⟨by have := HJ3.out; have := HK2.out; have := HK3.out; first | omega | exact Nat.le_refl _⟩, ⟨by (with_reducible repeat (first | refine blk_drewN ?_ _ | refine blk_drew ?_ | refine blk_alloc ?_ _)); exact BK299.out⟩, ⟨by repeat (first | (with_reducible first | exact HB.out | apply below_alloc | apply pw_below_drewN | apply below_drew1 | refine below_set ?_ GE299.out) | exact HB.out)⟩⟩
                                · rw [if_neg c28] at H
                                  exact absurd H (by simp)
                              · rw [if_neg c27] at H
                                exact absurd H (by simp)
                          case rest =>
                            clear HC25
                            try clear c1
                            try clear c2
                            try clear p2
                            try clear p3
                            try clear q3
                            try clear hx3
                            try clear c6
                            try clear c6b0
                            try clear p6
                            try clear c7
                            try clear c7b0
                            try clear c7b1
                            try clear c8
                            try clear c8b0
                            try clear c8b1
                            try clear c10
                            try clear c10b0
                            try clear c10b1
                            try clear c10b2
                            try clear c19
                            try clear c19b0
                            try clear c20
                            try clear c20b0
                            try clear c21
                            try clear c21b0
                            try clear c22
                            try clear c22b0
                            try clear c23
                            try clear c23b0
                            try clear c23b1
                            try clear c24
                            try clear c26
                            try clear c26b0
                            try clear c27
                            try clear c27b0
                            try clear c28
                            try clear c28b0
                            try clear hx302_0
                            try clear hx303_0
                            try clear hx304_0
                            try clear p2
                            try clear p3
                            try clear p302
                            try clear p303
                            try clear p304
                            try clear p6
                            try clear q3
                            try clear q302
                            try clear q303
                            try clear q304
                            obtain ⟨kq, x89_24, rfl, HA, HJ24, BK299, HB⟩ := hcut
                            cases kq with
                            | zero => exact absurd HA.out (by simp [jsonparser_stringEndConfig.j4])
                            | succ kj24 =>
                              have H := HA.out
                              clear HA
                              simp only [jsonparser_stringEndConfig.j4] at H
                              by_cases c29 : x89_24 = true
                              · subst c29
                                have H1 : (some (wrap64 (x10_2 + 1), true)) = some (r1, r2) := by rw [if_pos rfl] at H; exact H
                                clear H
                                have H := H1
                                clear H1
                                simp only [Option.some.injEq, Prod.mk.injEq] at H
                                obtain ⟨rfl, rfl⟩ := H
                                go_wp2
                                go_ret2
                                exact ⟨by first | rfl | (simp [errW_none, errW_some] <;> rfl) | (simp [*, errW_none, errW_some] <;> rfl), by repeat (first | (with_reducible first | exact HB.out | apply below_alloc | apply pw_below_drewN | apply below_drew1 | refine below_set ?_ GE299.out) | exact HB.out)⟩
                              · replace c29 := Bool.eq_false_iff.mpr c29
                                subst c29
                                have H1 : (if (wrap64 (x19_3 - 1)) < 0 then (jsonparser_stringEndConfig.l1 kj24 l1 a2 (wrap64 (x10_2 + 1)) (l1.length : Int) true) else (if 0 ≤ (wrap64 (x19_3 - 1)) then (if (wrap64 (x19_3 - 1)) < (l1.length : Int) then (if (rd l1 (wrap64 (x19_3 - 1))) = 92 then (jsonparser_stringEndConfig.l2 kj24 l1 a2 x10_2 (l1.length : Int) true (wrap64 ((wrap64 (x19_3 - 1)) - 1))) else (jsonparser_stringEndConfig.l1 kj24 l1 a2 (wrap64 (x10_2 + 1)) (l1.length : Int) true)) else (none)) else (none))) = some (r1, r2) := by rw [if_neg (show ¬ (false = true) by decide)] at H; exact H
                                clear H
                                have H := H1
                                clear H1
                                by_cases c30 : (wrap64 (x19_3 - 1)) < 0
                                · rw [if_pos c30] at H
                                  have c30b0 : decide ((wrap64 (x19_3 - 1)) < 0) = true := decide_eq_true c30
                                  clear c30
                                  have H' := Aside0.mk H
                                  clear H
                                  go_wp2
                                  go_roundg kj24
                                  case measure => have := HJ3.out; have := HK2.out; have := HK3.out; have := HJ24.out; omega
                                  case rel => exact ⟨(wrap64 (x10_2 + 1)), (true), (by first | rfl | (simp; done) | (simp [*]; done)), (by first | rfl | (simp; done) | (simp [*]; done)), H', ⟨by have := HJ3.out; have := HK2.out; have := HK3.out; have := HJ24.out; omega⟩, ⟨by (with_reducible repeat (first | refine blk_drewN ?_ _ | refine blk_drew ?_ | refine blk_alloc ?_ _)); exact BK299.out⟩, ⟨by repeat (first | (with_reducible first | exact HB.out | apply below_alloc | apply pw_below_drewN | apply below_drew1 | refine below_set ?_ GE299.out) | exact HB.out)⟩⟩
                                · rw [if_neg c30] at H
                                  have c30b0 : decide ((wrap64 (x19_3 - 1)) < 0) = false := decide_eq_false c30
                                  clear c30
                                  obtain ⟨ji31, hji31⟩ : ∃ j_ : Int, (wrap64 (x19_3 - 1)) = j_ := ⟨_, rfl⟩
                                  replace H : (if 0 ≤ (ji31) then (if (ji31) < (l1.length : Int) then (if (rd l1 (ji31)) = 92 then (jsonparser_stringEndConfig.l2 kj24 l1 a2 x10_2 (l1.length : Int) true (wrap64 ((ji31) - 1))) else (jsonparser_stringEndConfig.l1 kj24 l1 a2 (wrap64 (x10_2 + 1)) (l1.length : Int) true)) else (none)) else (none)) = some (r1, r2) := by first | (rw [hji31] at H; exact H) | (simp only [hji31] at H ⊢; exact H)
                                  (try rw [hji31] at c30b0)
                                  have hji31w : (IntKind.i64.wrap (x19_3 - 1)) = ji31 := (i64_w _).trans hji31
                                  by_cases c32 : 0 ≤ (ji31)
                                  · rw [if_pos c32] at H
                                    have c32b0 : decide (0 ≤ (ji31)) = true := decide_eq_true c32
                                    clear c32
                                    by_cases c33 : (ji31) < (l1.length : Int)
                                    · rw [if_pos c33] at H
                                      have c33b0 : decide ((ji31) < (l1.length : Int)) = true := decide_eq_true c33
                                      clear c33
                                      by_cases c34 : (rd l1 (ji31)) = 92
                                      · rw [if_pos c34] at H
                                        have c34b0 : ((rd l1 (ji31)) == 92) = true := beq_iff_eq.mpr c34
                                        have c34b1 : ((rd l1 (ji31)) != 92) = false := bne_eq_false_iff_eq.mpr c34
                                        clear c34
                                        have H' := Aside0.mk H
                                        clear H
                                        have p305 : 0 ≤ ((ji31) : Int) := of_decide_eq_true (by first | (with_reducible assumption) | assumption)
                                        have q305 : (ji31) < (l1.length : Int) := of_decide_eq_true (by first | (with_reducible assumption) | assumption)
                                        obtain ⟨ad305, e305, hx305_0⟩ := Kd.at_int HR1.out (ji31) p305 q305
                                        obtain rfl : ad302 = ad305 := (by injection e305)
                                        replace hx305_0 := (HB.out.cell (World.block_lt_of_cell? w _ hx305_0)).trans hx305_0
                                        replace p305 := eq_true p305
                                        replace q305 := eq_true q305
                                        go_wp2
                                        go_roundg kj24
                                        case measure => have := HJ3.out; have := HK2.out; have := HK3.out; have := HJ24.out; omega
                                        case rel => exact ⟨(wrap64 ((ji31) - 1)), (by first | rfl | (simp; done) | (simp only [← hji31] <;> (first | rfl | (simp; done))) | (simp [*]; done) | (simp only [*]; done)), H', ⟨by have := HJ3.out; have := HK2.out; have := HK3.out; have := HJ24.out; omega⟩, ⟨by (with_reducible repeat (first | refine blk_drewN ?_ _ | refine blk_drew ?_ | refine blk_alloc ?_ _)); exact BK299.out⟩, ⟨by repeat (first | (with_reducible first | exact HB.out | apply below_alloc | apply pw_below_drewN | apply below_drew1 | refine below_set ?_ GE299.out) | exact HB.out)⟩⟩
                                      · rw [if_neg c34] at H
                                        have c34b0 : ((rd l1 (ji31)) == 92) = false := beq_eq_false_iff_ne.mpr c34
                                        have c34b1 : ((rd l1 (ji31)) != 92) = true := bne_iff_ne.mpr c34
                                        have H' := Aside0.mk H
                                        clear H
                                        have p305 : 0 ≤ ((ji31) : Int) := of_decide_eq_true (by first | (with_reducible assumption) | assumption)
                                        have q305 : (ji31) < (l1.length : Int) := of_decide_eq_true (by first | (with_reducible assumption) | assumption)
                                        obtain ⟨ad305, e305, hx305_0⟩ := Kd.at_int HR1.out (ji31) p305 q305
                                        obtain rfl : ad302 = ad305 := (by injection e305)
                                        replace hx305_0 := (HB.out.cell (World.block_lt_of_cell? w _ hx305_0)).trans hx305_0
                                        replace p305 := eq_true p305
                                        replace q305 := eq_true q305
                                        go_wp2
                                        go_roundg kj24
                                        case measure => have := HJ3.out; have := HK2.out; have := HK3.out; have := HJ24.out; omega
                                        case rel => exact ⟨(wrap64 (x10_2 + 1)), (true), (by first | rfl | (simp; done) | (simp [*]; done)), (by first | rfl | (simp; done) | (simp [*]; done)), H', ⟨by have := HJ3.out; have := HK2.out; have := HK3.out; have := HJ24.out; omega⟩, ⟨by (with_reducible repeat (first | refine blk_drewN ?_ _ | refine blk_drew ?_ | refine blk_alloc ?_ _)); exact BK299.out⟩, ⟨by repeat (first | (with_reducible first | exact HB.out | apply below_alloc | apply pw_below_drewN | apply below_drew1 | refine below_set ?_ GE299.out) | exact HB.out)⟩⟩
                                    · rw [if_neg c33] at H
                                      exact absurd H (by simp)
                                  · rw [if_neg c32] at H
                                    exact absurd H (by simp)
                    · replace c24 := Bool.eq_false_iff.mpr c24
                      subst c24
                      have H1 : (some (wrap64 (x10_2 + 1), false)) = some (r1, r2) := by rw [if_neg (show ¬ (false = true) by decide)] at H; exact H
                      clear H
                      have H := H1
                      clear H1
                      simp only [Option.some.injEq, Prod.mk.injEq] at H
                      obtain ⟨rfl, rfl⟩ := H
                      have p302 : 0 ≤ (x10_2 : Int) := of_decide_eq_true (by first | (with_reducible assumption) | assumption)
                      have q302 : x10_2 < (l1.length : Int) := of_decide_eq_true (by first | (with_reducible assumption) | assumption)
                      obtain ⟨ad302, e302, hx302_0⟩ := Kd.at_int HR1.out x10_2 p302 q302
                      cases e302
                      replace hx302_0 := (HB.out.cell (World.block_lt_of_cell? w _ hx302_0)).trans hx302_0
                      replace p302 := eq_true p302
                      replace q302 := eq_true q302
                      have p303 : 0 ≤ (x10_2 : Int) := of_decide_eq_true (by first | (with_reducible assumption) | assumption)
                      have q303 : x10_2 < (l1.length : Int) := of_decide_eq_true (by first | (with_reducible assumption) | assumption)
                      obtain ⟨ad303, e303, hx303_0⟩ := Kd.at_int HR1.out x10_2 p303 q303
                      obtain rfl : ad302 = ad303 := (by injection e303)
                      replace hx303_0 := (HB.out.cell (World.block_lt_of_cell? w _ hx303_0)).trans hx303_0
                      replace p303 := eq_true p303
                      replace q303 := eq_true q303
                      go_wp2
                      go_ret2
                      exact ⟨by first | rfl | (simp [errW_none, errW_some] <;> rfl) | (simp [*, errW_none, errW_some] <;> rfl), by repeat (first | (with_reducible first | exact HB.out | apply below_alloc | apply pw_below_drewN | apply below_drew1 | refine below_set ?_ GE299.out) | exact HB.out)⟩
                  · rw [if_neg c23] at H
                    have c23b0 : ((rd l1 x10_2) == a2) = false := beq_eq_false_iff_ne.mpr c23
                    have c23b1 : ((rd l1 x10_2) != a2) = true := bne_iff_ne.mpr c23
                    by_cases c35 : (rd l1 x10_2) = 92
                    · rw [if_pos c35] at H
                      have c35b0 : ((rd l1 x10_2) == 92) = true := beq_iff_eq.mpr c35
                      have c35b1 : ((rd l1 x10_2) != 92) = false := bne_eq_false_iff_eq.mpr c35
                      clear c35
                      have H' := Aside0.mk H
                      clear H
                      have p302 : 0 ≤ (x10_2 : Int) := of_decide_eq_true (by first | (with_reducible assumption) | assumption)
                      have q302 : x10_2 < (l1.length : Int) := of_decide_eq_true (by first | (with_reducible assumption) | assumption)
                      obtain ⟨ad302, e302, hx302_0⟩ := Kd.at_int HR1.out x10_2 p302 q302
                      cases e302
                      replace hx302_0 := (HB.out.cell (World.block_lt_of_cell? w _ hx302_0)).trans hx302_0
                      replace p302 := eq_true p302
                      replace q302 := eq_true q302
                      have p303 : 0 ≤ (x10_2 : Int) := of_decide_eq_true (by first | (with_reducible assumption) | assumption)
                      have q303 : x10_2 < (l1.length : Int) := of_decide_eq_true (by first | (with_reducible assumption) | assumption)
                      obtain ⟨ad303, e303, hx303_0⟩ := Kd.at_int HR1.out x10_2 p303 q303
                      obtain rfl : ad302 = ad303 := (by injection e303)
                      replace hx303_0 := (HB.out.cell (World.block_lt_of_cell? w _ hx303_0)).trans hx303_0
                      replace p303 := eq_true p303
                      replace q303 := eq_true q303
                      go_wp2
                      go_roundg k2
                      case measure => have := HJ3.out; have := HK2.out; omega
                      case rel => exact ⟨(wrap64 (x10_2 + 1)), (true), (by first | rfl | (simp; done) | (simp [*]; done)), (by first | rfl | (simp; done) | (simp [*]; done)), H', ⟨by have := HJ3.out; have := HK2.out; omega⟩, ⟨by (with_reducible repeat (first | refine blk_drewN ?_ _ | refine blk_drew ?_ | refine blk_alloc ?_ _)); exact BK299.out⟩, ⟨by repeat (first | (with_reducible first | exact HB.out | apply below_alloc | apply pw_below_drewN | apply below_drew1 | refine below_set ?_ GE299.out) | exact HB.out)⟩⟩
                    · rw [if_neg c35] at H
                      have c35b0 : ((rd l1 x10_2) == 92) = false := beq_eq_false_iff_ne.mpr c35
                      have c35b1 : ((rd l1 x10_2) != 92) = true := bne_iff_ne.mpr c35
                      have H' := Aside0.mk H
                      clear H
                      have p302 : 0 ≤ (x10_2 : Int) := of_decide_eq_true (by first | (with_reducible assumption) | assumption)
                      have q302 : x10_2 < (l1.length : Int) := of_decide_eq_true (by first | (with_reducible assumption) | assumption)
                      obtain ⟨ad302, e302, hx302_0⟩ := Kd.at_int HR1.out x10_2 p302 q302
                      cases e302
                      replace hx302_0 := (HB.out.cell (World.block_lt_of_cell? w _ hx302_0)).trans hx302_0
                      replace p302 := eq_true p302
                      replace q302 := eq_true q302
                      have p303 : 0 ≤ (x10_2 : Int) := of_decide_eq_true (by first | (with_reducible assumption) | assumption)
                      have q303 : x10_2 < (l1.length : Int) := of_decide_eq_true (by first | (with_reducible assumption) | assumption)
                      obtain ⟨ad303, e303, hx303_0⟩ := Kd.at_int HR1.out x10_2 p303 q303
                      obtain rfl : ad302 = ad303 := (by injection e303)
                      replace hx303_0 := (HB.out.cell (World.block_lt_of_cell? w _ hx303_0)).trans hx303_0
                      replace p303 := eq_true p303
                      replace q303 := eq_true q303
                      go_wp2
                      go_roundg k2
                      case measure => have := HJ3.out; have := HK2.out; omega
                      case rel => exact ⟨(wrap64 (x10_2 + 1)), (x17_2), (by first | rfl | (simp; done) | (simp [*]; done)), (by first | rfl | (simp; done) | (simp [*]; done)), H', ⟨by have := HJ3.out; have := HK2.out; omega⟩, ⟨by (with_reducible repeat (first | refine blk_drewN ?_ _ | refine blk_drew ?_ | refine blk_alloc ?_ _)); exact BK299.out⟩, ⟨by repeat (first | (with_reducible first | exact HB.out | apply below_alloc | apply pw_below_drewN | apply below_drew1 | refine below_set ?_ GE299.out) | exact HB.out)⟩⟩
              · rw [if_neg c21] at H
                exact absurd H (by simp)
            · rw [if_neg c20] at H
              exact absurd H (by simp)
          · rw [if_neg c19] at H
            have c19b0 : decide (x10_2 < (l1.length : Int)) = false := decide_eq_false c19
            clear c19
            simp only [Option.some.injEq, Prod.mk.injEq] at H
            obtain ⟨rfl, rfl⟩ := H
            go_wp2
            go_ret2
            exact ⟨by first | rfl | (simp [errW_none, errW_some] <;> rfl) | (simp [*, errW_none, errW_some] <;> rfl), by repeat (first | (with_reducible first | exact HB.out | apply below_alloc | apply pw_below_drewN | apply below_drew1 | refine below_set ?_ GE299.out) | exact HB.out)⟩

/-! ### jsonparser_stringEnd: function 54 -/
def jsonparser_stringEnd.f (k : Nat) (l0 : List Int) : Option (Int × Bool) := (jsonparser_stringEndConfig.f k false false 0 l0 34).bind fun bt306 => (some (bt306.1, bt306.2))
theorem jsonparser_stringEnd.mono : ∀ a0 k, LeO (jsonparser_stringEnd.f k a0) (jsonparser_stringEnd.f (k + 1) a0) := by
  intro a0 k
  unfold jsonparser_stringEnd.f
  repeat' first
      | (with_reducible exact jsonparser_stringEndConfig.mono _ _ _ _ _ _)
      | (with_reducible exact LeO.refl _)
      | (with_reducible exact LeO.none _)
      | (with_reducible refine LeO.ite ?_ ?_)
      | (with_reducible refine LeO.bind ?_ (fun _ => ?_))
      | exact jsonparser_stringEndConfig.mono _ _ _ _ _ _
      | exact LeO.none _
      | refine LeO.ite ?_ ?_
      | refine LeO.bind ?_ (fun _ => ?_)
set_option maxHeartbeats 8000000 in
set_option maxRecDepth 100000 in
theorem jsonparser_stringEnd.calls (k : Nat) (A0 : Option Addr) (c0 : Nat) (l0 : List Int) (r1 : Int) (r2 : Bool) (w : World) (hL : Laid w) (hr0 : Kd.C (Kd.int .u8) w A0 l0.length l0) (hc0 : l0.length ≤ c0) (h : jsonparser_stringEnd.f k l0 = some (r1, r2)) :
    Calls Tryd.prog 54 #[.slice A0 l0.length c0] w fun e w' => e = .returned (.tuple #[.int .i64 r1, .bool r2]) ∧ Below w.heap.size w w' := by
  have hu114 := Tryd.underlying114
  have HR0 := Aside0.mk hr0
  have HC0 := Aside0.mk hc0
  clear hr0 hc0
  have HB := Aside0.mk (Below.refl w.heap.size w)
  have HLD := Aside0.mk hL
  clear hL
  have H : ((jsonparser_stringEndConfig.f k false false 0 l0 34).bind fun bt306 => (some (bt306.1, bt306.2))) = some (r1, r2) := h
  clear h
  replace H := Option.bind_eq_some_iff.mp H
  obtain ⟨⟨t306, t307⟩, A20, H⟩ := H
  replace H : (some (t306, t307)) = some (r1, r2) := H
  have A2 := Aside0.mk A20
  clear A20
  simp only [Option.some.injEq, Prod.mk.injEq] at H
  obtain ⟨rfl, rfl⟩ := H
  have hcz3_0 : w.cell? ⟨1, 0, none⟩ = some (.bool false) := Laid.g1_0 (Laid.below HLD.out (by repeat (first | (with_reducible first | exact HB.out | apply below_alloc | apply pw_below_drewN | apply below_drew1) | exact HB.out)))
  have hcz3_1 : w.cell? ⟨1, 1, none⟩ = some (.bool false) := Laid.g1_1 (Laid.below HLD.out (by repeat (first | (with_reducible first | exact HB.out | apply below_alloc | apply pw_below_drewN | apply below_drew1) | exact HB.out)))
  have hcz3_2 : w.cell? ⟨1, 2, none⟩ = some (.int .i64 0) := Laid.g1_2 (Laid.below HLD.out (by repeat (first | (with_reducible first | exact HB.out | apply below_alloc | apply pw_below_drewN | apply below_drew1) | exact HB.out)))
  go_enter Tryd.func54, Tryd.ntmps54
  go_wp2_with (first | ((with_reducible refine gate_callee (f := 71) rfl ?_); refine goesL_ (some 6) rfl rfl Tryd.func71 (by kernel_rfl) rfl #[.agg #[.bool false, .bool false, .int .i64 0], .slice A0 l0.length c0, .int .u8 34] rfl (by (try simp only [List.map_toArray, List.map_cons, List.map_nil]); first | done | rfl | (simp only [List.length_drop, List.length_take]; rfl)) ?_; (with_reducible refine (jsonparser_stringEndConfig.calls k false false 0 _ _ l0 34 t306 t307 _ ?side1 ?side2 ?side3 A2.out).mono ?_); (case side1 => exact Laid.below HLD.out (by repeat (first | (with_reducible first | exact HB.out | apply below_alloc | apply pw_below_drewN | apply below_drew1) | exact HB.out))); (case side2 => repeat (first | exact HR0.out | (with_reducible refine Kd.C_alloc ?_ _) | (with_reducible refine Kd.C_drewN ?_ _) | (with_reducible refine Kd.C_drew ?_))); (case side3 => exact HC0.out); rintro e w4 ⟨rfl, hb⟩; refine ⟨_, rfl, ?_⟩; have n0_ := Aside0.mk (below_step (by repeat (first | (with_reducible first | exact HB.out | apply below_alloc | apply pw_below_drewN | apply below_drew1) | exact HB.out)) hb); clear HB; have HB := n0_; clear n0_; (try clear hb); (try clear hb2); (try clear hk); (try clear hi)))
  go_ret2
  exact ⟨by first | rfl | (simp [errW_none, errW_some] <;> rfl) | (simp [*, errW_none, errW_some] <;> rfl), by repeat (first | (with_reducible first | exact HB.out | apply below_alloc | apply pw_below_drewN | apply below_drew1) | exact HB.out)⟩

end Go.Proofs.YtkdpkenhhcgnbaaDoor.PFnJpStringPlace
