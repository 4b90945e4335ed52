-- Written for this claim by this session's own program (wip/xprint).
import Derived.Test.YtikdecjojfmjaaaPFnSjPathx0
import Derived.Test.YtikdecjojfmjaaaPFnSjPathx2
namespace Go.Proofs.Ytikdecjojfmjaaa.PFnSjPath
open Go.RowKit Go.Proofs.YtikdecjojfmjaaaW.PrintWords Go.Proofs.YtikdecjojfmjaaaW.PrintLast Go.Proofs.YtikdecjojfmjaaaW.PrintMore
attribute [local go_sem] max2_int min2_int max_two min_two max_three min_three max_four min_four   -- for this text's walks alone
set_option linter.unusedVariables false
set_option linter.unusedSimpArgs false

/-! ### sjson_parsePath: function 53 -/
mutual
def sjson_parsePath.j0 : Nat → ByteArray → Bool → ByteArray → ByteArray → ByteArray → Bool → Bool → Option (ByteArray × ByteArray × ByteArray × Bool × Bool × Bool)
  | 0, _, _, _, _, _, _, _ => none
  | k + 1, x0, x15, x111000, x111001, x111002, x111003, x111004 => if x15 = true then (if 1 ≤ (x0.size : Int) then (sjson_parsePath.j1 k (x0.extract 1 x0.size) x111000 x111001 x111002 true x111004) else (none)) else (sjson_parsePath.j1 k x0 x111000 x111001 x111002 x111003 x111004)
def sjson_parsePath.j1 : Nat → ByteArray → ByteArray → ByteArray → ByteArray → Bool → Bool → Option (ByteArray × ByteArray × ByteArray × Bool × Bool × Bool)
  | 0, _, _, _, _, _, _ => none
  | k + 1, x0, x111000, x111001, x111002, x111003, x111004 => sjson_parsePath.l0 k x0 0 x111000 x111001 x111002 x111003 x111004
def sjson_parsePath.l0 : Nat → ByteArray → Int → ByteArray → ByteArray → ByteArray → Bool → Bool → Option (ByteArray × ByteArray × ByteArray × Bool × Bool × Bool)
  | 0, _, _, _, _, _, _, _ => none
  | k + 1, x0, x5, x111000, x111001, x111002, x111003, x111004 => if x5 < (x0.size : Int) then (if 0 ≤ x5 then (if (bt x0 x5) = 46 then (if x5 ≤ (x0.size : Int) then (if 0 ≤ (wrap64 (x5 + 1)) then (if (wrap64 (x5 + 1)) ≤ (x0.size : Int) then (some (x0.extract 0 (x5 : Int).toNat, x0.extract 0 (x5 : Int).toNat, x0.extract ((wrap64 (x5 + 1)) : Int).toNat x0.size, x111003, true, true)) else (none)) else (none)) else (none)) else ((sjson_isSimpleChar.f (bt x0 x5)).bind fun t111 => (if t111 = true then (if (bt x0 x5) = 92 then (if x5 ≤ (x0.size : Int) then (if (x0.extract 0 (x5 : Int).toNat).size ≤ 140737488355328 then ((some (bytesOf (x0.extract 0 (x5 : Int).toNat) : List Int)).bind fun y112 => (if 0 ≤ (wrap64 (x5 + 1)) then (if (wrap64 (x5 + 1)) ≤ (x0.size : Int) then (if (x0.extract 0 ((wrap64 (x5 + 1)) : Int).toNat).size ≤ 140737488355328 then ((some (bytesOf (x0.extract 0 ((wrap64 (x5 + 1)) : Int).toNat) : List Int)).bind fun y115 => (if (wrap64 (x5 + 1)) < (x0.size : Int) then (if y112.length < 140737488355328 then (if y115.length < 140737488355328 then (sjson_parsePath.l1 k x0 (wrap64 ((wrap64 (x5 + 1)) + 1)) (y112 ++ [bt x0 (wrap64 (x5 + 1))]) (y115 ++ [bt x0 (wrap64 (x5 + 1))]) x111000 x111001 x111002 x111003 x111004) else (none)) else (none)) else (some (strOfNums y112, strOfNums y115, x111002, x111003, x111004, true)))) else (none)) else (none)) else (none))) else (none)) else (none)) else (sjson_parsePath.l0 k x0 (wrap64 (x5 + 1)) x111000 x111001 x111002 x111003 x111004)) else (some (x111000, x111001, x111002, x111003, x111004, false))))) else (none)) else (some (x0, x0, x111002, x111003, x111004, true))
def sjson_parsePath.l1 : Nat → ByteArray → Int → List Int → List Int → ByteArray → ByteArray → ByteArray → Bool → Bool → Option (ByteArray × ByteArray × ByteArray × Bool × Bool × Bool)
  | 0, _, _, _, _, _, _, _, _, _ => none
  | k + 1, x0, x5, x6, x7, x111000, x111001, x111002, x111003, x111004 => if x5 < (x0.size : Int) then (if 0 ≤ x5 then (if (bt x0 x5) = 92 then (if x7.length < 140737488355328 then ((some (x7 ++ [92] : List Int)).bind fun y124 => (if (wrap64 (x5 + 1)) < (x0.size : Int) then (if 0 ≤ (wrap64 (x5 + 1)) then (if x6.length < 140737488355328 then (if y124.length < 140737488355328 then (sjson_parsePath.l1 k x0 (wrap64 ((wrap64 (x5 + 1)) + 1)) (x6 ++ [bt x0 (wrap64 (x5 + 1))]) (y124 ++ [bt x0 (wrap64 (x5 + 1))]) x111000 x111001 x111002 x111003 x111004) else (none)) else (none)) else (none)) else (sjson_parsePath.l1 k x0 (wrap64 ((wrap64 (x5 + 1)) + 1)) x6 y124 x111000 x111001 x111002 x111003 x111004))) else (none)) else (if (bt x0 x5) = 46 then (if 0 ≤ (wrap64 (x5 + 1)) then (if (wrap64 (x5 + 1)) ≤ (x0.size : Int) then (some (strOfNums x6, strOfNums x7, x0.extract ((wrap64 (x5 + 1)) : Int).toNat x0.size, x111003, true, true)) else (none)) else (none)) else ((sjson_isSimpleChar.f (bt x0 x5)).bind fun t133 => (if t133 = true then (if x6.length < 140737488355328 then (if x7.length < 140737488355328 then (sjson_parsePath.l1 k x0 (wrap64 (x5 + 1)) (x6 ++ [bt x0 x5]) (x7 ++ [bt x0 x5]) x111000 x111001 x111002 x111003 x111004) else (none)) else (none)) else (some (x111000, x111001, x111002, x111003, x111004, false)))))) else (none)) else (some (strOfNums x6, strOfNums x7, x111002, x111003, x111004, true))
end
def sjson_parsePath.f (k : Nat) (a0 : ByteArray) : Option (ByteArray × ByteArray × ByteArray × Bool × Bool × Bool) := if (a0.size : Int) > 0 then (if 0 < (a0.size : Int) then (sjson_parsePath.j0 k a0 ((bt a0 0) == 58) (⟨#[]⟩ : ByteArray) (⟨#[]⟩ : ByteArray) (⟨#[]⟩ : ByteArray) false false) else (none)) else (sjson_parsePath.j0 k a0 false (⟨#[]⟩ : ByteArray) (⟨#[]⟩ : ByteArray) (⟨#[]⟩ : ByteArray) false false)
theorem sjson_parsePath.mono_l : ∀ k, (∀ y0 y1 y2 y3 y4 y5 y6, LeO (sjson_parsePath.j0 k y0 y1 y2 y3 y4 y5 y6) (sjson_parsePath.j0 (k + 1) y0 y1 y2 y3 y4 y5 y6)) ∧ (∀ y0 y1 y2 y3 y4 y5, LeO (sjson_parsePath.j1 k y0 y1 y2 y3 y4 y5) (sjson_parsePath.j1 (k + 1) y0 y1 y2 y3 y4 y5)) ∧ (∀ y0 y1 y2 y3 y4 y5 y6, LeO (sjson_parsePath.l0 k y0 y1 y2 y3 y4 y5 y6) (sjson_parsePath.l0 (k + 1) y0 y1 y2 y3 y4 y5 y6)) ∧ (∀ y0 y1 y2 y3 y4 y5 y6 y7 y8, LeO (sjson_parsePath.l1 k y0 y1 y2 y3 y4 y5 y6 y7 y8) (sjson_parsePath.l1 (k + 1) y0 y1 y2 y3 y4 y5 y6 y7 y8))
  | 0 => ⟨fun _ _ _ _ _ _ _ r h => by simp [sjson_parsePath.j0] at h, fun _ _ _ _ _ _ r h => by simp [sjson_parsePath.j1] at h, fun _ _ _ _ _ _ _ r h => by simp [sjson_parsePath.l0] at h, fun _ _ _ _ _ _ _ _ _ r h => by simp [sjson_parsePath.l1] at h⟩
  | k + 1 => by
    obtain ⟨ih0, ih1, ih2, ih3⟩ := sjson_parsePath.mono_l k
    refine ⟨?_, ?_, ?_, ?_⟩
    · intro y0 y1 y2 y3 y4 y5 y6
      unfold sjson_parsePath.j0
      repeat' first
      | (with_reducible exact ih0 _ _ _ _ _ _ _)
      | (with_reducible exact ih1 _ _ _ _ _ _)
      | (with_reducible exact ih2 _ _ _ _ _ _ _)
      | (with_reducible exact ih3 _ _ _ _ _ _ _ _ _)
      | (with_reducible exact LeO.refl _)
      | (with_reducible exact LeO.none _)
      | (with_reducible refine LeO.ite ?_ ?_)
      | (with_reducible refine LeO.bind ?_ (fun _ => ?_))
      | exact ih0 _ _ _ _ _ _ _
      | exact ih1 _ _ _ _ _ _
      | exact ih2 _ _ _ _ _ _ _
      | exact ih3 _ _ _ _ _ _ _ _ _
      | exact LeO.none _
      | refine LeO.ite ?_ ?_
      | refine LeO.bind ?_ (fun _ => ?_)
    · intro y0 y1 y2 y3 y4 y5
      unfold sjson_parsePath.j1
      repeat' first
      | (with_reducible exact ih0 _ _ _ _ _ _ _)
      | (with_reducible exact ih1 _ _ _ _ _ _)
      | (with_reducible exact ih2 _ _ _ _ _ _ _)
      | (with_reducible exact ih3 _ _ _ _ _ _ _ _ _)
      | (with_reducible exact LeO.refl _)
      | (with_reducible exact LeO.none _)
      | (with_reducible refine LeO.ite ?_ ?_)
      | (with_reducible refine LeO.bind ?_ (fun _ => ?_))
      | exact ih0 _ _ _ _ _ _ _
      | exact ih1 _ _ _ _ _ _
      | exact ih2 _ _ _ _ _ _ _
      | exact ih3 _ _ _ _ _ _ _ _ _
      | exact LeO.none _
      | refine LeO.ite ?_ ?_
      | refine LeO.bind ?_ (fun _ => ?_)
    · intro y0 y1 y2 y3 y4 y5 y6
      unfold sjson_parsePath.l0
      repeat' first
      | (with_reducible exact ih0 _ _ _ _ _ _ _)
      | (with_reducible exact ih1 _ _ _ _ _ _)
      | (with_reducible exact ih2 _ _ _ _ _ _ _)
      | (with_reducible exact ih3 _ _ _ _ _ _ _ _ _)
      | (with_reducible exact LeO.refl _)
      | (with_reducible exact LeO.none _)
      | (with_reducible refine LeO.ite ?_ ?_)
      | (with_reducible refine LeO.bind ?_ (fun _ => ?_))
      | exact ih0 _ _ _ _ _ _ _
      | exact ih1 _ _ _ _ _ _
      | exact ih2 _ _ _ _ _ _ _
      | exact ih3 _ _ _ _ _ _ _ _ _
      | exact LeO.none _
      | refine LeO.ite ?_ ?_
      | refine LeO.bind ?_ (fun _ => ?_)
    · intro y0 y1 y2 y3 y4 y5 y6 y7 y8
      unfold sjson_parsePath.l1
      repeat' first
      | (with_reducible exact ih0 _ _ _ _ _ _ _)
      | (with_reducible exact ih1 _ _ _ _ _ _)
      | (with_reducible exact ih2 _ _ _ _ _ _ _)
      | (with_reducible exact ih3 _ _ _ _ _ _ _ _ _)
      | (with_reducible exact LeO.refl _)
      | (with_reducible exact LeO.none _)
      | (with_reducible refine LeO.ite ?_ ?_)
      | (with_reducible refine LeO.bind ?_ (fun _ => ?_))
      | exact ih0 _ _ _ _ _ _ _
      | exact ih1 _ _ _ _ _ _
      | exact ih2 _ _ _ _ _ _ _
      | exact ih3 _ _ _ _ _ _ _ _ _
      | exact LeO.none _
      | refine LeO.ite ?_ ?_
      | refine LeO.bind ?_ (fun _ => ?_)
theorem sjson_parsePath.mono : ∀ a0 k, LeO (sjson_parsePath.f k a0) (sjson_parsePath.f (k + 1) a0) := by
  intro a0 k
  obtain ⟨ih0, ih1, ih2, ih3⟩ := sjson_parsePath.mono_l k
  unfold sjson_parsePath.f
  repeat' first
      | (with_reducible exact ih0 _ _ _ _ _ _ _)
      | (with_reducible exact ih1 _ _ _ _ _ _)
      | (with_reducible exact ih2 _ _ _ _ _ _ _)
      | (with_reducible exact ih3 _ _ _ _ _ _ _ _ _)
      | (with_reducible exact LeO.refl _)
      | (with_reducible exact LeO.none _)
      | (with_reducible refine LeO.ite ?_ ?_)
      | (with_reducible refine LeO.bind ?_ (fun _ => ?_))
      | exact ih0 _ _ _ _ _ _ _
      | exact ih1 _ _ _ _ _ _
      | exact ih2 _ _ _ _ _ _ _
      | exact ih3 _ _ _ _ _ _ _ _ _
      | exact LeO.none _
      | refine LeO.ite ?_ ?_
      | refine LeO.bind ?_ (fun _ => ?_)
set_option maxHeartbeats 8000000 in
set_option maxRecDepth 100000 in
theorem sjson_parsePath.calls (k : Nat) (a0 : ByteArray) (r1 : ByteArray) (r2 : ByteArray) (r3 : ByteArray) (r4 : Bool) (r5 : Bool) (r6 : Bool) (w : World) (h : sjson_parsePath.f k a0 = some (r1, r2, r3, r4, r5, r6)) :
    Calls Try.prog 53 #[.string a0] w fun e w' => e = .returned (.tuple #[.agg #[.string r1, .string r2, .string r3, .bool r4, .bool r5], .bool r6]) ∧ Below w.heap.size w w' := by
  have hu76 := Try.underlying76
  have HB := Aside0.mk (Below.refl w.heap.size w)
  have H : (if (a0.size : Int) > 0 then (if 0 < (a0.size : Int) then (sjson_parsePath.j0 k a0 ((bt a0 0) == 58) (⟨#[]⟩ : ByteArray) (⟨#[]⟩ : ByteArray) (⟨#[]⟩ : ByteArray) false false) else (none)) else (sjson_parsePath.j0 k a0 false (⟨#[]⟩ : ByteArray) (⟨#[]⟩ : ByteArray) (⟨#[]⟩ : ByteArray) false false)) = some (r1, r2, r3, r4, r5, r6) := h
  clear h
  have HC2 := Aside0.mk H
  clear H
  go_enter Try.func53, Try.ntmps53
  go_upto_region 2 with (first | ((with_reducible refine gate_dst (N := 2) rfl ?_); refine box_event ?hg (N := 2) ?hd (cs := #[.string (⟨#[]⟩ : ByteArray), .string (⟨#[]⟩ : ByteArray), .string (⟨#[]⟩ : ByteArray), .bool false, .bool false]) (t := 76) ?hr ?_; (case hd => rfl); (case hg => rfl); (case hr => first | (go_simp; done) | (go_simp; rfl)); intro gb109 hg w3 hbox hb; have n0_ := Aside0.mk (below_step (by repeat (first | (with_reducible first | exact HB.out | apply below_alloc | apply pw_below_drewN | apply below_drew1) | exact HB.out)) hb); have n1_ := Aside0.mk (hbox); have n2_ := Aside0.mk ((by rw [hg]; exact (below_size (by repeat (first | (with_reducible first | exact HB.out | apply below_alloc | apply pw_below_drewN | apply below_drew1) | exact HB.out))) : w.heap.size ≤ gb109)); have n3_ := Aside0.mk ((by rw [hg]; exact (below_size (by repeat (first | (with_reducible first | exact HB.out | apply below_alloc | apply pw_below_drewN | apply below_drew1) | exact HB.out))) : w.heap.size ≤ gb109)); clear HB; have HB := n0_; have BK109 := n1_; have GW109 := n2_; have GE109 := n3_; clear n0_ n1_ n2_ n3_; clear hb hbox hg) | ((with_reducible refine gate_dst (N := 4) rfl ?_); refine box_event ?hg (N := 4) ?hd (cs := #[.string (⟨#[]⟩ : ByteArray), .string (⟨#[]⟩ : ByteArray), .string (⟨#[]⟩ : ByteArray), .bool false, .bool false]) (t := 76) ?hr ?_; (case hd => rfl); (case hg => rfl); (case hr => first | (go_simp; done) | (go_simp; rfl)); intro gb110 hg w4 hbox hb; have n0_ := Aside0.mk (blk_below (g := gb109) (o := .cells #[.string (⟨#[]⟩ : ByteArray), .string (⟨#[]⟩ : ByteArray), .string (⟨#[]⟩ : ByteArray), .bool false, .bool false] 76 (0, 0)) (by (with_reducible repeat (first | refine blk_drewN ?_ _ | refine blk_drew ?_ | refine blk_alloc ?_ _)); exact BK109.out) hb); have n1_ := Aside0.mk (below_step (by repeat (first | (with_reducible first | exact HB.out | apply below_alloc | apply pw_below_drewN | apply below_drew1 | refine below_set ?_ GE109.out) | exact HB.out)) hb); have n2_ := Aside0.mk (hbox); have n3_ := Aside0.mk ((by rw [hg]; exact (below_size (by repeat (first | (with_reducible first | exact HB.out | apply below_alloc | apply pw_below_drewN | apply below_drew1 | refine below_set ?_ GE109.out) | exact HB.out))) : w.heap.size ≤ gb110)); have n4_ := Aside0.mk ((by rw [hg]; exact (below_size (by repeat (first | (with_reducible first | exact HB.out | apply below_alloc | apply pw_below_drewN | apply below_drew1 | refine below_set ?_ GE109.out) | exact HB.out))) : w.heap.size ≤ gb110)); have n5_ := Aside0.mk ((by rw [hg]; exact Nat.ne_of_lt (blk_lt (g := gb109) (o := .cells #[.string (⟨#[]⟩ : ByteArray), .string (⟨#[]⟩ : ByteArray), .string (⟨#[]⟩ : ByteArray), .bool false, .bool false] 76 (0, 0)) (by (with_reducible repeat (first | refine blk_drewN ?_ _ | refine blk_drew ?_ | refine blk_alloc ?_ _)); exact BK109.out)) : gb109 ≠ gb110)); have n6_ := Aside0.mk ((by rw [hg]; exact Nat.ne_of_gt (blk_lt (g := gb109) (o := .cells #[.string (⟨#[]⟩ : ByteArray), .string (⟨#[]⟩ : ByteArray), .string (⟨#[]⟩ : ByteArray), .bool false, .bool false] 76 (0, 0)) (by (with_reducible repeat (first | refine blk_drewN ?_ _ | refine blk_drew ?_ | refine blk_alloc ?_ _)); exact BK109.out)) : gb110 ≠ gb109)); clear BK109; clear HB; have BK109 := n0_; have HB := n1_; have BK110 := n2_; have GW110 := n3_; have GE110 := n4_; have NB109_110 := n5_; have NB110_109 := n6_; clear n0_ n1_ n2_ n3_ n4_ n5_ n6_; clear hb hbox hg))
  (try simp only [Act.put, List.setIfInBounds_toArray, List.set_cons_zero, List.set_cons_succ])
  go_cut [15] (fun v15 wc => ∃ (kq : Nat) (x15_1 : Bool), v15 = .bool x15_1 ∧ Aside0 (sjson_parsePath.j0 kq a0 x15_1 (⟨#[]⟩ : ByteArray) (⟨#[]⟩ : ByteArray) (⟨#[]⟩ : ByteArray) false false = some (r1, r2, r3, r4, r5, r6)) ∧ Aside0 (kq ≤ k) ∧ Aside0 (wc.heap[gb109]? = some (.cells #[.string (⟨#[]⟩ : ByteArray), .string (⟨#[]⟩ : ByteArray), .string (⟨#[]⟩ : ByteArray), .bool false, .bool false] 76 (0, 0))) ∧ Aside0 (wc.heap[gb110]? = some (.cells #[.string (⟨#[]⟩ : ByteArray), .string (⟨#[]⟩ : ByteArray), .string (⟨#[]⟩ : ByteArray), .bool false, .bool false] 76 (0, 0))) ∧ Aside0 (Below w.heap.size w wc))
  case first =>
    have H := HC2.out
    clear HC2
    by_cases c5 : (a0.size : Int) > 0
    · rw [if_pos c5] at H
      have c5b0 : decide (0 < (a0.size : Int)) = true := decide_eq_true c5
      have c5b1 : decide (0 < a0.size) = true := decide_eq_true (by omega)
      clear c5
      (first | rw [c5b0] | (simp only [i64_w, i32_w]; rw [c5b0]) | skip)
      by_cases c6 : 0 < (a0.size : Int)
      · rw [if_pos c6] at H
        have c6b0 : decide (0 < (a0.size : Int)) = true := decide_eq_true c6
        have c6b1 : decide (0 < a0.size) = true := decide_eq_true (by omega)
        clear c6
        have H' := Aside0.mk H
        clear H
        have p7 : 0 ≤ (0 : Int) := (by omega)
        have q7 : 0 < a0.size := (by have : (0 : Int) < (a0.size : Int) := of_decide_eq_true (by first | (with_reducible assumption) | assumption); omega)
        have hx7 : ∀ h : 0 < a0.size, ((a0[0]'h).toNat : Int) = bt a0 0 := bt_at a0 0
        clear p7
        have qi7 : (0 < (a0.size : Int)) = True := eq_true (of_decide_eq_true (by first | (with_reducible assumption) | assumption))
        replace q7 := eq_true q7
        go_wp2
        go_meet
        case rel => exact ⟨_, (((bt a0 0) == 58)), (by first | rfl | (simp; done) | (simp [*]; done)), H', ⟨by first | omega | exact Nat.le_refl _⟩, ⟨by (with_reducible repeat (first | refine blk_drewN ?_ _ | refine blk_drew ?_ | refine blk_alloc ?_ _)); exact BK109.out⟩, ⟨by (with_reducible repeat (first | refine blk_drewN ?_ _ | refine blk_drew ?_ | refine blk_alloc ?_ _)); exact BK110.out⟩, ⟨by repeat (first | (with_reducible first | exact HB.out | apply below_alloc | apply pw_below_drewN | apply below_drew1 | refine below_set ?_ GE109.out | refine below_set ?_ GE110.out) | exact HB.out)⟩⟩
      · rw [if_neg c6] at H
        exact absurd H (by simp)
    · rw [if_neg c5] at H
      have c5b0 : decide (0 < (a0.size : Int)) = false := decide_eq_false c5
      have c5b1 : decide (0 < a0.size) = false := decide_eq_false (by omega)
      clear c5
      (first | rw [c5b0] | (simp only [i64_w, i32_w]; rw [c5b0]) | skip)
      have H' := Aside0.mk H
      clear H
      go_wp2
      go_meet
      case rel => exact ⟨_, (false), (by first | rfl | (simp; done) | (simp [*]; done)), H', ⟨by first | omega | exact Nat.le_refl _⟩, ⟨by (with_reducible repeat (first | refine blk_drewN ?_ _ | refine blk_drew ?_ | refine blk_alloc ?_ _)); exact BK109.out⟩, ⟨by (with_reducible repeat (first | refine blk_drewN ?_ _ | refine blk_drew ?_ | refine blk_alloc ?_ _)); exact BK110.out⟩, ⟨by repeat (first | (with_reducible first | exact HB.out | apply below_alloc | apply pw_below_drewN | apply below_drew1 | refine below_set ?_ GE109.out | refine below_set ?_ GE110.out) | exact HB.out)⟩⟩
  case rest =>
    clear HC2
    try clear p2
    try clear c5
    try clear c5b0
    try clear c5b1
    try clear c6
    try clear c6b0
    try clear c6b1
    try clear p7
    try clear q7
    try clear hx7
    try clear qi7
    try clear p7
    try clear q7
    obtain ⟨kq, x15_1, rfl, HA, HJ1, BK109, BK110, HB⟩ := hcut
    cases kq with
    | zero => exact absurd HA.out (by simp [sjson_parsePath.j0])
    | succ kj1 =>
      have H := HA.out
      clear HA
      simp only [sjson_parsePath.j0] at H
      have HC8 := Aside0.mk H
      clear H
      go_upto_if 15 with (fail)
      go_cut [0] (fun v0 wc => ∃ (kq : Nat) (x0_7 : ByteArray) (x111003_7 : Bool), v0 = .string x0_7 ∧ Aside0 (sjson_parsePath.j1 kq x0_7 (⟨#[]⟩ : ByteArray) (⟨#[]⟩ : ByteArray) (⟨#[]⟩ : ByteArray) x111003_7 false = some (r1, r2, r3, r4, r5, r6)) ∧ Aside0 (kq ≤ kj1) ∧ Aside0 (wc.heap[gb109]? = some (.cells #[.string (⟨#[]⟩ : ByteArray), .string (⟨#[]⟩ : ByteArray), .string (⟨#[]⟩ : ByteArray), .bool false, .bool false] 76 (0, 0))) ∧ Aside0 (wc.heap[gb110]? = some (.cells #[.string (⟨#[]⟩ : ByteArray), .string (⟨#[]⟩ : ByteArray), .string (⟨#[]⟩ : ByteArray), .bool x111003_7, .bool false] 76 (0, 0))) ∧ Aside0 (Below w.heap.size w wc))
      case first =>
        have H := HC8.out
        clear HC8
        by_cases c9 : x15_1 = true
        · subst c9
          have H1 : (if 1 ≤ (a0.size : Int) then (sjson_parsePath.j1 kj1 (a0.extract 1 a0.size) (⟨#[]⟩ : ByteArray) (⟨#[]⟩ : ByteArray) (⟨#[]⟩ : ByteArray) true false) else (none)) = some (r1, r2, r3, r4, r5, r6) := by rw [if_pos rfl] at H; exact H
          clear H
          have H := H1
          clear H1
          by_cases c10 : 1 ≤ (a0.size : Int)
          · rw [if_pos c10] at H
            have c10b0 := eq_true c10
            have c10b1 : decide (1 ≤ (a0.size : Int)) = true := decide_eq_true c10
            clear c10
            have H' := Aside0.mk H
            clear H
            have hnb11 := NB110_109.out
            have hnc11 := NB109_110.out
            have hcz12_0 : wc.cell? ⟨gb110, 0, none⟩ = some (.string (⟨#[]⟩ : ByteArray)) := (blk_cell BK110.out 0).trans rfl
            have hcz12_1 : wc.cell? ⟨gb110, 1, none⟩ = some (.string (⟨#[]⟩ : ByteArray)) := (blk_cell BK110.out 1).trans rfl
            have hcz12_2 : wc.cell? ⟨gb110, 2, none⟩ = some (.string (⟨#[]⟩ : ByteArray)) := (blk_cell BK110.out 2).trans rfl
            have hcz12_3 : wc.cell? ⟨gb110, 3, none⟩ = some (.bool false) := (blk_cell BK110.out 3).trans rfl
            have hcz12_4 : wc.cell? ⟨gb110, 4, none⟩ = some (.bool false) := (blk_cell BK110.out 4).trans rfl
            have hfz12_0 := blk_frozen BK110.out 0
            have hfz12_1 := blk_frozen BK110.out 1
            have hfz12_2 := blk_frozen BK110.out 2
            have hfz12_3 := blk_frozen BK110.out 3
            have hfz12_4 := blk_frozen BK110.out 4
            go_wp2
            go_meet
            case rel => exact ⟨_, (a0.extract 1 a0.size), (true), (by first | rfl | (simp; done) | (simp [*]; done)), H', ⟨by have := HJ1.out; first | omega | exact Nat.le_refl _⟩, ⟨by (with_reducible repeat (first | refine blk_drewN ?_ _ | refine blk_drew ?_ | refine blk_alloc ?_ _)); refine blk_far ?_ NB109_110.out _; (with_reducible repeat (first | refine blk_drewN ?_ _ | refine blk_drew ?_ | refine blk_alloc ?_ _)); exact BK109.out⟩, ⟨by (with_reducible repeat (first | refine blk_drewN ?_ _ | refine blk_drew ?_ | refine blk_alloc ?_ _)); refine blk_put (cs := #[.string (⟨#[]⟩ : ByteArray), .string (⟨#[]⟩ : ByteArray), .string (⟨#[]⟩ : ByteArray), .bool false, .bool false]) ?_ 3 _ rfl; (with_reducible repeat (first | refine blk_drewN ?_ _ | refine blk_drew ?_ | refine blk_alloc ?_ _)); exact BK110.out⟩, ⟨by repeat (first | (with_reducible first | exact HB.out | apply below_alloc | apply pw_below_drewN | apply below_drew1 | refine below_set ?_ GE109.out | refine below_set ?_ GE110.out) | exact HB.out)⟩⟩
          · rw [if_neg c10] at H
            exact absurd H (by simp)
        · replace c9 := Bool.eq_false_iff.mpr c9
          subst c9
          have H1 : (sjson_parsePath.j1 kj1 a0 (⟨#[]⟩ : ByteArray) (⟨#[]⟩ : ByteArray) (⟨#[]⟩ : ByteArray) false false) = some (r1, r2, r3, r4, r5, r6) := by rw [if_neg (show ¬ (false = true) by decide)] at H; exact H
          clear H
          have H := H1
          clear H1
          have H' := Aside0.mk H
          clear H
          go_wp2
          go_meet
          case rel => exact ⟨_, (a0), (false), (by first | rfl | (simp; done) | (simp [*]; done)), H', ⟨by have := HJ1.out; first | omega | exact Nat.le_refl _⟩, ⟨by (with_reducible repeat (first | refine blk_drewN ?_ _ | refine blk_drew ?_ | refine blk_alloc ?_ _)); exact BK109.out⟩, ⟨by (with_reducible repeat (first | refine blk_drewN ?_ _ | refine blk_drew ?_ | refine blk_alloc ?_ _)); exact BK110.out⟩, ⟨by repeat (first | (with_reducible first | exact HB.out | apply below_alloc | apply pw_below_drewN | apply below_drew1 | refine below_set ?_ GE109.out | refine below_set ?_ GE110.out) | exact HB.out)⟩⟩
      case rest =>
        clear HC8
        try clear c1
        try clear p2
        try clear c5
        try clear c5b0
        try clear c5b1
        try clear c6
        try clear c6b0
        try clear c6b1
        try clear p7
        try clear q7
        try clear hx7
        try clear qi7
        try clear c9
        try clear c10
        try clear c10b0
        try clear c10b1
        try clear c11
        try clear hcz12_0
        try clear hcz12_1
        try clear hcz12_2
        try clear hcz12_3
        try clear hcz12_4
        try clear hfz12_0
        try clear hfz12_1
        try clear hfz12_2
        try clear hfz12_3
        try clear hfz12_4
        try clear p2
        try clear p7
        try clear q7
        obtain ⟨kq, x0_7, x111003_7, rfl, HA, HJ7, BK109, BK110, HB⟩ := hcut
        cases kq with
        | zero => exact absurd HA.out (by simp [sjson_parsePath.j1])
        | succ kj7 =>
          have H := HA.out
          clear HA
          simp only [sjson_parsePath.j1] at H
          have H' := Aside0.mk H
          clear H
          go_wp2
          (try simp only [Act.put, List.setIfInBounds_toArray, List.set_cons_zero, List.set_cons_succ])
          go_loopg [5] kj7 (fun kq v5 w' => ∃ (x5_3 : Int) (x110000_3 : ByteArray) (x110001_3 : ByteArray) (x110002_3 : ByteArray) (x110003_3 : Bool) (x110004_3 : Bool) (x111000_3 : ByteArray) (x111001_3 : ByteArray) (x111002_3 : ByteArray) (x111004_3 : Bool), v5 = .int .i64 x5_3 ∧ Aside0 (sjson_parsePath.l0 kq x0_7 x5_3 x111000_3 x111001_3 x111002_3 x111003_7 x111004_3 = some (r1, r2, r3, r4, r5, r6)) ∧ Aside0 (kq ≤ kj7) ∧ Aside0 (w'.heap[gb109]? = some (.cells #[.string x110000_3, .string x110001_3, .string x110002_3, .bool x110003_3, .bool x110004_3] 76 (0, 0))) ∧ Aside0 (w'.heap[gb110]? = some (.cells #[.string x111000_3, .string x111001_3, .string x111002_3, .bool x111003_7, .bool x111004_3] 76 (0, 0))) ∧ Aside0 (Below w.heap.size w w'))
          case atStart => exact ⟨(0), ((⟨#[]⟩ : ByteArray)), ((⟨#[]⟩ : ByteArray)), ((⟨#[]⟩ : ByteArray)), (false), (false), ((⟨#[]⟩ : ByteArray)), ((⟨#[]⟩ : ByteArray)), ((⟨#[]⟩ : ByteArray)), (false), (by first | rfl | (simp; done) | (simp [*]; done)), H', ⟨Nat.le_refl _⟩, ⟨by (with_reducible repeat (first | refine blk_drewN ?_ _ | refine blk_drew ?_ | refine blk_alloc ?_ _)); exact BK109.out⟩, ⟨by (with_reducible repeat (first | refine blk_drewN ?_ _ | refine blk_drew ?_ | refine blk_alloc ?_ _)); exact BK110.out⟩, ⟨by repeat (first | (with_reducible first | exact HB.out | apply below_alloc | apply pw_below_drewN | apply below_drew1 | refine below_set ?_ GE109.out | refine below_set ?_ GE110.out) | exact HB.out)⟩⟩
          case round =>
            clear H'
            try clear c1
            try clear p2
            try clear c5
            try clear c5b0
            try clear c5b1
            try clear c6
            try clear c6b0
            try clear c6b1
            try clear p7
            try clear q7
            try clear hx7
            try clear qi7
            try clear c9
            try clear c10
            try clear c10b0
            try clear c10b1
            try clear c11
            try clear hcz12_0
            try clear hcz12_1
            try clear hcz12_2
            try clear hcz12_3
            try clear hcz12_4
            try clear hfz12_0
            try clear hfz12_1
            try clear hfz12_2
            try clear hfz12_3
            try clear hfz12_4
            try clear p2
            try clear p7
            try clear q7
            obtain ⟨x5_3, x110000_3, x110001_3, x110002_3, x110003_3, x110004_3, x111000_3, x111001_3, x111002_3, x111004_3, rfl, HA, HK3, BK109, BK110, HB⟩ := hrel
            cases gk with
            | zero => exact absurd HA.out (by simp [sjson_parsePath.l0])
            | succ k3 =>
              have H := HA.out
              clear HA
              simp only [sjson_parsePath.l0] at H
              by_cases c13 : x5_3 < (x0_7.size : Int)
              · rw [if_pos c13] at H
                have c13b0 : decide (x5_3 < (x0_7.size : Int)) = true := decide_eq_true c13
                clear c13
                by_cases c14 : 0 ≤ x5_3
                · rw [if_pos c14] at H
                  have c14b0 : decide (0 ≤ x5_3) = true := decide_eq_true c14
                  clear c14
                  by_cases c16 : (bt x0_7 x5_3) = 46
                  · rw [if_pos c16] at H
                    have c16b0 : ((bt x0_7 x5_3) == 46) = true := beq_iff_eq.mpr c16
                    have c16b1 : ((bt x0_7 x5_3) != 46) = false := bne_eq_false_iff_eq.mpr c16
                    clear c16
                    have c17b0 := eq_true (of_decide_eq_true (by first | (with_reducible assumption) | assumption) : 0 ≤ x5_3)
                    by_cases c18 : x5_3 ≤ (x0_7.size : Int)
                    · rw [if_pos c18] at H
                      have c18b0 := eq_true c18
                      have c18b1 : decide (x5_3 ≤ (x0_7.size : Int)) = true := decide_eq_true c18
                      clear c18
                      have c19b0 := eq_true (of_decide_eq_true (by first | (with_reducible assumption) | assumption) : 0 ≤ x5_3)
                      have c20b0 := eq_true (of_decide_eq_true (by first | (with_reducible assumption) | assumption) : x5_3 ≤ (x0_7.size : Int))
                      obtain ⟨ji21, hji21⟩ : ∃ j_ : Int, (wrap64 (x5_3 + 1)) = j_ := ⟨_, rfl⟩
                      replace H : (if 0 ≤ (ji21) then (if (ji21) ≤ (x0_7.size : Int) then (some (x0_7.extract 0 (x5_3 : Int).toNat, x0_7.extract 0 (x5_3 : Int).toNat, x0_7.extract ((ji21) : Int).toNat x0_7.size, x111003_7, true, true)) else (none)) else (none)) = some (r1, r2, r3, r4, r5, r6) := by first | (rw [hji21] at H; exact H) | (simp only [hji21] at H ⊢; exact H)
                      have hji21w : (IntKind.i64.wrap (x5_3 + 1)) = ji21 := (i64_w _).trans hji21
                      by_cases c22 : 0 ≤ (ji21)
                      · rw [if_pos c22] at H
                        have c22b0 := eq_true c22
                        have c22b1 : decide (0 ≤ (ji21)) = true := decide_eq_true c22
                        clear c22
                        by_cases c23 : (ji21) ≤ (x0_7.size : Int)
                        · rw [if_pos c23] at H
                          have c23b0 := eq_true c23
                          have c23b1 : decide ((ji21) ≤ (x0_7.size : Int)) = true := decide_eq_true c23
                          clear c23
                          simp only [Option.some.injEq, Prod.mk.injEq] at H
                          obtain ⟨rfl, rfl, rfl, rfl, rfl, rfl⟩ := H
                          have p15 : 0 ≤ (x5_3 : Int) := of_decide_eq_true (by first | (with_reducible assumption) | assumption)
                          have q15 : x5_3 < (x0_7.size : Int) := of_decide_eq_true (by first | (with_reducible assumption) | assumption)
                          have hx15 := bt_at x0_7 x5_3
                          replace p15 := eq_true p15
                          replace q15 := eq_true q15
                          have hnb24 := NB110_109.out
                          have hnc24 := NB109_110.out
                          have hcz25_0 : wr.cell? ⟨gb110, 0, none⟩ = some (.string x111000_3) := (blk_cell BK110.out 0).trans rfl
                          have hcz25_1 : wr.cell? ⟨gb110, 1, none⟩ = some (.string x111001_3) := (blk_cell BK110.out 1).trans rfl
                          have hcz25_2 : wr.cell? ⟨gb110, 2, none⟩ = some (.string x111002_3) := (blk_cell BK110.out 2).trans rfl
                          have hcz25_3 : wr.cell? ⟨gb110, 3, none⟩ = some (.bool x111003_7) := (blk_cell BK110.out 3).trans rfl
                          have hcz25_4 : wr.cell? ⟨gb110, 4, none⟩ = some (.bool x111004_3) := (blk_cell BK110.out 4).trans rfl
                          have hfz25_0 := blk_frozen BK110.out 0
                          have hfz25_1 := blk_frozen BK110.out 1
                          have hfz25_2 := blk_frozen BK110.out 2
                          have hfz25_3 := blk_frozen BK110.out 3
                          have hfz25_4 := blk_frozen BK110.out 4
                          have hcz26_0 : wr.cell? ⟨gb109, 0, none⟩ = some (.string x110000_3) := (blk_cell BK109.out 0).trans rfl
                          have hcz26_1 : wr.cell? ⟨gb109, 1, none⟩ = some (.string x110001_3) := (blk_cell BK109.out 1).trans rfl
                          have hcz26_2 : wr.cell? ⟨gb109, 2, none⟩ = some (.string x110002_3) := (blk_cell BK109.out 2).trans rfl
                          have hcz26_3 : wr.cell? ⟨gb109, 3, none⟩ = some (.bool x110003_3) := (blk_cell BK109.out 3).trans rfl
                          have hcz26_4 : wr.cell? ⟨gb109, 4, none⟩ = some (.bool x110004_3) := (blk_cell BK109.out 4).trans rfl
                          have hfz26_0 := blk_frozen BK109.out 0
                          have hfz26_1 := blk_frozen BK109.out 1
                          have hfz26_2 := blk_frozen BK109.out 2
                          have hfz26_3 := blk_frozen BK109.out 3
                          have hfz26_4 := blk_frozen BK109.out 4
                          go_wp2
                          refine bodyPost_ret (results_ct rfl _ _ gb109 76 #[.string (x0_7.extract 0 (x5_3 : Int).toNat), .string (x0_7.extract 0 (x5_3 : Int).toNat), .string (x0_7.extract ((ji21) : Int).toNat x0_7.size), .bool x111003_7, .bool true] (0, 0) _ rfl (by (with_reducible repeat (first | refine blk_drewN ?_ _ | refine blk_drew ?_ | refine blk_alloc ?_ _)); refine blk_put (cs := #[.string (x0_7.extract 0 (x5_3 : Int).toNat), .string (x0_7.extract 0 (x5_3 : Int).toNat), .string (x0_7.extract ((ji21) : Int).toNat x0_7.size), .bool x111003_7, .bool x110004_3]) ?_ 4 _ rfl; (with_reducible repeat (first | refine blk_drewN ?_ _ | refine blk_drew ?_ | refine blk_alloc ?_ _)); refine blk_put (cs := #[.string (x0_7.extract 0 (x5_3 : Int).toNat), .string (x0_7.extract 0 (x5_3 : Int).toNat), .string (x0_7.extract ((ji21) : Int).toNat x0_7.size), .bool x110003_3, .bool x110004_3]) ?_ 3 _ rfl; (with_reducible repeat (first | refine blk_drewN ?_ _ | refine blk_drew ?_ | refine blk_alloc ?_ _)); refine blk_put (cs := #[.string (x0_7.extract 0 (x5_3 : Int).toNat), .string (x0_7.extract 0 (x5_3 : Int).toNat), .string x110002_3, .bool x110003_3, .bool x110004_3]) ?_ 2 _ rfl; (with_reducible repeat (first | refine blk_drewN ?_ _ | refine blk_drew ?_ | refine blk_alloc ?_ _)); refine blk_put (cs := #[.string (x0_7.extract 0 (x5_3 : Int).toNat), .string x110001_3, .string x110002_3, .bool x110003_3, .bool x110004_3]) ?_ 1 _ rfl; (with_reducible repeat (first | refine blk_drewN ?_ _ | refine blk_drew ?_ | refine blk_alloc ?_ _)); refine blk_put (cs := #[.string x110000_3, .string x110001_3, .string x110002_3, .bool x110003_3, .bool x110004_3]) ?_ 0 _ rfl; (with_reducible repeat (first | refine blk_drewN ?_ _ | refine blk_drew ?_ | refine blk_alloc ?_ _)); refine blk_far ?_ NB109_110.out _; (with_reducible repeat (first | refine blk_drewN ?_ _ | refine blk_drew ?_ | refine blk_alloc ?_ _)); refine blk_far ?_ NB109_110.out _; (with_reducible repeat (first | refine blk_drewN ?_ _ | refine blk_drew ?_ | refine blk_alloc ?_ _)); refine blk_far ?_ NB109_110.out _; (with_reducible repeat (first | refine blk_drewN ?_ _ | refine blk_drew ?_ | refine blk_alloc ?_ _)); refine blk_far ?_ NB109_110.out _; (with_reducible repeat (first | refine blk_drewN ?_ _ | refine blk_drew ?_ | refine blk_alloc ?_ _)); exact BK109.out) Try.underlying76 rfl (by kernel_rfl)) rfl ?_
                          exact ⟨by first | rfl | (simp [errW_none, errW_some] <;> rfl) | (simp only [← hji21]; first | rfl | (simp [errW_none, errW_some] <;> rfl)) | (simp [*, errW_none, errW_some] <;> rfl), by repeat (first | (with_reducible first | exact HB.out | apply below_alloc | apply pw_below_drewN | apply below_drew1 | refine below_set ?_ GE109.out | refine below_set ?_ GE110.out) | exact HB.out)⟩
                        · rw [if_neg c23] at H
                          exact absurd H (by simp)
                      · rw [if_neg c22] at H
                        exact absurd H (by simp)
                    · rw [if_neg c18] at H
                      exact absurd H (by simp)
                  · rw [if_neg c16] at H
                    have c16b0 : ((bt x0_7 x5_3) == 46) = false := beq_eq_false_iff_ne.mpr c16
                    have c16b1 : ((bt x0_7 x5_3) != 46) = true := bne_iff_ne.mpr c16
                    replace H := Option.bind_eq_some_iff.mp H
                    obtain ⟨t111, A280, H⟩ := H
                    replace H : (if t111 = true then (if (bt x0_7 x5_3) = 92 then (if x5_3 ≤ (x0_7.size : Int) then (if (x0_7.extract 0 (x5_3 : Int).toNat).size ≤ 140737488355328 then ((some (bytesOf (x0_7.extract 0 (x5_3 : Int).toNat) : List Int)).bind fun y112 => (if 0 ≤ (wrap64 (x5_3 + 1)) then (if (wrap64 (x5_3 + 1)) ≤ (x0_7.size : Int) then (if (x0_7.extract 0 ((wrap64 (x5_3 + 1)) : Int).toNat).size ≤ 140737488355328 then ((some (bytesOf (x0_7.extract 0 ((wrap64 (x5_3 + 1)) : Int).toNat) : List Int)).bind fun y115 => (if (wrap64 (x5_3 + 1)) < (x0_7.size : Int) then (if y112.length < 140737488355328 then (if y115.length < 140737488355328 then (sjson_parsePath.l1 k3 x0_7 (wrap64 ((wrap64 (x5_3 + 1)) + 1)) (y112 ++ [bt x0_7 (wrap64 (x5_3 + 1))]) (y115 ++ [bt x0_7 (wrap64 (x5_3 + 1))]) x111000_3 x111001_3 x111002_3 x111003_7 x111004_3) else (none)) else (none)) else (some (strOfNums y112, strOfNums y115, x111002_3, x111003_7, x111004_3, true)))) else (none)) else (none)) else (none))) else (none)) else (none)) else (sjson_parsePath.l0 k3 x0_7 (wrap64 (x5_3 + 1)) x111000_3 x111001_3 x111002_3 x111003_7 x111004_3)) else (some (x111000_3, x111001_3, x111002_3, x111003_7, x111004_3, false))) = some (r1, r2, r3, r4, r5, r6) := H
                    have A28 := Aside0.mk A280
                    clear A280
                    by_cases c29 : t111 = true
                    · subst c29
                      have H1 : (if (bt x0_7 x5_3) = 92 then (if x5_3 ≤ (x0_7.size : Int) then (if (x0_7.extract 0 (x5_3 : Int).toNat).size ≤ 140737488355328 then ((some (bytesOf (x0_7.extract 0 (x5_3 : Int).toNat) : List Int)).bind fun y112 => (if 0 ≤ (wrap64 (x5_3 + 1)) then (if (wrap64 (x5_3 + 1)) ≤ (x0_7.size : Int) then (if (x0_7.extract 0 ((wrap64 (x5_3 + 1)) : Int).toNat).size ≤ 140737488355328 then ((some (bytesOf (x0_7.extract 0 ((wrap64 (x5_3 + 1)) : Int).toNat) : List Int)).bind fun y115 => (if (wrap64 (x5_3 + 1)) < (x0_7.size : Int) then (if y112.length < 140737488355328 then (if y115.length < 140737488355328 then (sjson_parsePath.l1 k3 x0_7 (wrap64 ((wrap64 (x5_3 + 1)) + 1)) (y112 ++ [bt x0_7 (wrap64 (x5_3 + 1))]) (y115 ++ [bt x0_7 (wrap64 (x5_3 + 1))]) x111000_3 x111001_3 x111002_3 x111003_7 x111004_3) else (none)) else (none)) else (some (strOfNums y112, strOfNums y115, x111002_3, x111003_7, x111004_3, true)))) else (none)) else (none)) else (none))) else (none)) else (none)) else (sjson_parsePath.l0 k3 x0_7 (wrap64 (x5_3 + 1)) x111000_3 x111001_3 x111002_3 x111003_7 x111004_3)) = some (r1, r2, r3, r4, r5, r6) := by rw [if_pos rfl] at H; exact H
                      clear H
                      have H := H1
                      clear H1
                      by_cases c31 : (bt x0_7 x5_3) = 92
                      · rw [if_pos c31] at H
                        have c31b0 : ((bt x0_7 x5_3) == 92) = true := beq_iff_eq.mpr c31
                        have c31b1 : ((bt x0_7 x5_3) != 92) = false := bne_eq_false_iff_eq.mpr c31
                        clear c31
                        have c32b0 := eq_true (of_decide_eq_true (by first | (with_reducible assumption) | assumption) : 0 ≤ x5_3)
                        by_cases c33 : x5_3 ≤ (x0_7.size : Int)
                        · rw [if_pos c33] at H
                          have c33b0 := eq_true c33
                          have c33b1 : decide (x5_3 ≤ (x0_7.size : Int)) = true := decide_eq_true c33
                          clear c33
                          by_cases c34 : (x0_7.extract 0 (x5_3 : Int).toNat).size ≤ 140737488355328
                          · rw [if_pos c34] at H
                            have c34b0 := eq_true c34
                            have c34b1 : decide ((x0_7.extract 0 (x5_3 : Int).toNat).size ≤ 140737488355328) = true := decide_eq_true c34
                            clear c34
                            obtain ⟨y112, hy112⟩ : ∃ y_ : List Int, y_ = (bytesOf (x0_7.extract 0 (x5_3 : Int).toNat)) := ⟨_, rfl⟩
                            replace H : (if 0 ≤ (wrap64 (x5_3 + 1)) then (if (wrap64 (x5_3 + 1)) ≤ (x0_7.size : Int) then (if (x0_7.extract 0 ((wrap64 (x5_3 + 1)) : Int).toNat).size ≤ 140737488355328 then ((some (bytesOf (x0_7.extract 0 ((wrap64 (x5_3 + 1)) : Int).toNat) : List Int)).bind fun y115 => (if (wrap64 (x5_3 + 1)) < (x0_7.size : Int) then (if y112.length < 140737488355328 then (if y115.length < 140737488355328 then (sjson_parsePath.l1 k3 x0_7 (wrap64 ((wrap64 (x5_3 + 1)) + 1)) (y112 ++ [bt x0_7 (wrap64 (x5_3 + 1))]) (y115 ++ [bt x0_7 (wrap64 (x5_3 + 1))]) x111000_3 x111001_3 x111002_3 x111003_7 x111004_3) else (none)) else (none)) else (some (strOfNums y112, strOfNums y115, x111002_3, x111003_7, x111004_3, true)))) else (none)) else (none)) else (none)) = some (r1, r2, r3, r4, r5, r6) := by first | (rw [hy112]; with_reducible exact H) | (have H2_ := (Option.bind_some _ _).symm.trans H; rw [hy112]; with_reducible exact H2_) | (have H2_ := (Option.bind_some _ _).symm.trans H; with_reducible exact H2_) | with_reducible exact H | (rw [hy112]; exact H) | exact H
                            have Ny112 := Aside0.mk hy112
                            clear hy112
                            obtain ⟨ji35, hji35⟩ : ∃ j_ : Int, (wrap64 (x5_3 + 1)) = j_ := ⟨_, rfl⟩
                            replace H : (if 0 ≤ (ji35) then (if (ji35) ≤ (x0_7.size : Int) then (if (x0_7.extract 0 ((ji35) : Int).toNat).size ≤ 140737488355328 then ((some (bytesOf (x0_7.extract 0 ((ji35) : Int).toNat) : List Int)).bind fun y115 => (if (ji35) < (x0_7.size : Int) then (if y112.length < 140737488355328 then (if y115.length < 140737488355328 then (sjson_parsePath.l1 k3 x0_7 (wrap64 ((ji35) + 1)) (y112 ++ [bt x0_7 (ji35)]) (y115 ++ [bt x0_7 (ji35)]) x111000_3 x111001_3 x111002_3 x111003_7 x111004_3) else (none)) else (none)) else (some (strOfNums y112, strOfNums y115, x111002_3, x111003_7, x111004_3, true)))) else (none)) else (none)) else (none)) = some (r1, r2, r3, r4, r5, r6) := by first | (rw [hji35] at H; exact H) | (simp only [hji35] at H ⊢; exact H)
                            (try rw [hji35] at A28)
                            have hji35w : (IntKind.i64.wrap (x5_3 + 1)) = ji35 := (i64_w _).trans hji35
                            by_cases c36 : 0 ≤ (ji35)
                            · rw [if_pos c36] at H
                              have c36b0 := eq_true c36
                              have c36b1 : decide (0 ≤ (ji35)) = true := decide_eq_true c36
                              clear c36
                              by_cases c37 : (ji35) ≤ (x0_7.size : Int)
                              · rw [if_pos c37] at H
                                have c37b0 := eq_true c37
                                have c37b1 : decide ((ji35) ≤ (x0_7.size : Int)) = true := decide_eq_true c37
                                clear c37
                                by_cases c38 : (x0_7.extract 0 ((ji35) : Int).toNat).size ≤ 140737488355328
                                · rw [if_pos c38] at H
                                  have c38b0 := eq_true c38
                                  have c38b1 : decide ((x0_7.extract 0 ((ji35) : Int).toNat).size ≤ 140737488355328) = true := decide_eq_true c38
                                  clear c38
                                  obtain ⟨y115, hy115⟩ : ∃ y_ : List Int, y_ = (bytesOf (x0_7.extract 0 ((ji35) : Int).toNat)) := ⟨_, rfl⟩
                                  replace H : (if (ji35) < (x0_7.size : Int) then (if y112.length < 140737488355328 then (if y115.length < 140737488355328 then (sjson_parsePath.l1 k3 x0_7 (wrap64 ((ji35) + 1)) (y112 ++ [bt x0_7 (ji35)]) (y115 ++ [bt x0_7 (ji35)]) x111000_3 x111001_3 x111002_3 x111003_7 x111004_3) else (none)) else (none)) else (some (strOfNums y112, strOfNums y115, x111002_3, x111003_7, x111004_3, true))) = some (r1, r2, r3, r4, r5, r6) := by first | (rw [hy115]; with_reducible exact H) | (have H2_ := (Option.bind_some _ _).symm.trans H; rw [hy115]; with_reducible exact H2_) | (have H2_ := (Option.bind_some _ _).symm.trans H; with_reducible exact H2_) | with_reducible exact H | (rw [hy115]; exact H) | exact H
                                  have Ny115 := Aside0.mk hy115
                                  clear hy115
                                  by_cases c39 : (ji35) < (x0_7.size : Int)
                                  · rw [if_pos c39] at H
                                    have c39b0 : decide ((ji35) < (x0_7.size : Int)) = true := decide_eq_true c39
                                    clear c39
                                    by_cases c41 : y112.length < 140737488355328
                                    · rw [if_pos c41] at H
                                      have LMc41 := Aside0.mk c41
                                      clear c41
                                      obtain ⟨y118, hy118⟩ : ∃ y_ : List Int, y_ = (y112 ++ [bt x0_7 (ji35)]) := ⟨_, rfl⟩
                                      replace H : (if y115.length < 140737488355328 then (sjson_parsePath.l1 k3 x0_7 (wrap64 ((ji35) + 1)) y118 (y115 ++ [bt x0_7 (ji35)]) x111000_3 x111001_3 x111002_3 x111003_7 x111004_3) else (none)) = some (r1, r2, r3, r4, r5, r6) := by first | (rw [hy118]; with_reducible exact H) | (have H2_ := (Option.bind_some _ _).symm.trans H; rw [hy118]; with_reducible exact H2_) | (have H2_ := (Option.bind_some _ _).symm.trans H; with_reducible exact H2_) | with_reducible exact H | (rw [hy118]; exact H) | exact H
                                      have Ny118 := Aside0.mk hy118
                                      clear hy118
                                      by_cases c43 : y115.length < 140737488355328
                                      · rw [if_pos c43] at H
                                        have LMc43 := Aside0.mk c43
                                        clear c43
                                        obtain ⟨y121, hy121⟩ : ∃ y_ : List Int, y_ = (y115 ++ [bt x0_7 (ji35)]) := ⟨_, rfl⟩
                                        replace H : (sjson_parsePath.l1 k3 x0_7 (wrap64 ((ji35) + 1)) y118 y121 x111000_3 x111001_3 x111002_3 x111003_7 x111004_3) = some (r1, r2, r3, r4, r5, r6) := by first | (rw [hy121]; with_reducible exact H) | (have H2_ := (Option.bind_some _ _).symm.trans H; rw [hy121]; with_reducible exact H2_) | (have H2_ := (Option.bind_some _ _).symm.trans H; with_reducible exact H2_) | with_reducible exact H | (rw [hy121]; exact H) | exact H
                                        have Ny121 := Aside0.mk hy121
                                        clear hy121
                                        have H' := Aside0.mk H
                                        clear H
                                        have p15 : 0 ≤ (x5_3 : Int) := of_decide_eq_true (by first | (with_reducible assumption) | assumption)
                                        have q15 : x5_3 < (x0_7.size : Int) := of_decide_eq_true (by first | (with_reducible assumption) | assumption)
                                        have hx15 := bt_at x0_7 x5_3
                                        replace p15 := eq_true p15
                                        replace q15 := eq_true q15
                                        have p27 : 0 ≤ (x5_3 : Int) := of_decide_eq_true (by first | (with_reducible assumption) | assumption)
                                        have q27 : x5_3 < (x0_7.size : Int) := of_decide_eq_true (by first | (with_reducible assumption) | assumption)
                                        have hx27 := bt_at x0_7 x5_3
                                        replace p27 := eq_true p27
                                        replace q27 := eq_true q27
                                        go_wp2_with (first | ((with_reducible refine gate_callee (f := 61) rfl ?_); refine goesL_ (some 47) rfl rfl Try.func61 (by kernel_rfl) rfl #[.int .u8 (bt x0_7 x5_3)] rfl (by (try simp only [List.map_toArray, List.map_cons, List.map_nil]); first | done | rfl | (simp only [List.length_drop, List.length_take]; rfl)) ?_; (with_reducible refine (sjson_isSimpleChar.calls (bt x0_7 x5_3) true _ A28.out).mono ?_); rintro e w' ⟨rfl, ⟨nd, rfl⟩⟩; refine ⟨_, rfl, ?_⟩; have p30 : 0 ≤ (x5_3 : Int) := of_decide_eq_true (by first | (with_reducible assumption) | assumption); have q30 : x5_3 < (x0_7.size : Int) := of_decide_eq_true (by first | (with_reducible assumption) | assumption); have hx30 := bt_at x0_7 x5_3; replace p30 := eq_true p30; replace q30 := eq_true q30) | ((with_reducible refine gate_dst (N := 57) rfl ?_); refine conv_eventB (s := (x0_7.extract 0 (x5_3 : Int).toNat)) (src := 9) (dst := 51) (e := 5) rfl (N := 57) rfl _ rfl rfl Try.underlying9 Try.underlying51 Try.underlying5 (Nat.le_trans (of_decide_eq_true (by first | (with_reducible assumption) | assumption) : (x0_7.extract 0 (x5_3 : Int).toNat).size ≤ 140737488355328) (by omega)) ?_; intro v113 w44 ho45 hb; (first | rw [← Ny112.out] at ho45 | (simp only [Int.reduceToNat] at ho45; rw [← Ny112.out] at ho45)); have n0_ := Aside0.mk (Kd.B_lower (Kd.B_mono (ok' := fun k_ => True) ho45 (fun _ hk_ => trivial)) (below_size (by repeat (first | (with_reducible first | exact HB.out | apply below_alloc | apply pw_below_drewN | apply below_drew1 | refine below_set ?_ GE109.out | refine below_set ?_ GE110.out) | exact HB.out)))); have n1_ := Aside0.mk (blk_below (g := gb109) (o := .cells #[.string x110000_3, .string x110001_3, .string x110002_3, .bool x110003_3, .bool x110004_3] 76 (0, 0)) (by (with_reducible repeat (first | refine blk_drewN ?_ _ | refine blk_drew ?_ | refine blk_alloc ?_ _)); exact BK109.out) hb); have n2_ := Aside0.mk (blk_below (g := gb110) (o := .cells #[.string x111000_3, .string x111001_3, .string x111002_3, .bool x111003_7, .bool x111004_3] 76 (0, 0)) (by (with_reducible repeat (first | refine blk_drewN ?_ _ | refine blk_drew ?_ | refine blk_alloc ?_ _)); exact BK110.out) hb); have n3_ := Aside0.mk (below_step (by repeat (first | (with_reducible first | exact HB.out | apply below_alloc | apply pw_below_drewN | apply below_drew1 | refine below_set ?_ GE109.out | refine below_set ?_ GE110.out) | exact HB.out)) hb); clear BK109; clear BK110; clear HB; have HO114 := n0_; have BK109 := n1_; have BK110 := n2_; have HB := n3_; clear n0_ n1_ n2_ n3_; clear hb ho45) | ((with_reducible refine gate_dst (N := 62) rfl ?_); refine conv_eventB (s := (x0_7.extract 0 ((ji35) : Int).toNat)) (src := 9) (dst := 51) (e := 5) rfl (N := 62) rfl _ rfl rfl Try.underlying9 Try.underlying51 Try.underlying5 (Nat.le_trans (of_decide_eq_true (by first | (with_reducible assumption) | assumption) : (x0_7.extract 0 ((ji35) : Int).toNat).size ≤ 140737488355328) (by omega)) ?_; intro v116 w46 ho47 hb; (first | rw [← Ny115.out] at ho47 | (simp only [Int.reduceToNat] at ho47; rw [← Ny115.out] at ho47)); have n0_ := Aside0.mk (Kd.B_elder' (by (with_reducible repeat (first | apply Kd.B_alloc | apply Kd.B_drewN | apply Kd.B_drew)); exact HO114.out) (Kd.B_base ho47) hb); have n1_ := Aside0.mk (Kd.B_lower (Kd.B_new' (Kd.B_mono (ok' := fun k_ => True) ho47 (fun _ hk_ => trivial)) (Kd.B_lt (by (with_reducible repeat (first | apply Kd.B_alloc | apply Kd.B_drewN | apply Kd.B_drew)); exact HO114.out))) (below_size (by repeat (first | (with_reducible first | exact HB.out | apply below_alloc | apply pw_below_drewN | apply below_drew1 | refine below_set ?_ GE109.out | refine below_set ?_ GE110.out) | exact HB.out)))); have n2_ := Aside0.mk (blk_below (g := gb109) (o := .cells #[.string x110000_3, .string x110001_3, .string x110002_3, .bool x110003_3, .bool x110004_3] 76 (0, 0)) (by (with_reducible repeat (first | refine blk_drewN ?_ _ | refine blk_drew ?_ | refine blk_alloc ?_ _)); exact BK109.out) hb); have n3_ := Aside0.mk (blk_below (g := gb110) (o := .cells #[.string x111000_3, .string x111001_3, .string x111002_3, .bool x111003_7, .bool x111004_3] 76 (0, 0)) (by (with_reducible repeat (first | refine blk_drewN ?_ _ | refine blk_drew ?_ | refine blk_alloc ?_ _)); exact BK110.out) hb); have n4_ := Aside0.mk (below_step (by repeat (first | (with_reducible first | exact HB.out | apply below_alloc | apply pw_below_drewN | apply below_drew1 | refine below_set ?_ GE109.out | refine below_set ?_ GE110.out) | exact HB.out)) hb); clear HO114; clear BK109; clear BK110; clear HB; have HO114 := n0_; have HO117 := n1_; have BK109 := n2_; have BK110 := n3_; have HB := n4_; clear n0_ n1_ n2_ n3_ n4_; clear hb ho47; have p40 : 0 ≤ ((ji35) : Int) := of_decide_eq_true (by first | (with_reducible assumption) | assumption); have q40 : (ji35) < (x0_7.size : Int) := of_decide_eq_true (by first | (with_reducible assumption) | assumption); have hx40 := bt_at x0_7 (ji35); replace p40 := eq_true p40; replace q40 := eq_true q40) | ((with_reducible refine gate_builtin (b := .append) (xs := #[.tmp 69, .tmp 73]) rfl ?_); at_builtin; refine Kd.B_append (Kd.int .u8) (w0 := w) w.heap.size rfl (.tmp 69) (.tmp 73) 51 5 (.int .u8 0) 1 rfl Try.underlying51 info5 rfl (by decide) (by omega) v113 y112 (bt x0_7 (ji35)) [.int .u8 (bt x0_7 (ji35))] (fun k_ => some k_ ≠ (v116 : Value).ownBlock) (fun _ => False) rfl rfl ?aP (fun _ hk => hk.elim) ?aF ?aO ?aB ?aS ?aL ?_; (case aP => exact rfl); (case aB => exact (by repeat (first | (with_reducible first | exact HB.out | apply below_alloc | apply pw_below_drewN | apply below_drew1 | refine below_set ?_ GE109.out | refine below_set ?_ GE110.out) | exact HB.out))); (case aF => exact (fun k_ hk => Kd.fresh' (Kd.B_lt (by (with_reducible repeat (first | apply Kd.B_alloc | apply Kd.B_drewN | apply Kd.B_drew)); exact HO117.out)) k_ hk)); (case aO => exact (by (with_reducible repeat (first | apply Kd.B_alloc | apply Kd.B_drewN | apply Kd.B_drew)); exact Kd.B_mono HO114.out (fun _ hk => hk.2))); (case aS => exact (below_size (by repeat (first | (with_reducible first | exact HB.out | apply below_alloc | apply pw_below_drewN | apply below_drew1 | refine below_set ?_ GE109.out | refine below_set ?_ GE110.out) | exact HB.out)))); (case aL => have := LMc41.out; omega); intro v119 w48 ho hb hg hat; rw [← Ny118.out] at ho; have n0_ := Aside0.mk (blk_grown (g := gb109) (o := .cells #[.string x110000_3, .string x110001_3, .string x110002_3, .bool x110003_3, .bool x110004_3] 76 (0, 0)) (by (with_reducible repeat (first | refine blk_drewN ?_ _ | refine blk_drew ?_ | refine blk_alloc ?_ _)); exact BK109.out) hg (Kd.B_ne HO114.out BK109.out (by decide))); have n1_ := Aside0.mk (blk_grown (g := gb110) (o := .cells #[.string x111000_3, .string x111001_3, .string x111002_3, .bool x111003_7, .bool x111004_3] 76 (0, 0)) (by (with_reducible repeat (first | refine blk_drewN ?_ _ | refine blk_drew ?_ | refine blk_alloc ?_ _)); exact BK110.out) hg (Kd.B_ne HO114.out BK110.out (by decide))); have n2_ := Aside0.mk (Kd.B_after (ok := (fun _ => True)) (by (with_reducible repeat (first | apply Kd.B_alloc | apply Kd.B_drewN | apply Kd.B_drew)); exact HO117.out) hg hat); have n3_ := Aside0.mk (hb); have n4_ := Aside0.mk (ho); clear BK109; clear BK110; clear HO117; clear HB; clear HO114; have BK109 := n0_; have BK110 := n1_; have HO117 := n2_; have HB := n3_; have HO120 := n4_; clear n0_ n1_ n2_ n3_ n4_; clear ho hb hg hat; have p42 : 0 ≤ ((ji35) : Int) := of_decide_eq_true (by first | (with_reducible assumption) | assumption); have q42 : (ji35) < (x0_7.size : Int) := of_decide_eq_true (by first | (with_reducible assumption) | assumption); have hx42 := bt_at x0_7 (ji35); replace p42 := eq_true p42; replace q42 := eq_true q42) | ((with_reducible refine gate_builtin (b := .append) (xs := #[.tmp 75, .tmp 79]) rfl ?_); at_builtin; refine Kd.B_append (Kd.int .u8) (w0 := w) w.heap.size rfl (.tmp 75) (.tmp 79) 51 5 (.int .u8 0) 1 rfl Try.underlying51 info5 rfl (by decide) (by omega) v116 y115 (bt x0_7 (ji35)) [.int .u8 (bt x0_7 (ji35))] (fun k_ => some k_ ≠ (v119 : Value).ownBlock) (fun _ => False) rfl rfl ?aP (fun _ hk => hk.elim) ?aF ?aO ?aB ?aS ?aL ?_; (case aP => exact rfl); (case aB => exact (by repeat (first | (with_reducible first | exact HB.out | apply below_alloc | apply pw_below_drewN | apply below_drew1 | refine below_set ?_ GE109.out | refine below_set ?_ GE110.out) | exact HB.out))); (case aF => exact (fun k_ hk => Kd.fresh' (Kd.B_lt (by (with_reducible repeat (first | apply Kd.B_alloc | apply Kd.B_drewN | apply Kd.B_drew)); exact HO120.out)) k_ hk)); (case aO => exact (by (with_reducible repeat (first | apply Kd.B_alloc | apply Kd.B_drewN | apply Kd.B_drew)); exact Kd.B_mono HO117.out (fun _ hk => hk.2))); (case aS => exact (below_size (by repeat (first | (with_reducible first | exact HB.out | apply below_alloc | apply pw_below_drewN | apply below_drew1 | refine below_set ?_ GE109.out | refine below_set ?_ GE110.out) | exact HB.out)))); (case aL => have := LMc43.out; omega); intro v122 w49 ho hb hg hat; rw [← Ny121.out] at ho; have n0_ := Aside0.mk (blk_grown (g := gb109) (o := .cells #[.string x110000_3, .string x110001_3, .string x110002_3, .bool x110003_3, .bool x110004_3] 76 (0, 0)) (by (with_reducible repeat (first | refine blk_drewN ?_ _ | refine blk_drew ?_ | refine blk_alloc ?_ _)); exact BK109.out) hg (Kd.B_ne HO117.out BK109.out (by decide))); have n1_ := Aside0.mk (blk_grown (g := gb110) (o := .cells #[.string x111000_3, .string x111001_3, .string x111002_3, .bool x111003_7, .bool x111004_3] 76 (0, 0)) (by (with_reducible repeat (first | refine blk_drewN ?_ _ | refine blk_drew ?_ | refine blk_alloc ?_ _)); exact BK110.out) hg (Kd.B_ne HO117.out BK110.out (by decide))); have n2_ := Aside0.mk (Kd.B_after (ok := (fun _ => True)) (by (with_reducible repeat (first | apply Kd.B_alloc | apply Kd.B_drewN | apply Kd.B_drew)); exact Kd.B_mono HO120.out (fun _ hk => ⟨trivial, hk⟩)) hg hat); have n3_ := Aside0.mk (hb); have n4_ := Aside0.mk (ho); clear BK109; clear BK110; clear HO120; clear HB; clear HO117; have BK109 := n0_; have BK110 := n1_; have HO120 := n2_; have HB := n3_; have HO123 := n4_; clear n0_ n1_ n2_ n3_ n4_; clear ho hb hg hat))
                                        (try simp only [Act.put, List.setIfInBounds_toArray, List.set_cons_zero, List.set_cons_succ])
                                        go_loopg [5, 6, 7] k3 (fun kq v5 v6 v7 w' => ∃ (x5_4 : Int) (x6_4 : List Int) (x7_4 : List Int) (x110000_4 : ByteArray) (x110001_4 : ByteArray) (x110002_4 : ByteArray) (x110003_4 : Bool) (x110004_4 : Bool) (x111000_4 : ByteArray) (x111001_4 : ByteArray) (x111002_4 : ByteArray) (x111004_4 : Bool), v5 = .int .i64 x5_4 ∧ Aside0 (sjson_parsePath.l1 kq x0_7 x5_4 x6_4 x7_4 x111000_4 x111001_4 x111002_4 x111003_7 x111004_4 = some (r1, r2, r3, r4, r5, r6)) ∧ Aside0 (kq ≤ k3) ∧ Aside0 (Kd.B (Kd.int .u8) 5 w' w.heap.size (fun k_ => some k_ ≠ (v7 : Value).ownBlock) v6 x6_4) ∧ Aside0 (Kd.B (Kd.int .u8) 5 w' w.heap.size (fun k_ => some k_ ≠ (v6 : Value).ownBlock) v7 x7_4) ∧ Aside0 (w'.heap[gb109]? = some (.cells #[.string x110000_4, .string x110001_4, .string x110002_4, .bool x110003_4, .bool x110004_4] 76 (0, 0))) ∧ Aside0 (w'.heap[gb110]? = some (.cells #[.string x111000_4, .string x111001_4, .string x111002_4, .bool x111003_7, .bool x111004_4] 76 (0, 0))) ∧ Aside0 (Below w.heap.size w w'))
                                        case atStart => exact ⟨(wrap64 ((ji35) + 1)), (y118), (y121), (x110000_3), (x110001_3), (x110002_3), (x110003_3), (x110004_3), (x111000_3), (x111001_3), (x111002_3), (x111004_3), (by first | rfl | (simp; done) | (simp only [← hji35] <;> (first | rfl | (simp; done))) | (simp [*]; done) | (simp only [*]; done)), H', ⟨Nat.le_refl _⟩, ⟨by (with_reducible repeat (first | apply Kd.B_alloc | apply Kd.B_drewN | apply Kd.B_drew)); exact Kd.B_mono HO120.out (fun _ hk => hk.2)⟩, ⟨by (with_reducible repeat (first | apply Kd.B_alloc | apply Kd.B_drewN | apply Kd.B_drew)); exact HO123.out⟩, ⟨by (with_reducible repeat (first | refine blk_drewN ?_ _ | refine blk_drew ?_ | refine blk_alloc ?_ _)); exact BK109.out⟩, ⟨by (with_reducible repeat (first | refine blk_drewN ?_ _ | refine blk_drew ?_ | refine blk_alloc ?_ _)); exact BK110.out⟩, ⟨by repeat (first | (with_reducible first | exact HB.out | apply below_alloc | apply pw_below_drewN | apply below_drew1 | refine below_set ?_ GE109.out | refine below_set ?_ GE110.out) | exact HB.out)⟩⟩
                                        case round =>
                                          clear H'
                                          try clear c1
                                          try clear p1
                                          try clear q1
                                          try clear hx1
                                          try clear c2
                                          try clear p2
                                          try clear q2
                                          try clear hx2
                                          try clear c3
                                          try clear p3
                                          try clear q3
                                          try clear hx3
                                          try clear c4
                                          try clear p4
                                          try clear q4
                                          try clear hx4
                                          try clear c5
                                          try clear c5b0
                                          try clear c5b1
                                          try clear c6
                                          try clear c6b0
                                          try clear c6b1
                                          try clear p6
                                          try clear p7
                                          try clear q7
                                          try clear hx7
                                          try clear qi7
                                          try clear c9
                                          try clear c10
                                          try clear c10b0
                                          try clear c10b1
                                          try clear c11
                                          try clear c13
                                          try clear c13b0
                                          try clear c14
                                          try clear c14b0
                                          try clear p15
                                          try clear q15
                                          try clear hx15
                                          try clear c16
                                          try clear c16b0
                                          try clear c16b1
                                          try clear c17
                                          try clear c17b0
                                          try clear c18
                                          try clear c18b0
                                          try clear c18b1
                                          try clear c19
                                          try clear c19b0
                                          try clear c20
                                          try clear c20b0
                                          try clear c22
                                          try clear c22b0
                                          try clear c22b1
                                          try clear c23
                                          try clear c23b0
                                          try clear c23b1
                                          try clear c24
                                          try clear p27
                                          try clear q27
                                          try clear hx27
                                          try clear c29
                                          try clear p30
                                          try clear q30
                                          try clear hx30
                                          try clear c31
                                          try clear c31b0
                                          try clear c31b1
                                          try clear c32
                                          try clear c32b0
                                          try clear c33
                                          try clear c33b0
                                          try clear c33b1
                                          try clear c34
                                          try clear c34b0
                                          try clear c34b1
                                          try clear c36
                                          try clear c36b0
                                          try clear c36b1
                                          try clear c37
                                          try clear c37b0
                                          try clear c37b1
                                          try clear c38
                                          try clear c38b0
                                          try clear c38b1
                                          try clear c39
                                          try clear c39b0
                                          try clear p40
                                          try clear q40
                                          try clear hx40
                                          try clear c41
                                          try clear p42
                                          try clear q42
                                          try clear hx42
                                          try clear c43
                                          try clear hcz12_0
                                          try clear hcz12_1
                                          try clear hcz12_2
                                          try clear hcz12_3
                                          try clear hcz12_4
                                          try clear hcz25_0
                                          try clear hcz25_1
                                          try clear hcz25_2
                                          try clear hcz25_3
                                          try clear hcz25_4
                                          try clear hcz26_0
                                          try clear hcz26_1
                                          try clear hcz26_2
                                          try clear hcz26_3
                                          try clear hcz26_4
                                          try clear hfz12_0
                                          try clear hfz12_1
                                          try clear hfz12_2
                                          try clear hfz12_3
                                          try clear hfz12_4
                                          try clear hfz25_0
                                          try clear hfz25_1
                                          try clear hfz25_2
                                          try clear hfz25_3
                                          try clear hfz25_4
                                          try clear hfz26_0
                                          try clear hfz26_1
                                          try clear hfz26_2
                                          try clear hfz26_3
                                          try clear hfz26_4
                                          try clear p15
                                          try clear p2
                                          try clear p27
                                          try clear p30
                                          try clear p40
                                          try clear p42
                                          try clear p7
                                          try clear q15
                                          try clear q27
                                          try clear q30
                                          try clear q40
                                          try clear q42
                                          try clear q7
                                          obtain ⟨x5_4, x6_4, x7_4, x110000_4, x110001_4, x110002_4, x110003_4, x110004_4, x111000_4, x111001_4, x111002_4, x111004_4, rfl, HA, HK4, HO_6, HO_7, BK109, BK110, HB⟩ := hrel
                                          cases gk with
                                          | zero => exact absurd HA.out (by simp [sjson_parsePath.l1])
                                          | succ k4 =>
                                            have H := HA.out
                                            clear HA
                                            simp only [sjson_parsePath.l1] at H
                                            by_cases c50 : x5_4 < (x0_7.size : Int)
                                            · rw [if_pos c50] at H
                                              have c50b0 : decide (x5_4 < (x0_7.size : Int)) = true := decide_eq_true c50
                                              clear c50
                                              by_cases c51 : 0 ≤ x5_4
                                              · rw [if_pos c51] at H
                                                have c51b0 : decide (0 ≤ x5_4) = true := decide_eq_true c51
                                                clear c51
                                                by_cases c53 : (bt x0_7 x5_4) = 92
                                                · rw [if_pos c53] at H
                                                  have c53b0 : ((bt x0_7 x5_4) == 92) = true := beq_iff_eq.mpr c53
                                                  have c53b1 : ((bt x0_7 x5_4) != 92) = false := bne_eq_false_iff_eq.mpr c53
                                                  clear c53
                                                  by_cases c54 : x7_4.length < 140737488355328
                                                  · rw [if_pos c54] at H
                                                    have LMc54 := Aside0.mk c54
                                                    clear c54
                                                    obtain ⟨y124, hy124⟩ : ∃ y_ : List Int, y_ = (x7_4 ++ [92]) := ⟨_, rfl⟩
                                                    replace H : (if (wrap64 (x5_4 + 1)) < (x0_7.size : Int) then (if 0 ≤ (wrap64 (x5_4 + 1)) then (if x6_4.length < 140737488355328 then (if y124.length < 140737488355328 then (sjson_parsePath.l1 k4 x0_7 (wrap64 ((wrap64 (x5_4 + 1)) + 1)) (x6_4 ++ [bt x0_7 (wrap64 (x5_4 + 1))]) (y124 ++ [bt x0_7 (wrap64 (x5_4 + 1))]) x111000_4 x111001_4 x111002_4 x111003_7 x111004_4) else (none)) else (none)) else (none)) else (sjson_parsePath.l1 k4 x0_7 (wrap64 ((wrap64 (x5_4 + 1)) + 1)) x6_4 y124 x111000_4 x111001_4 x111002_4 x111003_7 x111004_4)) = some (r1, r2, r3, r4, r5, r6) := by first | (rw [hy124]; with_reducible exact H) | (have H2_ := (Option.bind_some _ _).symm.trans H; rw [hy124]; with_reducible exact H2_) | (have H2_ := (Option.bind_some _ _).symm.trans H; with_reducible exact H2_) | with_reducible exact H | (rw [hy124]; exact H) | exact H
                                                    have Ny124 := Aside0.mk hy124
                                                    clear hy124
                                                    by_cases c55 : (wrap64 (x5_4 + 1)) < (x0_7.size : Int)
                                                    · rw [if_pos c55] at H
                                                      have c55b0 : decide ((wrap64 (x5_4 + 1)) < (x0_7.size : Int)) = true := decide_eq_true c55
                                                      clear c55
                                                      obtain ⟨ji56, hji56⟩ : ∃ j_ : Int, (wrap64 (x5_4 + 1)) = j_ := ⟨_, rfl⟩
                                                      replace H : (if 0 ≤ (ji56) then (if x6_4.length < 140737488355328 then (if y124.length < 140737488355328 then (sjson_parsePath.l1 k4 x0_7 (wrap64 ((ji56) + 1)) (x6_4 ++ [bt x0_7 (ji56)]) (y124 ++ [bt x0_7 (ji56)]) x111000_4 x111001_4 x111002_4 x111003_7 x111004_4) else (none)) else (none)) else (none)) = some (r1, r2, r3, r4, r5, r6) := by first | (rw [hji56] at H; exact H) | (simp only [hji56] at H ⊢; exact H)
                                                      (try rw [hji56] at c55b0)
                                                      have hji56w : (IntKind.i64.wrap (x5_4 + 1)) = ji56 := (i64_w _).trans hji56
                                                      by_cases c57 : 0 ≤ (ji56)
                                                      · rw [if_pos c57] at H
                                                        have c57b0 : decide (0 ≤ (ji56)) = true := decide_eq_true c57
                                                        clear c57
                                                        by_cases c59 : x6_4.length < 140737488355328
                                                        · rw [if_pos c59] at H
                                                          have LMc59 := Aside0.mk c59
                                                          clear c59
                                                          obtain ⟨y127, hy127⟩ : ∃ y_ : List Int, y_ = (x6_4 ++ [bt x0_7 (ji56)]) := ⟨_, rfl⟩
                                                          replace H : (if y124.length < 140737488355328 then (sjson_parsePath.l1 k4 x0_7 (wrap64 ((ji56) + 1)) y127 (y124 ++ [bt x0_7 (ji56)]) x111000_4 x111001_4 x111002_4 x111003_7 x111004_4) else (none)) = some (r1, r2, r3, r4, r5, r6) := by first | (rw [hy127]; with_reducible exact H) | (have H2_ := (Option.bind_some _ _).symm.trans H; rw [hy127]; with_reducible exact H2_) | (have H2_ := (Option.bind_some _ _).symm.trans H; with_reducible exact H2_) | with_reducible exact H | (rw [hy127]; exact H) | exact H
                                                          have Ny127 := Aside0.mk hy127
                                                          clear hy127
                                                          by_cases c61 : y124.length < 140737488355328
                                                          · rw [if_pos c61] at H
                                                            have LMc61 := Aside0.mk c61
                                                            clear c61
                                                            obtain ⟨y130, hy130⟩ : ∃ y_ : List Int, y_ = (y124 ++ [bt x0_7 (ji56)]) := ⟨_, rfl⟩
                                                            replace H : (sjson_parsePath.l1 k4 x0_7 (wrap64 ((ji56) + 1)) y127 y130 x111000_4 x111001_4 x111002_4 x111003_7 x111004_4) = some (r1, r2, r3, r4, r5, r6) := by first | (rw [hy130]; with_reducible exact H) | (have H2_ := (Option.bind_some _ _).symm.trans H; rw [hy130]; with_reducible exact H2_) | (have H2_ := (Option.bind_some _ _).symm.trans H; with_reducible exact H2_) | with_reducible exact H | (rw [hy130]; exact H) | exact H
                                                            have Ny130 := Aside0.mk hy130
                                                            clear hy130
                                                            have H' := Aside0.mk H
                                                            clear H
                                                            have p52 : 0 ≤ (x5_4 : Int) := of_decide_eq_true (by first | (with_reducible assumption) | assumption)
                                                            have q52 : x5_4 < (x0_7.size : Int) := of_decide_eq_true (by first | (with_reducible assumption) | assumption)
                                                            have hx52 := bt_at x0_7 x5_4
                                                            replace p52 := eq_true p52
                                                            replace q52 := eq_true q52
                                                            go_wp2_with (first | ((with_reducible refine gate_builtin (b := .append) (xs := #[.tmp 93, .tmp 94]) rfl ?_); at_builtin; refine Kd.B_append (Kd.int .u8) (w0 := w) w.heap.size rfl (.tmp 93) (.tmp 94) 51 5 (.int .u8 0) 1 rfl Try.underlying51 info5 rfl (by decide) (by omega) u7 x7_4 92 [.int .u8 92] (fun k_ => some k_ ≠ (u6 : Value).ownBlock) (fun _ => False) rfl rfl ?aP (fun _ hk => hk.elim) ?aF ?aO ?aB ?aS ?aL ?_; (case aP => exact rfl); (case aB => exact (by repeat (first | (with_reducible first | exact HB.out | apply below_alloc | apply pw_below_drewN | apply below_drew1 | refine below_set ?_ GE109.out | refine below_set ?_ GE110.out) | exact HB.out))); (case aF => exact (fun k_ hk => Kd.fresh' (Kd.B_lt (by (with_reducible repeat (first | apply Kd.B_alloc | apply Kd.B_drewN | apply Kd.B_drew)); exact HO_6.out)) k_ hk)); (case aO => exact (by (with_reducible repeat (first | apply Kd.B_alloc | apply Kd.B_drewN | apply Kd.B_drew)); exact HO_7.out)); (case aS => exact (below_size (by repeat (first | (with_reducible first | exact HB.out | apply below_alloc | apply pw_below_drewN | apply below_drew1 | refine below_set ?_ GE109.out | refine below_set ?_ GE110.out) | exact HB.out)))); (case aL => have := LMc54.out; omega); intro v125 w62 ho hb hg hat; rw [← Ny124.out] at ho; have n0_ := Aside0.mk (Kd.B_after (ok := (fun _ => True)) (by (with_reducible repeat (first | apply Kd.B_alloc | apply Kd.B_drewN | apply Kd.B_drew)); exact Kd.B_mono HO_6.out (fun _ hk => ⟨trivial, hk⟩)) hg hat); have n1_ := Aside0.mk (blk_grown (g := gb109) (o := .cells #[.string x110000_4, .string x110001_4, .string x110002_4, .bool x110003_4, .bool x110004_4] 76 (0, 0)) (by (with_reducible repeat (first | refine blk_drewN ?_ _ | refine blk_drew ?_ | refine blk_alloc ?_ _)); exact BK109.out) hg (Kd.B_ne HO_7.out BK109.out (by decide))); have n2_ := Aside0.mk (blk_grown (g := gb110) (o := .cells #[.string x111000_4, .string x111001_4, .string x111002_4, .bool x111003_7, .bool x111004_4] 76 (0, 0)) (by (with_reducible repeat (first | refine blk_drewN ?_ _ | refine blk_drew ?_ | refine blk_alloc ?_ _)); exact BK110.out) hg (Kd.B_ne HO_7.out BK110.out (by decide))); have n3_ := Aside0.mk (hb); have n4_ := Aside0.mk (ho); clear HO_6; clear BK109; clear BK110; clear HB; clear HO_7; have HO_6 := n0_; have BK109 := n1_; have BK110 := n2_; have HB := n3_; have HO126 := n4_; clear n0_ n1_ n2_ n3_ n4_; clear ho hb hg hat; have p58 : 0 ≤ ((ji56) : Int) := of_decide_eq_true (by first | (with_reducible assumption) | assumption); have q58 : (ji56) < (x0_7.size : Int) := of_decide_eq_true (by first | (with_reducible assumption) | assumption); have hx58 := bt_at x0_7 (ji56); replace p58 := eq_true p58; replace q58 := eq_true q58) | ((with_reducible refine gate_builtin (b := .append) (xs := #[.tmp 102, .tmp 106]) rfl ?_); at_builtin; refine Kd.B_append (Kd.int .u8) (w0 := w) w.heap.size rfl (.tmp 102) (.tmp 106) 51 5 (.int .u8 0) 1 rfl Try.underlying51 info5 rfl (by decide) (by omega) u6 x6_4 (bt x0_7 (ji56)) [.int .u8 (bt x0_7 (ji56))] (fun k_ => some k_ ≠ (v125 : Value).ownBlock) (fun _ => False) rfl rfl ?aP (fun _ hk => hk.elim) ?aF ?aO ?aB ?aS ?aL ?_; (case aP => exact rfl); (case aB => exact (by repeat (first | (with_reducible first | exact HB.out | apply below_alloc | apply pw_below_drewN | apply below_drew1 | refine below_set ?_ GE109.out | refine below_set ?_ GE110.out) | exact HB.out))); (case aF => exact (fun k_ hk => Kd.fresh' (Kd.B_lt (by (with_reducible repeat (first | apply Kd.B_alloc | apply Kd.B_drewN | apply Kd.B_drew)); exact HO126.out)) k_ hk)); (case aO => exact (by (with_reducible repeat (first | apply Kd.B_alloc | apply Kd.B_drewN | apply Kd.B_drew)); exact Kd.B_mono HO_6.out (fun _ hk => hk.2))); (case aS => exact (below_size (by repeat (first | (with_reducible first | exact HB.out | apply below_alloc | apply pw_below_drewN | apply below_drew1 | refine below_set ?_ GE109.out | refine below_set ?_ GE110.out) | exact HB.out)))); (case aL => have := LMc59.out; omega); intro v128 w63 ho hb hg hat; rw [← Ny127.out] at ho; have n0_ := Aside0.mk (blk_grown (g := gb109) (o := .cells #[.string x110000_4, .string x110001_4, .string x110002_4, .bool x110003_4, .bool x110004_4] 76 (0, 0)) (by (with_reducible repeat (first | refine blk_drewN ?_ _ | refine blk_drew ?_ | refine blk_alloc ?_ _)); exact BK109.out) hg (Kd.B_ne HO_6.out BK109.out (by decide))); have n1_ := Aside0.mk (blk_grown (g := gb110) (o := .cells #[.string x111000_4, .string x111001_4, .string x111002_4, .bool x111003_7, .bool x111004_4] 76 (0, 0)) (by (with_reducible repeat (first | refine blk_drewN ?_ _ | refine blk_drew ?_ | refine blk_alloc ?_ _)); exact BK110.out) hg (Kd.B_ne HO_6.out BK110.out (by decide))); have n2_ := Aside0.mk (Kd.B_after (ok := (fun _ => True)) (by (with_reducible repeat (first | apply Kd.B_alloc | apply Kd.B_drewN | apply Kd.B_drew)); exact Kd.B_mono HO126.out (fun _ hk => ⟨trivial, hk⟩)) hg hat); have n3_ := Aside0.mk (hb); have n4_ := Aside0.mk (ho); clear BK109; clear BK110; clear HO126; clear HB; clear HO_6; have BK109 := n0_; have BK110 := n1_; have HO126 := n2_; have HB := n3_; have HO129 := n4_; clear n0_ n1_ n2_ n3_ n4_; clear ho hb hg hat; have p60 : 0 ≤ ((ji56) : Int) := of_decide_eq_true (by first | (with_reducible assumption) | assumption); have q60 : (ji56) < (x0_7.size : Int) := of_decide_eq_true (by first | (with_reducible assumption) | assumption); have hx60 := bt_at x0_7 (ji56); replace p60 := eq_true p60; replace q60 := eq_true q60) | ((with_reducible refine gate_builtin (b := .append) (xs := #[.tmp 108, .tmp 112]) rfl ?_); at_builtin; refine Kd.B_append (Kd.int .u8) (w0 := w) w.heap.size rfl (.tmp 108) (.tmp 112) 51 5 (.int .u8 0) 1 rfl Try.underlying51 info5 rfl (by decide) (by omega) v125 y124 (bt x0_7 (ji56)) [.int .u8 (bt x0_7 (ji56))] (fun k_ => some k_ ≠ (v128 : Value).ownBlock) (fun _ => False) rfl rfl ?aP (fun _ hk => hk.elim) ?aF ?aO ?aB ?aS ?aL ?_; (case aP => exact rfl); (case aB => exact (by repeat (first | (with_reducible first | exact HB.out | apply below_alloc | apply pw_below_drewN | apply below_drew1 | refine below_set ?_ GE109.out | refine below_set ?_ GE110.out) | exact HB.out))); (case aF => exact (fun k_ hk => Kd.fresh' (Kd.B_lt (by (with_reducible repeat (first | apply Kd.B_alloc | apply Kd.B_drewN | apply Kd.B_drew)); exact HO129.out)) k_ hk)); (case aO => exact (by (with_reducible repeat (first | apply Kd.B_alloc | apply Kd.B_drewN | apply Kd.B_drew)); exact Kd.B_mono HO126.out (fun _ hk => hk.2))); (case aS => exact (below_size (by repeat (first | (with_reducible first | exact HB.out | apply below_alloc | apply pw_below_drewN | apply below_drew1 | refine below_set ?_ GE109.out | refine below_set ?_ GE110.out) | exact HB.out)))); (case aL => have := LMc61.out; omega); intro v131 w64 ho hb hg hat; rw [← Ny130.out] at ho; have n0_ := Aside0.mk (blk_grown (g := gb109) (o := .cells #[.string x110000_4, .string x110001_4, .string x110002_4, .bool x110003_4, .bool x110004_4] 76 (0, 0)) (by (with_reducible repeat (first | refine blk_drewN ?_ _ | refine blk_drew ?_ | refine blk_alloc ?_ _)); exact BK109.out) hg (Kd.B_ne HO126.out BK109.out (by decide))); have n1_ := Aside0.mk (blk_grown (g := gb110) (o := .cells #[.string x111000_4, .string x111001_4, .string x111002_4, .bool x111003_7, .bool x111004_4] 76 (0, 0)) (by (with_reducible repeat (first | refine blk_drewN ?_ _ | refine blk_drew ?_ | refine blk_alloc ?_ _)); exact BK110.out) hg (Kd.B_ne HO126.out BK110.out (by decide))); have n2_ := Aside0.mk (Kd.B_after (ok := (fun _ => True)) (by (with_reducible repeat (first | apply Kd.B_alloc | apply Kd.B_drewN | apply Kd.B_drew)); exact Kd.B_mono HO129.out (fun _ hk => ⟨trivial, hk⟩)) hg hat); have n3_ := Aside0.mk (hb); have n4_ := Aside0.mk (ho); clear BK109; clear BK110; clear HO129; clear HB; clear HO126; have BK109 := n0_; have BK110 := n1_; have HO129 := n2_; have HB := n3_; have HO132 := n4_; clear n0_ n1_ n2_ n3_ n4_; clear ho hb hg hat))
                                                            go_roundg k4
                                                            case measure => have := HJ1.out; have := HJ7.out; have := HK3.out; have := HK4.out; omega
                                                            case rel => exact ⟨(wrap64 ((ji56) + 1)), (y127), (y130), (x110000_4), (x110001_4), (x110002_4), (x110003_4), (x110004_4), (x111000_4), (x111001_4), (x111002_4), (x111004_4), (by first | rfl | (simp; done) | (simp only [← hji56] <;> (first | rfl | (simp; done))) | (simp [*]; done) | (simp only [*]; done)), H', ⟨by have := HJ1.out; have := HJ7.out; have := HK3.out; have := HK4.out; omega⟩, ⟨by (with_reducible repeat (first | apply Kd.B_alloc | apply Kd.B_drewN | apply Kd.B_drew)); exact Kd.B_mono HO129.out (fun _ hk => hk.2)⟩, ⟨by (with_reducible repeat (first | apply Kd.B_alloc | apply Kd.B_drewN | apply Kd.B_drew)); exact HO132.out⟩, ⟨by (with_reducible repeat (first | refine blk_drewN ?_ _ | refine blk_drew ?_ | refine blk_alloc ?_ _)); exact BK109.out⟩, ⟨by (with_reducible repeat (first | refine blk_drewN ?_ _ | refine blk_drew ?_ | refine blk_alloc ?_ _)); exact BK110.out⟩, ⟨by repeat (first | (with_reducible first | exact HB.out | apply below_alloc | apply pw_below_drewN | apply below_drew1 | refine below_set ?_ GE109.out | refine below_set ?_ GE110.out) | exact HB.out)⟩⟩
                                                          · rw [if_neg c61] at H
                                                            exact absurd H (by simp)
                                                        · rw [if_neg c59] at H
                                                          exact absurd H (by simp)
                                                      · rw [if_neg c57] at H
                                                        exact absurd H (by simp)
                                                    · rw [if_neg c55] at H
                                                      have c55b0 : decide ((wrap64 (x5_4 + 1)) < (x0_7.size : Int)) = false := decide_eq_false c55
                                                      clear c55
                                                      have H' := Aside0.mk H
                                                      clear H
                                                      have p52 : 0 ≤ (x5_4 : Int) := of_decide_eq_true (by first | (with_reducible assumption) | assumption)
                                                      have q52 : x5_4 < (x0_7.size : Int) := of_decide_eq_true (by first | (with_reducible assumption) | assumption)
                                                      have hx52 := bt_at x0_7 x5_4
                                                      replace p52 := eq_true p52
                                                      replace q52 := eq_true q52
                                                      go_wp2_with (first | ((with_reducible refine gate_builtin (b := .append) (xs := #[.tmp 93, .tmp 94]) rfl ?_); at_builtin; refine Kd.B_append (Kd.int .u8) (w0 := w) w.heap.size rfl (.tmp 93) (.tmp 94) 51 5 (.int .u8 0) 1 rfl Try.underlying51 info5 rfl (by decide) (by omega) u7 x7_4 92 [.int .u8 92] (fun k_ => some k_ ≠ (u6 : Value).ownBlock) (fun _ => False) rfl rfl ?aP (fun _ hk => hk.elim) ?aF ?aO ?aB ?aS ?aL ?_; (case aP => exact rfl); (case aB => exact (by repeat (first | (with_reducible first | exact HB.out | apply below_alloc | apply pw_below_drewN | apply below_drew1 | refine below_set ?_ GE109.out | refine below_set ?_ GE110.out) | exact HB.out))); (case aF => exact (fun k_ hk => Kd.fresh' (Kd.B_lt (by (with_reducible repeat (first | apply Kd.B_alloc | apply Kd.B_drewN | apply Kd.B_drew)); exact HO_6.out)) k_ hk)); (case aO => exact (by (with_reducible repeat (first | apply Kd.B_alloc | apply Kd.B_drewN | apply Kd.B_drew)); exact HO_7.out)); (case aS => exact (below_size (by repeat (first | (with_reducible first | exact HB.out | apply below_alloc | apply pw_below_drewN | apply below_drew1 | refine below_set ?_ GE109.out | refine below_set ?_ GE110.out) | exact HB.out)))); (case aL => have := LMc54.out; omega); intro v125 w65 ho hb hg hat; rw [← Ny124.out] at ho; have n0_ := Aside0.mk (Kd.B_after (ok := (fun _ => True)) (by (with_reducible repeat (first | apply Kd.B_alloc | apply Kd.B_drewN | apply Kd.B_drew)); exact Kd.B_mono HO_6.out (fun _ hk => ⟨trivial, hk⟩)) hg hat); have n1_ := Aside0.mk (blk_grown (g := gb109) (o := .cells #[.string x110000_4, .string x110001_4, .string x110002_4, .bool x110003_4, .bool x110004_4] 76 (0, 0)) (by (with_reducible repeat (first | refine blk_drewN ?_ _ | refine blk_drew ?_ | refine blk_alloc ?_ _)); exact BK109.out) hg (Kd.B_ne HO_7.out BK109.out (by decide))); have n2_ := Aside0.mk (blk_grown (g := gb110) (o := .cells #[.string x111000_4, .string x111001_4, .string x111002_4, .bool x111003_7, .bool x111004_4] 76 (0, 0)) (by (with_reducible repeat (first | refine blk_drewN ?_ _ | refine blk_drew ?_ | refine blk_alloc ?_ _)); exact BK110.out) hg (Kd.B_ne HO_7.out BK110.out (by decide))); have n3_ := Aside0.mk (hb); have n4_ := Aside0.mk (ho); clear HO_6; clear BK109; clear BK110; clear HB; clear HO_7; have HO_6 := n0_; have BK109 := n1_; have BK110 := n2_; have HB := n3_; have HO126 := n4_; clear n0_ n1_ n2_ n3_ n4_; clear ho hb hg hat))
                                                      go_roundg k4
                                                      case measure => have := HJ1.out; have := HJ7.out; have := HK3.out; have := HK4.out; omega
                                                      case rel => exact ⟨(wrap64 ((wrap64 (x5_4 + 1)) + 1)), (x6_4), (y124), (x110000_4), (x110001_4), (x110002_4), (x110003_4), (x110004_4), (x111000_4), (x111001_4), (x111002_4), (x111004_4), (by first | rfl | (simp; done) | (simp [*]; done)), H', ⟨by have := HJ1.out; have := HJ7.out; have := HK3.out; have := HK4.out; omega⟩, ⟨by (with_reducible repeat (first | apply Kd.B_alloc | apply Kd.B_drewN | apply Kd.B_drew)); exact Kd.B_mono HO_6.out (fun _ hk => hk.2)⟩, ⟨by (with_reducible repeat (first | apply Kd.B_alloc | apply Kd.B_drewN | apply Kd.B_drew)); exact HO126.out⟩, ⟨by (with_reducible repeat (first | refine blk_drewN ?_ _ | refine blk_drew ?_ | refine blk_alloc ?_ _)); exact BK109.out⟩, ⟨by (with_reducible repeat (first | refine blk_drewN ?_ _ | refine blk_drew ?_ | refine blk_alloc ?_ _)); exact BK110.out⟩, ⟨by repeat (first | (with_reducible first | exact HB.out | apply below_alloc | apply pw_below_drewN | apply below_drew1 | refine below_set ?_ GE109.out | refine below_set ?_ GE110.out) | exact HB.out)⟩⟩
                                                  · rw [if_neg c54] at H
                                                    exact absurd H (by simp)
                                                · rw [if_neg c53] at H
                                                  have c53b0 : ((bt x0_7 x5_4) == 92) = false := beq_eq_false_iff_ne.mpr c53
                                                  have c53b1 : ((bt x0_7 x5_4) != 92) = true := bne_iff_ne.mpr c53
                                                  by_cases c67 : (bt x0_7 x5_4) = 46
                                                  · rw [if_pos c67] at H
                                                    have c67b0 : ((bt x0_7 x5_4) == 46) = true := beq_iff_eq.mpr c67
                                                    have c67b1 : ((bt x0_7 x5_4) != 46) = false := bne_eq_false_iff_eq.mpr c67
                                                    clear c67
                                                    obtain ⟨ji68, hji68⟩ : ∃ j_ : Int, (wrap64 (x5_4 + 1)) = j_ := ⟨_, rfl⟩
                                                    replace H : (if 0 ≤ (ji68) then (if (ji68) ≤ (x0_7.size : Int) then (some (strOfNums x6_4, strOfNums x7_4, x0_7.extract ((ji68) : Int).toNat x0_7.size, x111003_7, true, true)) else (none)) else (none)) = some (r1, r2, r3, r4, r5, r6) := by first | (rw [hji68] at H; exact H) | (simp only [hji68] at H ⊢; exact H)
                                                    have hji68w : (IntKind.i64.wrap (x5_4 + 1)) = ji68 := (i64_w _).trans hji68
                                                    by_cases c69 : 0 ≤ (ji68)
                                                    · rw [if_pos c69] at H
                                                      have c69b0 := eq_true c69
                                                      have c69b1 : decide (0 ≤ (ji68)) = true := decide_eq_true c69
                                                      clear c69
                                                      by_cases c70 : (ji68) ≤ (x0_7.size : Int)
                                                      · rw [if_pos c70] at H
                                                        have c70b0 := eq_true c70
                                                        have c70b1 : decide ((ji68) ≤ (x0_7.size : Int)) = true := decide_eq_true c70
                                                        clear c70
                                                        simp only [Option.some.injEq, Prod.mk.injEq] at H
                                                        obtain ⟨rfl, rfl, rfl, rfl, rfl, rfl⟩ := H
                                                        have p52 : 0 ≤ (x5_4 : Int) := of_decide_eq_true (by first | (with_reducible assumption) | assumption)
                                                        have q52 : x5_4 < (x0_7.size : Int) := of_decide_eq_true (by first | (with_reducible assumption) | assumption)
                                                        have hx52 := bt_at x0_7 x5_4
                                                        replace p52 := eq_true p52
                                                        replace q52 := eq_true q52
                                                        have p66 : 0 ≤ (x5_4 : Int) := of_decide_eq_true (by first | (with_reducible assumption) | assumption)
                                                        have q66 : x5_4 < (x0_7.size : Int) := of_decide_eq_true (by first | (with_reducible assumption) | assumption)
                                                        have hx66 := bt_at x0_7 x5_4
                                                        replace p66 := eq_true p66
                                                        replace q66 := eq_true q66
                                                        have hcv71 := ownB_string (P := Try.prog) Try.underlying51 Try.underlying5 Try.underlying9 (HO_6.out)
                                                        have hcv72 := ownB_string1 (P := Try.prog) Try.underlying51 Try.underlying5 Try.underlying9 HO_6.out BK109.out (by decide)
                                                        have hcv73 := ownB_string2 (P := Try.prog) Try.underlying51 Try.underlying5 Try.underlying9 HO_6.out BK109.out (by decide)
                                                        have hcv74 := ownB_string1 (P := Try.prog) Try.underlying51 Try.underlying5 Try.underlying9 HO_6.out BK110.out (by decide)
                                                        have hcv75 := ownB_string2 (P := Try.prog) Try.underlying51 Try.underlying5 Try.underlying9 HO_6.out BK110.out (by decide)
                                                        have hnb76 := NB110_109.out
                                                        have hnc76 := NB109_110.out
                                                        have hcz77_0 : wr.cell? ⟨gb110, 0, none⟩ = some (.string x111000_4) := (blk_cell BK110.out 0).trans rfl
                                                        have hcz77_1 : wr.cell? ⟨gb110, 1, none⟩ = some (.string x111001_4) := (blk_cell BK110.out 1).trans rfl
                                                        have hcz77_2 : wr.cell? ⟨gb110, 2, none⟩ = some (.string x111002_4) := (blk_cell BK110.out 2).trans rfl
                                                        have hcz77_3 : wr.cell? ⟨gb110, 3, none⟩ = some (.bool x111003_7) := (blk_cell BK110.out 3).trans rfl
                                                        have hcz77_4 : wr.cell? ⟨gb110, 4, none⟩ = some (.bool x111004_4) := (blk_cell BK110.out 4).trans rfl
                                                        have hfz77_0 := blk_frozen BK110.out 0
                                                        have hfz77_1 := blk_frozen BK110.out 1
                                                        have hfz77_2 := blk_frozen BK110.out 2
                                                        have hfz77_3 := blk_frozen BK110.out 3
                                                        have hfz77_4 := blk_frozen BK110.out 4
                                                        have hcv78 := ownB_string (P := Try.prog) Try.underlying51 Try.underlying5 Try.underlying9 (HO_7.out)
                                                        have hcv79 := ownB_string1 (P := Try.prog) Try.underlying51 Try.underlying5 Try.underlying9 HO_7.out BK109.out (by decide)
                                                        have hcv80 := ownB_string2 (P := Try.prog) Try.underlying51 Try.underlying5 Try.underlying9 HO_7.out BK109.out (by decide)
                                                        have hcv81 := ownB_string1 (P := Try.prog) Try.underlying51 Try.underlying5 Try.underlying9 HO_7.out BK110.out (by decide)
                                                        have hcv82 := ownB_string2 (P := Try.prog) Try.underlying51 Try.underlying5 Try.underlying9 HO_7.out BK110.out (by decide)
                                                        have hcz83_0 : wr.cell? ⟨gb109, 0, none⟩ = some (.string x110000_4) := (blk_cell BK109.out 0).trans rfl
                                                        have hcz83_1 : wr.cell? ⟨gb109, 1, none⟩ = some (.string x110001_4) := (blk_cell BK109.out 1).trans rfl
                                                        have hcz83_2 : wr.cell? ⟨gb109, 2, none⟩ = some (.string x110002_4) := (blk_cell BK109.out 2).trans rfl
                                                        have hcz83_3 : wr.cell? ⟨gb109, 3, none⟩ = some (.bool x110003_4) := (blk_cell BK109.out 3).trans rfl
                                                        have hcz83_4 : wr.cell? ⟨gb109, 4, none⟩ = some (.bool x110004_4) := (blk_cell BK109.out 4).trans rfl
                                                        have hfz83_0 := blk_frozen BK109.out 0
                                                        have hfz83_1 := blk_frozen BK109.out 1
                                                        have hfz83_2 := blk_frozen BK109.out 2
                                                        have hfz83_3 := blk_frozen BK109.out 3
                                                        have hfz83_4 := blk_frozen BK109.out 4
                                                        go_wp2
                                                        refine bodyPost_ret (results_ct rfl _ _ gb109 76 #[.string (strOfNums x6_4), .string (strOfNums x7_4), .string (x0_7.extract ((ji68) : Int).toNat x0_7.size), .bool x111003_7, .bool true] (0, 0) _ rfl (by (with_reducible repeat (first | refine blk_drewN ?_ _ | refine blk_drew ?_ | refine blk_alloc ?_ _)); refine blk_put (cs := #[.string (strOfNums x6_4), .string (strOfNums x7_4), .string (x0_7.extract ((ji68) : Int).toNat x0_7.size), .bool x111003_7, .bool x110004_4]) ?_ 4 _ rfl; (with_reducible repeat (first | refine blk_drewN ?_ _ | refine blk_drew ?_ | refine blk_alloc ?_ _)); refine blk_put (cs := #[.string (strOfNums x6_4), .string (strOfNums x7_4), .string (x0_7.extract ((ji68) : Int).toNat x0_7.size), .bool x110003_4, .bool x110004_4]) ?_ 3 _ rfl; (with_reducible repeat (first | refine blk_drewN ?_ _ | refine blk_drew ?_ | refine blk_alloc ?_ _)); refine blk_put (cs := #[.string (strOfNums x6_4), .string (strOfNums x7_4), .string x110002_4, .bool x110003_4, .bool x110004_4]) ?_ 2 _ rfl; (with_reducible repeat (first | refine blk_drewN ?_ _ | refine blk_drew ?_ | refine blk_alloc ?_ _)); refine blk_put (cs := #[.string (strOfNums x6_4), .string x110001_4, .string x110002_4, .bool x110003_4, .bool x110004_4]) ?_ 1 _ rfl; (with_reducible repeat (first | refine blk_drewN ?_ _ | refine blk_drew ?_ | refine blk_alloc ?_ _)); refine blk_put (cs := #[.string x110000_4, .string x110001_4, .string x110002_4, .bool x110003_4, .bool x110004_4]) ?_ 0 _ rfl; (with_reducible repeat (first | refine blk_drewN ?_ _ | refine blk_drew ?_ | refine blk_alloc ?_ _)); refine blk_far ?_ NB109_110.out _; (with_reducible repeat (first | refine blk_drewN ?_ _ | refine blk_drew ?_ | refine blk_alloc ?_ _)); refine blk_far ?_ NB109_110.out _; (with_reducible repeat (first | refine blk_drewN ?_ _ | refine blk_drew ?_ | refine blk_alloc ?_ _)); refine blk_far ?_ NB109_110.out _; (with_reducible repeat (first | refine blk_drewN ?_ _ | refine blk_drew ?_ | refine blk_alloc ?_ _)); refine blk_far ?_ NB109_110.out _; (with_reducible repeat (first | refine blk_drewN ?_ _ | refine blk_drew ?_ | refine blk_alloc ?_ _)); exact BK109.out) Try.underlying76 rfl (by kernel_rfl)) rfl ?_
                                                        exact ⟨by first | rfl | (simp [errW_none, errW_some] <;> rfl) | (simp only [← hji35, ← hji68]; first | rfl | (simp [errW_none, errW_some] <;> rfl)) | (simp [*, errW_none, errW_some] <;> rfl), by repeat (first | (with_reducible first | exact HB.out | apply below_alloc | apply pw_below_drewN | apply below_drew1 | refine below_set ?_ GE109.out | refine below_set ?_ GE110.out) | exact HB.out)⟩
                                                      · rw [if_neg c70] at H
                                                        exact absurd H (by simp)
                                                    · rw [if_neg c69] at H
                                                      exact absurd H (by simp)
                                                  · rw [if_neg c67] at H
                                                    have c67b0 : ((bt x0_7 x5_4) == 46) = false := beq_eq_false_iff_ne.mpr c67
                                                    have c67b1 : ((bt x0_7 x5_4) != 46) = true := bne_iff_ne.mpr c67
                                                    replace H := Option.bind_eq_some_iff.mp H
                                                    obtain ⟨t133, A850, H⟩ := H
                                                    replace H : (if t133 = true then (if x6_4.length < 140737488355328 then (if x7_4.length < 140737488355328 then (sjson_parsePath.l1 k4 x0_7 (wrap64 (x5_4 + 1)) (x6_4 ++ [bt x0_7 x5_4]) (x7_4 ++ [bt x0_7 x5_4]) x111000_4 x111001_4 x111002_4 x111003_7 x111004_4) else (none)) else (none)) else (some (x111000_4, x111001_4, x111002_4, x111003_7, x111004_4, false))) = some (r1, r2, r3, r4, r5, r6) := H
                                                    have A85 := Aside0.mk A850
                                                    clear A850
                                                    by_cases c86 : t133 = true
                                                    · subst c86
                                                      have H1 : (if x6_4.length < 140737488355328 then (if x7_4.length < 140737488355328 then (sjson_parsePath.l1 k4 x0_7 (wrap64 (x5_4 + 1)) (x6_4 ++ [bt x0_7 x5_4]) (x7_4 ++ [bt x0_7 x5_4]) x111000_4 x111001_4 x111002_4 x111003_7 x111004_4) else (none)) else (none)) = some (r1, r2, r3, r4, r5, r6) := by rw [if_pos rfl] at H; exact H
                                                      clear H
                                                      have H := H1
                                                      clear H1
                                                      by_cases c88 : x6_4.length < 140737488355328
                                                      · rw [if_pos c88] at H
                                                        have LMc88 := Aside0.mk c88
                                                        clear c88
                                                        obtain ⟨y134, hy134⟩ : ∃ y_ : List Int, y_ = (x6_4 ++ [bt x0_7 x5_4]) := ⟨_, rfl⟩
                                                        replace H : (if x7_4.length < 140737488355328 then (sjson_parsePath.l1 k4 x0_7 (wrap64 (x5_4 + 1)) y134 (x7_4 ++ [bt x0_7 x5_4]) x111000_4 x111001_4 x111002_4 x111003_7 x111004_4) else (none)) = some (r1, r2, r3, r4, r5, r6) := by first | (rw [hy134]; with_reducible exact H) | (have H2_ := (Option.bind_some _ _).symm.trans H; rw [hy134]; with_reducible exact H2_) | (have H2_ := (Option.bind_some _ _).symm.trans H; with_reducible exact H2_) | with_reducible exact H | (rw [hy134]; exact H) | exact H
                                                        have Ny134 := Aside0.mk hy134
                                                        clear hy134
                                                        by_cases c90 : x7_4.length < 140737488355328
                                                        · rw [if_pos c90] at H
                                                          have LMc90 := Aside0.mk c90
                                                          clear c90
                                                          obtain ⟨y137, hy137⟩ : ∃ y_ : List Int, y_ = (x7_4 ++ [bt x0_7 x5_4]) := ⟨_, rfl⟩
                                                          replace H : (sjson_parsePath.l1 k4 x0_7 (wrap64 (x5_4 + 1)) y134 y137 x111000_4 x111001_4 x111002_4 x111003_7 x111004_4) = some (r1, r2, r3, r4, r5, r6) := by first | (rw [hy137]; with_reducible exact H) | (have H2_ := (Option.bind_some _ _).symm.trans H; rw [hy137]; with_reducible exact H2_) | (have H2_ := (Option.bind_some _ _).symm.trans H; with_reducible exact H2_) | with_reducible exact H | (rw [hy137]; exact H) | exact H
                                                          have Ny137 := Aside0.mk hy137
                                                          clear hy137
                                                          have H' := Aside0.mk H
                                                          clear H
                                                          have p52 : 0 ≤ (x5_4 : Int) := of_decide_eq_true (by first | (with_reducible assumption) | assumption)
                                                          have q52 : x5_4 < (x0_7.size : Int) := of_decide_eq_true (by first | (with_reducible assumption) | assumption)
                                                          have hx52 := bt_at x0_7 x5_4
                                                          replace p52 := eq_true p52
                                                          replace q52 := eq_true q52
                                                          have p66 : 0 ≤ (x5_4 : Int) := of_decide_eq_true (by first | (with_reducible assumption) | assumption)
                                                          have q66 : x5_4 < (x0_7.size : Int) := of_decide_eq_true (by first | (with_reducible assumption) | assumption)
                                                          have hx66 := bt_at x0_7 x5_4
                                                          replace p66 := eq_true p66
                                                          replace q66 := eq_true q66
                                                          have p84 : 0 ≤ (x5_4 : Int) := of_decide_eq_true (by first | (with_reducible assumption) | assumption)
                                                          have q84 : x5_4 < (x0_7.size : Int) := of_decide_eq_true (by first | (with_reducible assumption) | assumption)
                                                          have hx84 := bt_at x0_7 x5_4
                                                          replace p84 := eq_true p84
                                                          replace q84 := eq_true q84
                                                          go_wp2_with (first | ((with_reducible refine gate_callee (f := 61) rfl ?_); refine goesL_ (some 134) rfl rfl Try.func61 (by kernel_rfl) rfl #[.int .u8 (bt x0_7 x5_4)] rfl (by (try simp only [List.map_toArray, List.map_cons, List.map_nil]); first | done | rfl | (simp only [List.length_drop, List.length_take]; rfl)) ?_; (with_reducible refine (sjson_isSimpleChar.calls (bt x0_7 x5_4) true _ A85.out).mono ?_); rintro e w' ⟨rfl, ⟨nd, rfl⟩⟩; refine ⟨_, rfl, ?_⟩; have p87 : 0 ≤ (x5_4 : Int) := of_decide_eq_true (by first | (with_reducible assumption) | assumption); have q87 : x5_4 < (x0_7.size : Int) := of_decide_eq_true (by first | (with_reducible assumption) | assumption); have hx87 := bt_at x0_7 x5_4; replace p87 := eq_true p87; replace q87 := eq_true q87) | ((with_reducible refine gate_builtin (b := .append) (xs := #[.tmp 137, .tmp 141]) rfl ?_); at_builtin; refine Kd.B_append (Kd.int .u8) (w0 := w) w.heap.size rfl (.tmp 137) (.tmp 141) 51 5 (.int .u8 0) 1 rfl Try.underlying51 info5 rfl (by decide) (by omega) u6 x6_4 (bt x0_7 x5_4) [.int .u8 (bt x0_7 x5_4)] (fun k_ => some k_ ≠ (u7 : Value).ownBlock) (fun _ => False) rfl rfl ?aP (fun _ hk => hk.elim) ?aF ?aO ?aB ?aS ?aL ?_; (case aP => exact rfl); (case aB => exact (by repeat (first | (with_reducible first | exact HB.out | apply below_alloc | apply pw_below_drewN | apply below_drew1 | refine below_set ?_ GE109.out | refine below_set ?_ GE110.out) | exact HB.out))); (case aF => exact (fun k_ hk => Kd.fresh' (Kd.B_lt (by (with_reducible repeat (first | apply Kd.B_alloc | apply Kd.B_drewN | apply Kd.B_drew)); exact HO_7.out)) k_ hk)); (case aO => exact (by (with_reducible repeat (first | apply Kd.B_alloc | apply Kd.B_drewN | apply Kd.B_drew)); exact HO_6.out)); (case aS => exact (below_size (by repeat (first | (with_reducible first | exact HB.out | apply below_alloc | apply pw_below_drewN | apply below_drew1 | refine below_set ?_ GE109.out | refine below_set ?_ GE110.out) | exact HB.out)))); (case aL => have := LMc88.out; omega); intro v135 w91 ho hb hg hat; rw [← Ny134.out] at ho; have n0_ := Aside0.mk (Kd.B_after (ok := (fun _ => True)) (by (with_reducible repeat (first | apply Kd.B_alloc | apply Kd.B_drewN | apply Kd.B_drew)); exact Kd.B_mono HO_7.out (fun _ hk => ⟨trivial, hk⟩)) hg hat); have n1_ := Aside0.mk (blk_grown (g := gb109) (o := .cells #[.string x110000_4, .string x110001_4, .string x110002_4, .bool x110003_4, .bool x110004_4] 76 (0, 0)) (by (with_reducible repeat (first | refine blk_drewN ?_ _ | refine blk_drew ?_ | refine blk_alloc ?_ _)); exact BK109.out) hg (Kd.B_ne HO_6.out BK109.out (by decide))); have n2_ := Aside0.mk (blk_grown (g := gb110) (o := .cells #[.string x111000_4, .string x111001_4, .string x111002_4, .bool x111003_7, .bool x111004_4] 76 (0, 0)) (by (with_reducible repeat (first | refine blk_drewN ?_ _ | refine blk_drew ?_ | refine blk_alloc ?_ _)); exact BK110.out) hg (Kd.B_ne HO_6.out BK110.out (by decide))); have n3_ := Aside0.mk (hb); have n4_ := Aside0.mk (ho); clear HO_7; clear BK109; clear BK110; clear HB; clear HO_6; have HO_7 := n0_; have BK109 := n1_; have BK110 := n2_; have HB := n3_; have HO136 := n4_; clear n0_ n1_ n2_ n3_ n4_; clear ho hb hg hat; have p89 : 0 ≤ (x5_4 : Int) := of_decide_eq_true (by first | (with_reducible assumption) | assumption); have q89 : x5_4 < (x0_7.size : Int) := of_decide_eq_true (by first | (with_reducible assumption) | assumption); have hx89 := bt_at x0_7 x5_4; replace p89 := eq_true p89; replace q89 := eq_true q89) | ((with_reducible refine gate_builtin (b := .append) (xs := #[.tmp 143, .tmp 147]) rfl ?_); at_builtin; refine Kd.B_append (Kd.int .u8) (w0 := w) w.heap.size rfl (.tmp 143) (.tmp 147) 51 5 (.int .u8 0) 1 rfl Try.underlying51 info5 rfl (by decide) (by omega) u7 x7_4 (bt x0_7 x5_4) [.int .u8 (bt x0_7 x5_4)] (fun k_ => some k_ ≠ (v135 : Value).ownBlock) (fun _ => False) rfl rfl ?aP (fun _ hk => hk.elim) ?aF ?aO ?aB ?aS ?aL ?_; (case aP => exact rfl); (case aB => exact (by repeat (first | (with_reducible first | exact HB.out | apply below_alloc | apply pw_below_drewN | apply below_drew1 | refine below_set ?_ GE109.out | refine below_set ?_ GE110.out) | exact HB.out))); (case aF => exact (fun k_ hk => Kd.fresh' (Kd.B_lt (by (with_reducible repeat (first | apply Kd.B_alloc | apply Kd.B_drewN | apply Kd.B_drew)); exact HO136.out)) k_ hk)); (case aO => exact (by (with_reducible repeat (first | apply Kd.B_alloc | apply Kd.B_drewN | apply Kd.B_drew)); exact Kd.B_mono HO_7.out (fun _ hk => hk.2))); (case aS => exact (below_size (by repeat (first | (with_reducible first | exact HB.out | apply below_alloc | apply pw_below_drewN | apply below_drew1 | refine below_set ?_ GE109.out | refine below_set ?_ GE110.out) | exact HB.out)))); (case aL => have := LMc90.out; omega); intro v138 w92 ho hb hg hat; rw [← Ny137.out] at ho; have n0_ := Aside0.mk (blk_grown (g := gb109) (o := .cells #[.string x110000_4, .string x110001_4, .string x110002_4, .bool x110003_4, .bool x110004_4] 76 (0, 0)) (by (with_reducible repeat (first | refine blk_drewN ?_ _ | refine blk_drew ?_ | refine blk_alloc ?_ _)); exact BK109.out) hg (Kd.B_ne HO_7.out BK109.out (by decide))); have n1_ := Aside0.mk (blk_grown (g := gb110) (o := .cells #[.string x111000_4, .string x111001_4, .string x111002_4, .bool x111003_7, .bool x111004_4] 76 (0, 0)) (by (with_reducible repeat (first | refine blk_drewN ?_ _ | refine blk_drew ?_ | refine blk_alloc ?_ _)); exact BK110.out) hg (Kd.B_ne HO_7.out BK110.out (by decide))); have n2_ := Aside0.mk (Kd.B_after (ok := (fun _ => True)) (by (with_reducible repeat (first | apply Kd.B_alloc | apply Kd.B_drewN | apply Kd.B_drew)); exact Kd.B_mono HO136.out (fun _ hk => ⟨trivial, hk⟩)) hg hat); have n3_ := Aside0.mk (hb); have n4_ := Aside0.mk (ho); clear BK109; clear BK110; clear HO136; clear HB; clear HO_7; have BK109 := n0_; have BK110 := n1_; have HO136 := n2_; have HB := n3_; have HO139 := n4_; clear n0_ n1_ n2_ n3_ n4_; clear ho hb hg hat))
                                                          go_roundg k4
                                                          case measure => have := HJ1.out; have := HJ7.out; have := HK3.out; have := HK4.out; omega
                                                          case rel => exact ⟨(wrap64 (x5_4 + 1)), (y134), (y137), (x110000_4), (x110001_4), (x110002_4), (x110003_4), (x110004_4), (x111000_4), (x111001_4), (x111002_4), (x111004_4), (by first | rfl | (simp; done) | (simp [*]; done)), H', ⟨by have := HJ1.out; have := HJ7.out; have := HK3.out; have := HK4.out; omega⟩, ⟨by (with_reducible repeat (first | apply Kd.B_alloc | apply Kd.B_drewN | apply Kd.B_drew)); exact Kd.B_mono HO136.out (fun _ hk => hk.2)⟩, ⟨by (with_reducible repeat (first | apply Kd.B_alloc | apply Kd.B_drewN | apply Kd.B_drew)); exact HO139.out⟩, ⟨by (with_reducible repeat (first | refine blk_drewN ?_ _ | refine blk_drew ?_ | refine blk_alloc ?_ _)); exact BK109.out⟩, ⟨by (with_reducible repeat (first | refine blk_drewN ?_ _ | refine blk_drew ?_ | refine blk_alloc ?_ _)); exact BK110.out⟩, ⟨by repeat (first | (with_reducible first | exact HB.out | apply below_alloc | apply pw_below_drewN | apply below_drew1 | refine below_set ?_ GE109.out | refine below_set ?_ GE110.out) | exact HB.out)⟩⟩
                                                        · rw [if_neg c90] at H
                                                          exact absurd H (by simp)
                                                      · rw [if_neg c88] at H
                                                        exact absurd H (by simp)
                                                    · replace c86 := Bool.eq_false_iff.mpr c86
                                                      subst c86
                                                      have H1 : (some (x111000_4, x111001_4, x111002_4, x111003_7, x111004_4, false)) = some (r1, r2, r3, r4, r5, r6) := by rw [if_neg (show ¬ (false = true) by decide)] at H; exact H
                                                      clear H
                                                      have H := H1
                                                      clear H1
                                                      simp only [Option.some.injEq, Prod.mk.injEq] at H
                                                      obtain ⟨rfl, rfl, rfl, rfl, rfl, rfl⟩ := H
                                                      have p52 : 0 ≤ (x5_4 : Int) := of_decide_eq_true (by first | (with_reducible assumption) | assumption)
                                                      have q52 : x5_4 < (x0_7.size : Int) := of_decide_eq_true (by first | (with_reducible assumption) | assumption)
                                                      have hx52 := bt_at x0_7 x5_4
                                                      replace p52 := eq_true p52
                                                      replace q52 := eq_true q52
                                                      have p66 : 0 ≤ (x5_4 : Int) := of_decide_eq_true (by first | (with_reducible assumption) | assumption)
                                                      have q66 : x5_4 < (x0_7.size : Int) := of_decide_eq_true (by first | (with_reducible assumption) | assumption)
                                                      have hx66 := bt_at x0_7 x5_4
                                                      replace p66 := eq_true p66
                                                      replace q66 := eq_true q66
                                                      have p84 : 0 ≤ (x5_4 : Int) := of_decide_eq_true (by first | (with_reducible assumption) | assumption)
                                                      have q84 : x5_4 < (x0_7.size : Int) := of_decide_eq_true (by first | (with_reducible assumption) | assumption)
                                                      have hx84 := bt_at x0_7 x5_4
                                                      replace p84 := eq_true p84
                                                      replace q84 := eq_true q84
                                                      go_wp2_with (first | ((with_reducible refine gate_callee (f := 61) rfl ?_); refine goesL_ (some 134) rfl rfl Try.func61 (by kernel_rfl) rfl #[.int .u8 (bt x0_7 x5_4)] rfl (by (try simp only [List.map_toArray, List.map_cons, List.map_nil]); first | done | rfl | (simp only [List.length_drop, List.length_take]; rfl)) ?_; (with_reducible refine (sjson_isSimpleChar.calls (bt x0_7 x5_4) false _ A85.out).mono ?_); rintro e w' ⟨rfl, ⟨nd, rfl⟩⟩; refine ⟨_, rfl, ?_⟩; (try (rw [drewN_self wr]; generalize hq_ : World.drewN wr _ = wr; have n0_ : Aside0 (Kd.B (Kd.int .u8) 5 wr w.heap.size (fun k_ => some k_ ≠ (u7 : Value).ownBlock) u6 x6_4) := ⟨by rw [← hq_]; exact (by (with_reducible repeat (first | apply Kd.B_alloc | apply Kd.B_drewN | apply Kd.B_drew)); exact HO_6.out)⟩; have n1_ : Aside0 (Kd.B (Kd.int .u8) 5 wr w.heap.size (fun k_ => some k_ ≠ (u6 : Value).ownBlock) u7 x7_4) := ⟨by rw [← hq_]; exact (by (with_reducible repeat (first | apply Kd.B_alloc | apply Kd.B_drewN | apply Kd.B_drew)); exact HO_7.out)⟩; have n2_ : Aside0 (wr.heap[gb109]? = some (.cells #[.string x110000_4, .string x110001_4, .string x110002_4, .bool x110003_4, .bool x110004_4] 76 (0, 0))) := ⟨by rw [← hq_]; exact (by (with_reducible repeat (first | refine blk_drewN ?_ _ | refine blk_drew ?_ | refine blk_alloc ?_ _)); exact BK109.out)⟩; have n3_ : Aside0 (wr.heap[gb110]? = some (.cells #[.string x111000_4, .string x111001_4, .string x111002_4, .bool x111003_7, .bool x111004_4] 76 (0, 0))) := ⟨by rw [← hq_]; exact (by (with_reducible repeat (first | refine blk_drewN ?_ _ | refine blk_drew ?_ | refine blk_alloc ?_ _)); exact BK110.out)⟩; have n4_ : Aside0 (Below w.heap.size w wr) := ⟨by rw [← hq_]; exact (by repeat (first | (with_reducible first | exact HB.out | apply below_alloc | apply pw_below_drewN | apply below_drew1 | refine below_set ?_ GE109.out | refine below_set ?_ GE110.out) | exact HB.out))⟩; clear HO_6 HO_7 BK109 BK110 HB hq_; have HO_6 := n0_; have HO_7 := n1_; have BK109 := n2_; have BK110 := n3_; have HB := n4_; clear n0_ n1_ n2_ n3_ n4_)); have hnb93 := NB110_109.out; have hnc93 := NB109_110.out; have hcz94_0 : wr.cell? ⟨gb110, 0, none⟩ = some (.string x111000_4) := (blk_cell BK110.out 0).trans rfl; have hcz94_1 : wr.cell? ⟨gb110, 1, none⟩ = some (.string x111001_4) := (blk_cell BK110.out 1).trans rfl; have hcz94_2 : wr.cell? ⟨gb110, 2, none⟩ = some (.string x111002_4) := (blk_cell BK110.out 2).trans rfl; have hcz94_3 : wr.cell? ⟨gb110, 3, none⟩ = some (.bool x111003_7) := (blk_cell BK110.out 3).trans rfl; have hcz94_4 : wr.cell? ⟨gb110, 4, none⟩ = some (.bool x111004_4) := (blk_cell BK110.out 4).trans rfl; have hfz94_0 := blk_frozen BK110.out 0; have hfz94_1 := blk_frozen BK110.out 1; have hfz94_2 := blk_frozen BK110.out 2; have hfz94_3 := blk_frozen BK110.out 3; have hfz94_4 := blk_frozen BK110.out 4; have hcz95_0 : wr.cell? ⟨gb109, 0, none⟩ = some (.string x110000_4) := (blk_cell BK109.out 0).trans rfl; have hcz95_1 : wr.cell? ⟨gb109, 1, none⟩ = some (.string x110001_4) := (blk_cell BK109.out 1).trans rfl; have hcz95_2 : wr.cell? ⟨gb109, 2, none⟩ = some (.string x110002_4) := (blk_cell BK109.out 2).trans rfl; have hcz95_3 : wr.cell? ⟨gb109, 3, none⟩ = some (.bool x110003_4) := (blk_cell BK109.out 3).trans rfl; have hcz95_4 : wr.cell? ⟨gb109, 4, none⟩ = some (.bool x110004_4) := (blk_cell BK109.out 4).trans rfl; have hfz95_0 := blk_frozen BK109.out 0; have hfz95_1 := blk_frozen BK109.out 1; have hfz95_2 := blk_frozen BK109.out 2; have hfz95_3 := blk_frozen BK109.out 3; have hfz95_4 := blk_frozen BK109.out 4))
                                                      refine bodyPost_ret (results_ct rfl _ _ gb109 76 #[.string x111000_4, .string x111001_4, .string x111002_4, .bool x111003_7, .bool x111004_4] (0, 0) _ rfl (by (with_reducible repeat (first | refine blk_drewN ?_ _ | refine blk_drew ?_ | refine blk_alloc ?_ _)); refine blk_put (cs := #[.string x111000_4, .string x111001_4, .string x111002_4, .bool x111003_7, .bool x110004_4]) ?_ 4 _ rfl; (with_reducible repeat (first | refine blk_drewN ?_ _ | refine blk_drew ?_ | refine blk_alloc ?_ _)); refine blk_put (cs := #[.string x111000_4, .string x111001_4, .string x111002_4, .bool x110003_4, .bool x110004_4]) ?_ 3 _ rfl; (with_reducible repeat (first | refine blk_drewN ?_ _ | refine blk_drew ?_ | refine blk_alloc ?_ _)); refine blk_put (cs := #[.string x111000_4, .string x111001_4, .string x110002_4, .bool x110003_4, .bool x110004_4]) ?_ 2 _ rfl; (with_reducible repeat (first | refine blk_drewN ?_ _ | refine blk_drew ?_ | refine blk_alloc ?_ _)); refine blk_put (cs := #[.string x111000_4, .string x110001_4, .string x110002_4, .bool x110003_4, .bool x110004_4]) ?_ 1 _ rfl; (with_reducible repeat (first | refine blk_drewN ?_ _ | refine blk_drew ?_ | refine blk_alloc ?_ _)); refine blk_put (cs := #[.string x110000_4, .string x110001_4, .string x110002_4, .bool x110003_4, .bool x110004_4]) ?_ 0 _ rfl; (with_reducible repeat (first | refine blk_drewN ?_ _ | refine blk_drew ?_ | refine blk_alloc ?_ _)); exact BK109.out) Try.underlying76 rfl (by kernel_rfl)) rfl ?_
                                                      exact ⟨by first | rfl | (simp [errW_none, errW_some] <;> rfl) | (simp only [← hji35]; first | rfl | (simp [errW_none, errW_some] <;> rfl)) | (simp [*, errW_none, errW_some] <;> rfl), by repeat (first | (with_reducible first | exact HB.out | apply below_alloc | apply pw_below_drewN | apply below_drew1 | refine below_set ?_ GE109.out | refine below_set ?_ GE110.out) | exact HB.out)⟩
                                              · rw [if_neg c51] at H
                                                exact absurd H (by simp)
                                            · rw [if_neg c50] at H
                                              have c50b0 : decide (x5_4 < (x0_7.size : Int)) = false := decide_eq_false c50
                                              clear c50
                                              simp only [Option.some.injEq, Prod.mk.injEq] at H
                                              obtain ⟨rfl, rfl, rfl, rfl, rfl, rfl⟩ := H
                                              have hcv96 := ownB_string (P := Try.prog) Try.underlying51 Try.underlying5 Try.underlying9 (HO_6.out)
                                              have hcv97 := ownB_string1 (P := Try.prog) Try.underlying51 Try.underlying5 Try.underlying9 HO_6.out BK109.out (by decide)
                                              have hcv98 := ownB_string2 (P := Try.prog) Try.underlying51 Try.underlying5 Try.underlying9 HO_6.out BK109.out (by decide)
                                              have hcv99 := ownB_string1 (P := Try.prog) Try.underlying51 Try.underlying5 Try.underlying9 HO_6.out BK110.out (by decide)
                                              have hcv100 := ownB_string2 (P := Try.prog) Try.underlying51 Try.underlying5 Try.underlying9 HO_6.out BK110.out (by decide)
                                              have hnb101 := NB110_109.out
                                              have hnc101 := NB109_110.out
                                              have hcz102_0 : wr.cell? ⟨gb110, 0, none⟩ = some (.string x111000_4) := (blk_cell BK110.out 0).trans rfl
                                              have hcz102_1 : wr.cell? ⟨gb110, 1, none⟩ = some (.string x111001_4) := (blk_cell BK110.out 1).trans rfl
                                              have hcz102_2 : wr.cell? ⟨gb110, 2, none⟩ = some (.string x111002_4) := (blk_cell BK110.out 2).trans rfl
                                              have hcz102_3 : wr.cell? ⟨gb110, 3, none⟩ = some (.bool x111003_7) := (blk_cell BK110.out 3).trans rfl
                                              have hcz102_4 : wr.cell? ⟨gb110, 4, none⟩ = some (.bool x111004_4) := (blk_cell BK110.out 4).trans rfl
                                              have hfz102_0 := blk_frozen BK110.out 0
                                              have hfz102_1 := blk_frozen BK110.out 1
                                              have hfz102_2 := blk_frozen BK110.out 2
                                              have hfz102_3 := blk_frozen BK110.out 3
                                              have hfz102_4 := blk_frozen BK110.out 4
                                              have hcv103 := ownB_string (P := Try.prog) Try.underlying51 Try.underlying5 Try.underlying9 (HO_7.out)
                                              have hcv104 := ownB_string1 (P := Try.prog) Try.underlying51 Try.underlying5 Try.underlying9 HO_7.out BK109.out (by decide)
                                              have hcv105 := ownB_string2 (P := Try.prog) Try.underlying51 Try.underlying5 Try.underlying9 HO_7.out BK109.out (by decide)
                                              have hcv106 := ownB_string1 (P := Try.prog) Try.underlying51 Try.underlying5 Try.underlying9 HO_7.out BK110.out (by decide)
                                              have hcv107 := ownB_string2 (P := Try.prog) Try.underlying51 Try.underlying5 Try.underlying9 HO_7.out BK110.out (by decide)
                                              have hcz108_0 : wr.cell? ⟨gb109, 0, none⟩ = some (.string x110000_4) := (blk_cell BK109.out 0).trans rfl
                                              have hcz108_1 : wr.cell? ⟨gb109, 1, none⟩ = some (.string x110001_4) := (blk_cell BK109.out 1).trans rfl
                                              have hcz108_2 : wr.cell? ⟨gb109, 2, none⟩ = some (.string x110002_4) := (blk_cell BK109.out 2).trans rfl
                                              have hcz108_3 : wr.cell? ⟨gb109, 3, none⟩ = some (.bool x110003_4) := (blk_cell BK109.out 3).trans rfl
                                              have hcz108_4 : wr.cell? ⟨gb109, 4, none⟩ = some (.bool x110004_4) := (blk_cell BK109.out 4).trans rfl
                                              have hfz108_0 := blk_frozen BK109.out 0
                                              have hfz108_1 := blk_frozen BK109.out 1
                                              have hfz108_2 := blk_frozen BK109.out 2
                                              have hfz108_3 := blk_frozen BK109.out 3
                                              have hfz108_4 := blk_frozen BK109.out 4
                                              go_wp2
                                              refine bodyPost_ret (results_ct rfl _ _ gb109 76 #[.string (strOfNums x6_4), .string (strOfNums x7_4), .string x111002_4, .bool x111003_7, .bool x111004_4] (0, 0) _ rfl (by (with_reducible repeat (first | refine blk_drewN ?_ _ | refine blk_drew ?_ | refine blk_alloc ?_ _)); refine blk_put (cs := #[.string (strOfNums x6_4), .string (strOfNums x7_4), .string x111002_4, .bool x111003_7, .bool x110004_4]) ?_ 4 _ rfl; (with_reducible repeat (first | refine blk_drewN ?_ _ | refine blk_drew ?_ | refine blk_alloc ?_ _)); refine blk_put (cs := #[.string (strOfNums x6_4), .string (strOfNums x7_4), .string x111002_4, .bool x110003_4, .bool x110004_4]) ?_ 3 _ rfl; (with_reducible repeat (first | refine blk_drewN ?_ _ | refine blk_drew ?_ | refine blk_alloc ?_ _)); refine blk_put (cs := #[.string (strOfNums x6_4), .string (strOfNums x7_4), .string x110002_4, .bool x110003_4, .bool x110004_4]) ?_ 2 _ rfl; (with_reducible repeat (first | refine blk_drewN ?_ _ | refine blk_drew ?_ | refine blk_alloc ?_ _)); refine blk_put (cs := #[.string (strOfNums x6_4), .string x110001_4, .string x110002_4, .bool x110003_4, .bool x110004_4]) ?_ 1 _ rfl; (with_reducible repeat (first | refine blk_drewN ?_ _ | refine blk_drew ?_ | refine blk_alloc ?_ _)); refine blk_put (cs := #[.string x110000_4, .string x110001_4, .string x110002_4, .bool x110003_4, .bool x110004_4]) ?_ 0 _ rfl; (with_reducible repeat (first | refine blk_drewN ?_ _ | refine blk_drew ?_ | refine blk_alloc ?_ _)); refine blk_far ?_ NB109_110.out _; (with_reducible repeat (first | refine blk_drewN ?_ _ | refine blk_drew ?_ | refine blk_alloc ?_ _)); refine blk_far ?_ NB109_110.out _; (with_reducible repeat (first | refine blk_drewN ?_ _ | refine blk_drew ?_ | refine blk_alloc ?_ _)); exact BK109.out) Try.underlying76 rfl (by kernel_rfl)) rfl ?_
                                              exact ⟨by first | rfl | (simp [errW_none, errW_some] <;> rfl) | (simp only [← hji35]; first | rfl | (simp [errW_none, errW_some] <;> rfl)) | (simp [*, errW_none, errW_some] <;> rfl), by repeat (first | (with_reducible first | exact HB.out | apply below_alloc | apply pw_below_drewN | apply below_drew1 | refine below_set ?_ GE109.out | refine below_set ?_ GE110.out) | exact HB.out)⟩
                                      · rw [if_neg c43] at H
                                        exact absurd H (by simp)
                                    · rw [if_neg c41] at H
                                      exact absurd H (by simp)
                                  · rw [if_neg c39] at H
                                    have c39b0 : decide ((ji35) < (x0_7.size : Int)) = false := decide_eq_false c39
                                    clear c39
                                    simp only [Option.some.injEq, Prod.mk.injEq] at H
                                    obtain ⟨rfl, rfl, rfl, rfl, rfl, rfl⟩ := H
                                    have p15 : 0 ≤ (x5_3 : Int) := of_decide_eq_true (by first | (with_reducible assumption) | assumption)
                                    have q15 : x5_3 < (x0_7.size : Int) := of_decide_eq_true (by first | (with_reducible assumption) | assumption)
                                    have hx15 := bt_at x0_7 x5_3
                                    replace p15 := eq_true p15
                                    replace q15 := eq_true q15
                                    have p27 : 0 ≤ (x5_3 : Int) := of_decide_eq_true (by first | (with_reducible assumption) | assumption)
                                    have q27 : x5_3 < (x0_7.size : Int) := of_decide_eq_true (by first | (with_reducible assumption) | assumption)
                                    have hx27 := bt_at x0_7 x5_3
                                    replace p27 := eq_true p27
                                    replace q27 := eq_true q27
                                    go_wp2_with (first | ((with_reducible refine gate_callee (f := 61) rfl ?_); refine goesL_ (some 47) rfl rfl Try.func61 (by kernel_rfl) rfl #[.int .u8 (bt x0_7 x5_3)] rfl (by (try simp only [List.map_toArray, List.map_cons, List.map_nil]); first | done | rfl | (simp only [List.length_drop, List.length_take]; rfl)) ?_; (with_reducible refine (sjson_isSimpleChar.calls (bt x0_7 x5_3) true _ A28.out).mono ?_); rintro e w' ⟨rfl, ⟨nd, rfl⟩⟩; refine ⟨_, rfl, ?_⟩; (try (rw [drewN_self wr]; generalize hq_ : World.drewN wr _ = wr; have n0_ : Aside0 (wr.heap[gb109]? = some (.cells #[.string x110000_3, .string x110001_3, .string x110002_3, .bool x110003_3, .bool x110004_3] 76 (0, 0))) := ⟨by rw [← hq_]; exact (by (with_reducible repeat (first | refine blk_drewN ?_ _ | refine blk_drew ?_ | refine blk_alloc ?_ _)); exact BK109.out)⟩; have n1_ : Aside0 (wr.heap[gb110]? = some (.cells #[.string x111000_3, .string x111001_3, .string x111002_3, .bool x111003_7, .bool x111004_3] 76 (0, 0))) := ⟨by rw [← hq_]; exact (by (with_reducible repeat (first | refine blk_drewN ?_ _ | refine blk_drew ?_ | refine blk_alloc ?_ _)); exact BK110.out)⟩; have n2_ : Aside0 (Below w.heap.size w wr) := ⟨by rw [← hq_]; exact (by repeat (first | (with_reducible first | exact HB.out | apply below_alloc | apply pw_below_drewN | apply below_drew1 | refine below_set ?_ GE109.out | refine below_set ?_ GE110.out) | exact HB.out))⟩; clear BK109 BK110 HB hq_; have BK109 := n0_; have BK110 := n1_; have HB := n2_; clear n0_ n1_ n2_)); have p30 : 0 ≤ (x5_3 : Int) := of_decide_eq_true (by first | (with_reducible assumption) | assumption); have q30 : x5_3 < (x0_7.size : Int) := of_decide_eq_true (by first | (with_reducible assumption) | assumption); have hx30 := bt_at x0_7 x5_3; replace p30 := eq_true p30; replace q30 := eq_true q30) | ((with_reducible refine gate_dst (N := 57) rfl ?_); refine conv_eventB (s := (x0_7.extract 0 (x5_3 : Int).toNat)) (src := 9) (dst := 51) (e := 5) rfl (N := 57) rfl _ rfl rfl Try.underlying9 Try.underlying51 Try.underlying5 (Nat.le_trans (of_decide_eq_true (by first | (with_reducible assumption) | assumption) : (x0_7.extract 0 (x5_3 : Int).toNat).size ≤ 140737488355328) (by omega)) ?_; intro v113 w109 ho110 hb; (first | rw [← Ny112.out] at ho110 | (simp only [Int.reduceToNat] at ho110; rw [← Ny112.out] at ho110)); have n0_ := Aside0.mk (Kd.B_lower (Kd.B_mono (ok' := fun k_ => True) ho110 (fun _ hk_ => trivial)) (below_size (by repeat (first | (with_reducible first | exact HB.out | apply below_alloc | apply pw_below_drewN | apply below_drew1 | refine below_set ?_ GE109.out | refine below_set ?_ GE110.out) | exact HB.out)))); have n1_ := Aside0.mk (blk_below (g := gb109) (o := .cells #[.string x110000_3, .string x110001_3, .string x110002_3, .bool x110003_3, .bool x110004_3] 76 (0, 0)) (by (with_reducible repeat (first | refine blk_drewN ?_ _ | refine blk_drew ?_ | refine blk_alloc ?_ _)); exact BK109.out) hb); have n2_ := Aside0.mk (blk_below (g := gb110) (o := .cells #[.string x111000_3, .string x111001_3, .string x111002_3, .bool x111003_7, .bool x111004_3] 76 (0, 0)) (by (with_reducible repeat (first | refine blk_drewN ?_ _ | refine blk_drew ?_ | refine blk_alloc ?_ _)); exact BK110.out) hb); have n3_ := Aside0.mk (below_step (by repeat (first | (with_reducible first | exact HB.out | apply below_alloc | apply pw_below_drewN | apply below_drew1 | refine below_set ?_ GE109.out | refine below_set ?_ GE110.out) | exact HB.out)) hb); clear BK109; clear BK110; clear HB; have HO114 := n0_; have BK109 := n1_; have BK110 := n2_; have HB := n3_; clear n0_ n1_ n2_ n3_; clear hb ho110) | ((with_reducible refine gate_dst (N := 62) rfl ?_); refine conv_eventB (s := (x0_7.extract 0 ((ji35) : Int).toNat)) (src := 9) (dst := 51) (e := 5) rfl (N := 62) rfl _ rfl rfl Try.underlying9 Try.underlying51 Try.underlying5 (Nat.le_trans (of_decide_eq_true (by first | (with_reducible assumption) | assumption) : (x0_7.extract 0 ((ji35) : Int).toNat).size ≤ 140737488355328) (by omega)) ?_; intro v116 w111 ho112 hb; (first | rw [← Ny115.out] at ho112 | (simp only [Int.reduceToNat] at ho112; rw [← Ny115.out] at ho112)); have n0_ := Aside0.mk (Kd.B_elder' (by (with_reducible repeat (first | apply Kd.B_alloc | apply Kd.B_drewN | apply Kd.B_drew)); exact HO114.out) (Kd.B_base ho112) hb); have n1_ := Aside0.mk (Kd.B_lower (Kd.B_new' (Kd.B_mono (ok' := fun k_ => True) ho112 (fun _ hk_ => trivial)) (Kd.B_lt (by (with_reducible repeat (first | apply Kd.B_alloc | apply Kd.B_drewN | apply Kd.B_drew)); exact HO114.out))) (below_size (by repeat (first | (with_reducible first | exact HB.out | apply below_alloc | apply pw_below_drewN | apply below_drew1 | refine below_set ?_ GE109.out | refine below_set ?_ GE110.out) | exact HB.out)))); have n2_ := Aside0.mk (blk_below (g := gb109) (o := .cells #[.string x110000_3, .string x110001_3, .string x110002_3, .bool x110003_3, .bool x110004_3] 76 (0, 0)) (by (with_reducible repeat (first | refine blk_drewN ?_ _ | refine blk_drew ?_ | refine blk_alloc ?_ _)); exact BK109.out) hb); have n3_ := Aside0.mk (blk_below (g := gb110) (o := .cells #[.string x111000_3, .string x111001_3, .string x111002_3, .bool x111003_7, .bool x111004_3] 76 (0, 0)) (by (with_reducible repeat (first | refine blk_drewN ?_ _ | refine blk_drew ?_ | refine blk_alloc ?_ _)); exact BK110.out) hb); have n4_ := Aside0.mk (below_step (by repeat (first | (with_reducible first | exact HB.out | apply below_alloc | apply pw_below_drewN | apply below_drew1 | refine below_set ?_ GE109.out | refine below_set ?_ GE110.out) | exact HB.out)) hb); clear HO114; clear BK109; clear BK110; clear HB; have HO114 := n0_; have HO117 := n1_; have BK109 := n2_; have BK110 := n3_; have HB := n4_; clear n0_ n1_ n2_ n3_ n4_; clear hb ho112; have hcv113 := ownB_string (P := Try.prog) Try.underlying51 Try.underlying5 Try.underlying9 (HO114.out); have hcv114 := ownB_string1 (P := Try.prog) Try.underlying51 Try.underlying5 Try.underlying9 HO114.out BK109.out (by decide); have hcv115 := ownB_string2 (P := Try.prog) Try.underlying51 Try.underlying5 Try.underlying9 HO114.out BK109.out (by decide); have hcv116 := ownB_string1 (P := Try.prog) Try.underlying51 Try.underlying5 Try.underlying9 HO114.out BK110.out (by decide); have hcv117 := ownB_string2 (P := Try.prog) Try.underlying51 Try.underlying5 Try.underlying9 HO114.out BK110.out (by decide); have hnb118 := NB110_109.out; have hnc118 := NB109_110.out; have hcz119_0 : w111.cell? ⟨gb110, 0, none⟩ = some (.string x111000_3) := (blk_cell BK110.out 0).trans rfl; have hcz119_1 : w111.cell? ⟨gb110, 1, none⟩ = some (.string x111001_3) := (blk_cell BK110.out 1).trans rfl; have hcz119_2 : w111.cell? ⟨gb110, 2, none⟩ = some (.string x111002_3) := (blk_cell BK110.out 2).trans rfl; have hcz119_3 : w111.cell? ⟨gb110, 3, none⟩ = some (.bool x111003_7) := (blk_cell BK110.out 3).trans rfl; have hcz119_4 : w111.cell? ⟨gb110, 4, none⟩ = some (.bool x111004_3) := (blk_cell BK110.out 4).trans rfl; have hfz119_0 := blk_frozen BK110.out 0; have hfz119_1 := blk_frozen BK110.out 1; have hfz119_2 := blk_frozen BK110.out 2; have hfz119_3 := blk_frozen BK110.out 3; have hfz119_4 := blk_frozen BK110.out 4; have hcv120 := ownB_string (P := Try.prog) Try.underlying51 Try.underlying5 Try.underlying9 (HO117.out); have hcv121 := ownB_string1 (P := Try.prog) Try.underlying51 Try.underlying5 Try.underlying9 HO117.out BK109.out (by decide); have hcv122 := ownB_string2 (P := Try.prog) Try.underlying51 Try.underlying5 Try.underlying9 HO117.out BK109.out (by decide); have hcv123 := ownB_string1 (P := Try.prog) Try.underlying51 Try.underlying5 Try.underlying9 HO117.out BK110.out (by decide); have hcv124 := ownB_string2 (P := Try.prog) Try.underlying51 Try.underlying5 Try.underlying9 HO117.out BK110.out (by decide); have hcz125_0 : w111.cell? ⟨gb109, 0, none⟩ = some (.string x110000_3) := (blk_cell BK109.out 0).trans rfl; have hcz125_1 : w111.cell? ⟨gb109, 1, none⟩ = some (.string x110001_3) := (blk_cell BK109.out 1).trans rfl; have hcz125_2 : w111.cell? ⟨gb109, 2, none⟩ = some (.string x110002_3) := (blk_cell BK109.out 2).trans rfl; have hcz125_3 : w111.cell? ⟨gb109, 3, none⟩ = some (.bool x110003_3) := (blk_cell BK109.out 3).trans rfl; have hcz125_4 : w111.cell? ⟨gb109, 4, none⟩ = some (.bool x110004_3) := (blk_cell BK109.out 4).trans rfl; have hfz125_0 := blk_frozen BK109.out 0; have hfz125_1 := blk_frozen BK109.out 1; have hfz125_2 := blk_frozen BK109.out 2; have hfz125_3 := blk_frozen BK109.out 3; have hfz125_4 := blk_frozen BK109.out 4))
                                    refine bodyPost_ret (results_ct rfl _ _ gb109 76 #[.string (strOfNums y112), .string (strOfNums y115), .string x111002_3, .bool x111003_7, .bool x111004_3] (0, 0) _ rfl (by (with_reducible repeat (first | refine blk_drewN ?_ _ | refine blk_drew ?_ | refine blk_alloc ?_ _)); refine blk_put (cs := #[.string (strOfNums y112), .string (strOfNums y115), .string x111002_3, .bool x111003_7, .bool x110004_3]) ?_ 4 _ rfl; (with_reducible repeat (first | refine blk_drewN ?_ _ | refine blk_drew ?_ | refine blk_alloc ?_ _)); refine blk_put (cs := #[.string (strOfNums y112), .string (strOfNums y115), .string x111002_3, .bool x110003_3, .bool x110004_3]) ?_ 3 _ rfl; (with_reducible repeat (first | refine blk_drewN ?_ _ | refine blk_drew ?_ | refine blk_alloc ?_ _)); refine blk_put (cs := #[.string (strOfNums y112), .string (strOfNums y115), .string x110002_3, .bool x110003_3, .bool x110004_3]) ?_ 2 _ rfl; (with_reducible repeat (first | refine blk_drewN ?_ _ | refine blk_drew ?_ | refine blk_alloc ?_ _)); refine blk_put (cs := #[.string (strOfNums y112), .string x110001_3, .string x110002_3, .bool x110003_3, .bool x110004_3]) ?_ 1 _ rfl; (with_reducible repeat (first | refine blk_drewN ?_ _ | refine blk_drew ?_ | refine blk_alloc ?_ _)); refine blk_put (cs := #[.string x110000_3, .string x110001_3, .string x110002_3, .bool x110003_3, .bool x110004_3]) ?_ 0 _ rfl; (with_reducible repeat (first | refine blk_drewN ?_ _ | refine blk_drew ?_ | refine blk_alloc ?_ _)); refine blk_far ?_ NB109_110.out _; (with_reducible repeat (first | refine blk_drewN ?_ _ | refine blk_drew ?_ | refine blk_alloc ?_ _)); refine blk_far ?_ NB109_110.out _; (with_reducible repeat (first | refine blk_drewN ?_ _ | refine blk_drew ?_ | refine blk_alloc ?_ _)); exact BK109.out) Try.underlying76 rfl (by kernel_rfl)) rfl ?_
                                    exact ⟨by first | rfl | (simp [errW_none, errW_some] <;> rfl) | (simp only [← hji35]; first | rfl | (simp [errW_none, errW_some] <;> rfl)) | (simp [*, errW_none, errW_some] <;> rfl), by repeat (first | (with_reducible first | exact HB.out | apply below_alloc | apply pw_below_drewN | apply below_drew1 | refine below_set ?_ GE109.out | refine below_set ?_ GE110.out) | exact HB.out)⟩
                                · rw [if_neg c38] at H
                                  exact absurd H (by simp)
                              · rw [if_neg c37] at H
                                exact absurd H (by simp)
                            · rw [if_neg c36] at H
                              exact absurd H (by simp)
                          · rw [if_neg c34] at H
                            exact absurd H (by simp)
                        · rw [if_neg c33] at H
                          exact absurd H (by simp)
                      · rw [if_neg c31] at H
                        have c31b0 : ((bt x0_7 x5_3) == 92) = false := beq_eq_false_iff_ne.mpr c31
                        have c31b1 : ((bt x0_7 x5_3) != 92) = true := bne_iff_ne.mpr c31
                        have H' := Aside0.mk H
                        clear H
                        have p15 : 0 ≤ (x5_3 : Int) := of_decide_eq_true (by first | (with_reducible assumption) | assumption)
                        have q15 : x5_3 < (x0_7.size : Int) := of_decide_eq_true (by first | (with_reducible assumption) | assumption)
                        have hx15 := bt_at x0_7 x5_3
                        replace p15 := eq_true p15
                        replace q15 := eq_true q15
                        have p27 : 0 ≤ (x5_3 : Int) := of_decide_eq_true (by first | (with_reducible assumption) | assumption)
                        have q27 : x5_3 < (x0_7.size : Int) := of_decide_eq_true (by first | (with_reducible assumption) | assumption)
                        have hx27 := bt_at x0_7 x5_3
                        replace p27 := eq_true p27
                        replace q27 := eq_true q27
                        go_wp2_with (first | ((with_reducible refine gate_callee (f := 61) rfl ?_); refine goesL_ (some 47) rfl rfl Try.func61 (by kernel_rfl) rfl #[.int .u8 (bt x0_7 x5_3)] rfl (by (try simp only [List.map_toArray, List.map_cons, List.map_nil]); first | done | rfl | (simp only [List.length_drop, List.length_take]; rfl)) ?_; (with_reducible refine (sjson_isSimpleChar.calls (bt x0_7 x5_3) true _ A28.out).mono ?_); rintro e w' ⟨rfl, ⟨nd, rfl⟩⟩; refine ⟨_, rfl, ?_⟩; have p30 : 0 ≤ (x5_3 : Int) := of_decide_eq_true (by first | (with_reducible assumption) | assumption); have q30 : x5_3 < (x0_7.size : Int) := of_decide_eq_true (by first | (with_reducible assumption) | assumption); have hx30 := bt_at x0_7 x5_3; replace p30 := eq_true p30; replace q30 := eq_true q30))
                        go_roundg k3
                        case measure => have := HJ1.out; have := HJ7.out; have := HK3.out; omega
                        case rel => exact ⟨(wrap64 (x5_3 + 1)), (x110000_3), (x110001_3), (x110002_3), (x110003_3), (x110004_3), (x111000_3), (x111001_3), (x111002_3), (x111004_3), (by first | rfl | (simp; done) | (simp [*]; done)), H', ⟨by have := HJ1.out; have := HJ7.out; have := HK3.out; omega⟩, ⟨by (with_reducible repeat (first | refine blk_drewN ?_ _ | refine blk_drew ?_ | refine blk_alloc ?_ _)); exact BK109.out⟩, ⟨by (with_reducible repeat (first | refine blk_drewN ?_ _ | refine blk_drew ?_ | refine blk_alloc ?_ _)); exact BK110.out⟩, ⟨by repeat (first | (with_reducible first | exact HB.out | apply below_alloc | apply pw_below_drewN | apply below_drew1 | refine below_set ?_ GE109.out | refine below_set ?_ GE110.out) | exact HB.out)⟩⟩
                    · replace c29 := Bool.eq_false_iff.mpr c29
                      subst c29
                      have H1 : (some (x111000_3, x111001_3, x111002_3, x111003_7, x111004_3, false)) = some (r1, r2, r3, r4, r5, r6) := by rw [if_neg (show ¬ (false = true) by decide)] at H; exact H
                      clear H
                      have H := H1
                      clear H1
                      simp only [Option.some.injEq, Prod.mk.injEq] at H
                      obtain ⟨rfl, rfl, rfl, rfl, rfl, rfl⟩ := H
                      have p15 : 0 ≤ (x5_3 : Int) := of_decide_eq_true (by first | (with_reducible assumption) | assumption)
                      have q15 : x5_3 < (x0_7.size : Int) := of_decide_eq_true (by first | (with_reducible assumption) | assumption)
                      have hx15 := bt_at x0_7 x5_3
                      replace p15 := eq_true p15
                      replace q15 := eq_true q15
                      have p27 : 0 ≤ (x5_3 : Int) := of_decide_eq_true (by first | (with_reducible assumption) | assumption)
                      have q27 : x5_3 < (x0_7.size : Int) := of_decide_eq_true (by first | (with_reducible assumption) | assumption)
                      have hx27 := bt_at x0_7 x5_3
                      replace p27 := eq_true p27
                      replace q27 := eq_true q27
                      go_wp2_with (first | ((with_reducible refine gate_callee (f := 61) rfl ?_); refine goesL_ (some 47) rfl rfl Try.func61 (by kernel_rfl) rfl #[.int .u8 (bt x0_7 x5_3)] rfl (by (try simp only [List.map_toArray, List.map_cons, List.map_nil]); first | done | rfl | (simp only [List.length_drop, List.length_take]; rfl)) ?_; (with_reducible refine (sjson_isSimpleChar.calls (bt x0_7 x5_3) false _ A28.out).mono ?_); rintro e w' ⟨rfl, ⟨nd, rfl⟩⟩; refine ⟨_, rfl, ?_⟩; (try (rw [drewN_self wr]; generalize hq_ : World.drewN wr _ = wr; have n0_ : Aside0 (wr.heap[gb109]? = some (.cells #[.string x110000_3, .string x110001_3, .string x110002_3, .bool x110003_3, .bool x110004_3] 76 (0, 0))) := ⟨by rw [← hq_]; exact (by (with_reducible repeat (first | refine blk_drewN ?_ _ | refine blk_drew ?_ | refine blk_alloc ?_ _)); exact BK109.out)⟩; have n1_ : Aside0 (wr.heap[gb110]? = some (.cells #[.string x111000_3, .string x111001_3, .string x111002_3, .bool x111003_7, .bool x111004_3] 76 (0, 0))) := ⟨by rw [← hq_]; exact (by (with_reducible repeat (first | refine blk_drewN ?_ _ | refine blk_drew ?_ | refine blk_alloc ?_ _)); exact BK110.out)⟩; have n2_ : Aside0 (Below w.heap.size w wr) := ⟨by rw [← hq_]; exact (by repeat (first | (with_reducible first | exact HB.out | apply below_alloc | apply pw_below_drewN | apply below_drew1 | refine below_set ?_ GE109.out | refine below_set ?_ GE110.out) | exact HB.out))⟩; clear BK109 BK110 HB hq_; have BK109 := n0_; have BK110 := n1_; have HB := n2_; clear n0_ n1_ n2_)); have hnb126 := NB110_109.out; have hnc126 := NB109_110.out; have hcz127_0 : wr.cell? ⟨gb110, 0, none⟩ = some (.string x111000_3) := (blk_cell BK110.out 0).trans rfl; have hcz127_1 : wr.cell? ⟨gb110, 1, none⟩ = some (.string x111001_3) := (blk_cell BK110.out 1).trans rfl; have hcz127_2 : wr.cell? ⟨gb110, 2, none⟩ = some (.string x111002_3) := (blk_cell BK110.out 2).trans rfl; have hcz127_3 : wr.cell? ⟨gb110, 3, none⟩ = some (.bool x111003_7) := (blk_cell BK110.out 3).trans rfl; have hcz127_4 : wr.cell? ⟨gb110, 4, none⟩ = some (.bool x111004_3) := (blk_cell BK110.out 4).trans rfl; have hfz127_0 := blk_frozen BK110.out 0; have hfz127_1 := blk_frozen BK110.out 1; have hfz127_2 := blk_frozen BK110.out 2; have hfz127_3 := blk_frozen BK110.out 3; have hfz127_4 := blk_frozen BK110.out 4; have hcz128_0 : wr.cell? ⟨gb109, 0, none⟩ = some (.string x110000_3) := (blk_cell BK109.out 0).trans rfl; have hcz128_1 : wr.cell? ⟨gb109, 1, none⟩ = some (.string x110001_3) := (blk_cell BK109.out 1).trans rfl; have hcz128_2 : wr.cell? ⟨gb109, 2, none⟩ = some (.string x110002_3) := (blk_cell BK109.out 2).trans rfl; have hcz128_3 : wr.cell? ⟨gb109, 3, none⟩ = some (.bool x110003_3) := (blk_cell BK109.out 3).trans rfl; have hcz128_4 : wr.cell? ⟨gb109, 4, none⟩ = some (.bool x110004_3) := (blk_cell BK109.out 4).trans rfl; have hfz128_0 := blk_frozen BK109.out 0; have hfz128_1 := blk_frozen BK109.out 1; have hfz128_2 := blk_frozen BK109.out 2; have hfz128_3 := blk_frozen BK109.out 3; have hfz128_4 := blk_frozen BK109.out 4))
                      refine bodyPost_ret (results_ct rfl _ _ gb109 76 #[.string x111000_3, .string x111001_3, .string x111002_3, .bool x111003_7, .bool x111004_3] (0, 0) _ rfl (by (with_reducible repeat (first | refine blk_drewN ?_ _ | refine blk_drew ?_ | refine blk_alloc ?_ _)); refine blk_put (cs := #[.string x111000_3, .string x111001_3, .string x111002_3, .bool x111003_7, .bool x110004_3]) ?_ 4 _ rfl; (with_reducible repeat (first | refine blk_drewN ?_ _ | refine blk_drew ?_ | refine blk_alloc ?_ _)); refine blk_put (cs := #[.string x111000_3, .string x111001_3, .string x111002_3, .bool x110003_3, .bool x110004_3]) ?_ 3 _ rfl; (with_reducible repeat (first | refine blk_drewN ?_ _ | refine blk_drew ?_ | refine blk_alloc ?_ _)); refine blk_put (cs := #[.string x111000_3, .string x111001_3, .string x110002_3, .bool x110003_3, .bool x110004_3]) ?_ 2 _ rfl; (with_reducible repeat (first | refine blk_drewN ?_ _ | refine blk_drew ?_ | refine blk_alloc ?_ _)); refine blk_put (cs := #[.string x111000_3, .string x110001_3, .string x110002_3, .bool x110003_3, .bool x110004_3]) ?_ 1 _ rfl; (with_reducible repeat (first | refine blk_drewN ?_ _ | refine blk_drew ?_ | refine blk_alloc ?_ _)); refine blk_put (cs := #[.string x110000_3, .string x110001_3, .string x110002_3, .bool x110003_3, .bool x110004_3]) ?_ 0 _ rfl; (with_reducible repeat (first | refine blk_drewN ?_ _ | refine blk_drew ?_ | refine blk_alloc ?_ _)); exact BK109.out) Try.underlying76 rfl (by kernel_rfl)) rfl ?_
                      exact ⟨by first | rfl | (simp [errW_none, errW_some] <;> rfl) | (simp [*, errW_none, errW_some] <;> rfl), by repeat (first | (with_reducible first | exact HB.out | apply below_alloc | apply pw_below_drewN | apply below_drew1 | refine below_set ?_ GE109.out | refine below_set ?_ GE110.out) | exact HB.out)⟩
                · rw [if_neg c14] at H
                  exact absurd H (by simp)
              · rw [if_neg c13] at H
                have c13b0 : decide (x5_3 < (x0_7.size : Int)) = false := decide_eq_false c13
                clear c13
                simp only [Option.some.injEq, Prod.mk.injEq] at H
                obtain ⟨rfl, rfl, rfl, rfl, rfl, rfl⟩ := H
                have hnb129 := NB110_109.out
                have hnc129 := NB109_110.out
                have hcz130_0 : wr.cell? ⟨gb110, 0, none⟩ = some (.string x111000_3) := (blk_cell BK110.out 0).trans rfl
                have hcz130_1 : wr.cell? ⟨gb110, 1, none⟩ = some (.string x111001_3) := (blk_cell BK110.out 1).trans rfl
                have hcz130_2 : wr.cell? ⟨gb110, 2, none⟩ = some (.string x111002_3) := (blk_cell BK110.out 2).trans rfl
                have hcz130_3 : wr.cell? ⟨gb110, 3, none⟩ = some (.bool x111003_7) := (blk_cell BK110.out 3).trans rfl
                have hcz130_4 : wr.cell? ⟨gb110, 4, none⟩ = some (.bool x111004_3) := (blk_cell BK110.out 4).trans rfl
                have hfz130_0 := blk_frozen BK110.out 0
                have hfz130_1 := blk_frozen BK110.out 1
                have hfz130_2 := blk_frozen BK110.out 2
                have hfz130_3 := blk_frozen BK110.out 3
                have hfz130_4 := blk_frozen BK110.out 4
                have hcz131_0 : wr.cell? ⟨gb109, 0, none⟩ = some (.string x110000_3) := (blk_cell BK109.out 0).trans rfl
                have hcz131_1 : wr.cell? ⟨gb109, 1, none⟩ = some (.string x110001_3) := (blk_cell BK109.out 1).trans rfl
                have hcz131_2 : wr.cell? ⟨gb109, 2, none⟩ = some (.string x110002_3) := (blk_cell BK109.out 2).trans rfl
                have hcz131_3 : wr.cell? ⟨gb109, 3, none⟩ = some (.bool x110003_3) := (blk_cell BK109.out 3).trans rfl
                have hcz131_4 : wr.cell? ⟨gb109, 4, none⟩ = some (.bool x110004_3) := (blk_cell BK109.out 4).trans rfl
                have hfz131_0 := blk_frozen BK109.out 0
                have hfz131_1 := blk_frozen BK109.out 1
                have hfz131_2 := blk_frozen BK109.out 2
                have hfz131_3 := blk_frozen BK109.out 3
                have hfz131_4 := blk_frozen BK109.out 4
                go_wp2
                refine bodyPost_ret (results_ct rfl _ _ gb109 76 #[.string x0_7, .string x0_7, .string x111002_3, .bool x111003_7, .bool x111004_3] (0, 0) _ rfl (by (with_reducible repeat (first | refine blk_drewN ?_ _ | refine blk_drew ?_ | refine blk_alloc ?_ _)); refine blk_put (cs := #[.string x0_7, .string x0_7, .string x111002_3, .bool x111003_7, .bool x110004_3]) ?_ 4 _ rfl; (with_reducible repeat (first | refine blk_drewN ?_ _ | refine blk_drew ?_ | refine blk_alloc ?_ _)); refine blk_put (cs := #[.string x0_7, .string x0_7, .string x111002_3, .bool x110003_3, .bool x110004_3]) ?_ 3 _ rfl; (with_reducible repeat (first | refine blk_drewN ?_ _ | refine blk_drew ?_ | refine blk_alloc ?_ _)); refine blk_put (cs := #[.string x0_7, .string x0_7, .string x110002_3, .bool x110003_3, .bool x110004_3]) ?_ 2 _ rfl; (with_reducible repeat (first | refine blk_drewN ?_ _ | refine blk_drew ?_ | refine blk_alloc ?_ _)); refine blk_put (cs := #[.string x0_7, .string x110001_3, .string x110002_3, .bool x110003_3, .bool x110004_3]) ?_ 1 _ rfl; (with_reducible repeat (first | refine blk_drewN ?_ _ | refine blk_drew ?_ | refine blk_alloc ?_ _)); refine blk_put (cs := #[.string x110000_3, .string x110001_3, .string x110002_3, .bool x110003_3, .bool x110004_3]) ?_ 0 _ rfl; (with_reducible repeat (first | refine blk_drewN ?_ _ | refine blk_drew ?_ | refine blk_alloc ?_ _)); refine blk_far ?_ NB109_110.out _; (with_reducible repeat (first | refine blk_drewN ?_ _ | refine blk_drew ?_ | refine blk_alloc ?_ _)); refine blk_far ?_ NB109_110.out _; (with_reducible repeat (first | refine blk_drewN ?_ _ | refine blk_drew ?_ | refine blk_alloc ?_ _)); exact BK109.out) Try.underlying76 rfl (by kernel_rfl)) rfl ?_
                exact ⟨by first | rfl | (simp [errW_none, errW_some] <;> rfl) | (simp [*, errW_none, errW_some] <;> rfl), by repeat (first | (with_reducible first | exact HB.out | apply below_alloc | apply pw_below_drewN | apply below_drew1 | refine below_set ?_ GE109.out | refine below_set ?_ GE110.out) | exact HB.out)⟩

end Go.Proofs.Ytikdecjojfmjaaa.PFnSjPath
