-- Written for this claim by this session's own program (wip/xprint).
import Derived.Test.YtkdpkenhhcgnbaaPFnGjResultLessFoldx0
import Derived.Test.YtkdpkenhhcgnbaaPFnGjResultLessFoldx1
import Derived.Test.YtkdpkenhhcgnbaaPFnGjResultLessFoldx2
namespace Go.Proofs.Ytkdpkenhhcgnbaa.PFnGjResultLessFold
open Go.RowKit Go.Proofs.YtkdpkenhhcgnbaaW.PrintWords Go.Proofs.YtkdpkenhhcgnbaaW.PrintLast Go.Proofs.YtkdpkenhhcgnbaaW.PrintMore
attribute [local go_sem] run_store_float max2_int min2_int max_two min_two max_three min_three max_four min_four   -- for this text's walks alone
set_option linter.unusedVariables false
set_option linter.unusedSimpArgs false

/-! ### gjson_Result_Less: function 8 -/
def gjson_Result_Less.f (k : Nat) (a0_0 : Int) (a0_1 : ByteArray) (a0_2 : ByteArray) (a0_3 : Nat) (a0_4 : Int) (l0_5 : List Int) (a1_0 : Int) (a1_1 : ByteArray) (a1_2 : ByteArray) (a1_3 : Nat) (a1_4 : Int) (l1_5 : List Int) (a2 : Bool) : Option (Bool) := if a0_0 < a1_0 then (some true) else (if a0_0 > a1_0 then (some false) else (if a0_0 = 3 then (if a2 = true then (some (Op.bytesLess a0_2.toList a1_2.toList)) else ((gjson_stringLessInsensitive.f k a0_2 a1_2).bind fun t105 => (some t105))) else (if a0_0 = 2 then (none) else (some (Op.bytesLess a0_1.toList a1_1.toList)))))
theorem gjson_Result_Less.mono : ∀ a0 a1 a2 a3 a4 a5 a6 a7 a8 a9 a10 a11 a12 k, LeO (gjson_Result_Less.f k a0 a1 a2 a3 a4 a5 a6 a7 a8 a9 a10 a11 a12) (gjson_Result_Less.f (k + 1) a0 a1 a2 a3 a4 a5 a6 a7 a8 a9 a10 a11 a12) := by
  intro a0 a1 a2 a3 a4 a5 a6 a7 a8 a9 a10 a11 a12 k
  unfold gjson_Result_Less.f
  repeat' first
      | (with_reducible exact gjson_stringLessInsensitive.mono _ _ _)
      | (with_reducible exact LeO.refl _)
      | (with_reducible exact LeO.none _)
      | (with_reducible refine LeO.ite ?_ ?_)
      | (with_reducible refine LeO.bind ?_ (fun _ => ?_))
      | exact gjson_stringLessInsensitive.mono _ _ _
      | exact LeO.none _
      | refine LeO.ite ?_ ?_
      | refine LeO.bind ?_ (fun _ => ?_)
set_option maxHeartbeats 8000000 in
set_option maxRecDepth 100000 in
theorem gjson_Result_Less.calls (k : Nat) (a0_0 : Int) (a0_1 : ByteArray) (a0_2 : ByteArray) (a0_3 : Nat) (a0_4 : Int) (A0_5 : Option Addr) (c0_5 : Nat) (l0_5 : List Int) (a1_0 : Int) (a1_1 : ByteArray) (a1_2 : ByteArray) (a1_3 : Nat) (a1_4 : Int) (A1_5 : Option Addr) (c1_5 : Nat) (l1_5 : List Int) (a2 : Bool) (r : Bool) (w : World) (hr0_5 : Kd.C (Kd.int .i64) w A0_5 l0_5.length l0_5) (hc0_5 : l0_5.length ≤ c0_5) (hr1_5 : Kd.C (Kd.int .i64) w A1_5 l1_5.length l1_5) (hc1_5 : l1_5.length ≤ c1_5) (h : gjson_Result_Less.f k a0_0 a0_1 a0_2 a0_3 a0_4 l0_5 a1_0 a1_1 a1_2 a1_3 a1_4 l1_5 a2 = some r) :
    Calls Try.prog 8 #[.agg #[.int .i64 a0_0, .string a0_1, .string a0_2, .float .f64 a0_3, .int .i64 a0_4, .slice A0_5 l0_5.length c0_5], .agg #[.int .i64 a1_0, .string a1_1, .string a1_2, .float .f64 a1_3, .int .i64 a1_4, .slice A1_5 l1_5.length c1_5], .bool a2] w fun e w' => e = .returned (.bool r) ∧ Below w.heap.size w w' := by
  have hu33 := Try.underlying33
  have HR0_5 := Aside0.mk hr0_5
  have HC0_5 := Aside0.mk hc0_5
  clear hr0_5 hc0_5
  have HR1_5 := Aside0.mk hr1_5
  have HC1_5 := Aside0.mk hc1_5
  clear hr1_5 hc1_5
  have HB := Aside0.mk (Below.refl w.heap.size w)
  have H : (if a0_0 < a1_0 then (some true) else (if a0_0 > a1_0 then (some false) else (if a0_0 = 3 then (if a2 = true then (some (Op.bytesLess a0_2.toList a1_2.toList)) else ((gjson_stringLessInsensitive.f k a0_2 a1_2).bind fun t105 => (some t105))) else (if a0_0 = 2 then (none) else (some (Op.bytesLess a0_1.toList a1_1.toList)))))) = some r := h
  clear h
  by_cases c4 : a0_0 < a1_0
  · rw [if_pos c4] at H
    have c4b0 : decide (a0_0 < a1_0) = true := decide_eq_true c4
    clear c4
    obtain rfl := Option.some.inj H
    go_enter Try.func8, Try.ntmps8
    go_wp2_with (first | ((with_reducible refine gate_dst (N := 3) rfl ?_); refine box_event ?hg (N := 3) ?hd (cs := #[.int .i64 a0_0, .string a0_1, .string a0_2, .float .f64 a0_3, .int .i64 a0_4, .slice A0_5 l0_5.length c0_5]) (t := 33) ?hr ?_; (case hd => rfl); (case hg => rfl); (case hr => first | (go_simp; done) | (go_simp; rfl)); intro gb103 hg w5 hbox hb; have n0_ := Aside0.mk (below_step (by repeat (first | (with_reducible first | exact HB.out | apply below_alloc | apply pw_below_drewN | apply below_drew1) | exact HB.out)) hb); have n1_ := Aside0.mk (hbox); have n2_ := Aside0.mk ((by rw [hg]; exact (below_size (by repeat (first | (with_reducible first | exact HB.out | apply below_alloc | apply pw_below_drewN | apply below_drew1) | exact HB.out))) : w.heap.size ≤ gb103)); have n3_ := Aside0.mk ((by rw [hg]; exact (below_size (by repeat (first | (with_reducible first | exact HB.out | apply below_alloc | apply pw_below_drewN | apply below_drew1) | exact HB.out))) : w.heap.size ≤ gb103)); clear HB; have HB := n0_; have BK103 := n1_; have GW103 := n2_; have GE103 := n3_; clear n0_ n1_ n2_ n3_; clear hb hbox hg) | ((with_reducible refine gate_dst (N := 4) rfl ?_); refine box_event ?hg (N := 4) ?hd (cs := #[.int .i64 a1_0, .string a1_1, .string a1_2, .float .f64 a1_3, .int .i64 a1_4, .slice A1_5 l1_5.length c1_5]) (t := 33) ?hr ?_; (case hd => rfl); (case hg => rfl); (case hr => first | (go_simp; done) | (go_simp; rfl)); intro gb104 hg w6 hbox hb; have n0_ := Aside0.mk (blk_below (g := gb103) (o := .cells #[.int .i64 a0_0, .string a0_1, .string a0_2, .float .f64 a0_3, .int .i64 a0_4, .slice A0_5 l0_5.length c0_5] 33 (0, 0)) (by (with_reducible repeat (first | refine blk_drewN ?_ _ | refine blk_drew ?_ | refine blk_alloc ?_ _)); exact BK103.out) hb); have n1_ := Aside0.mk (below_step (by repeat (first | (with_reducible first | exact HB.out | apply below_alloc | apply pw_below_drewN | apply below_drew1 | refine below_set ?_ GE103.out) | exact HB.out)) hb); have n2_ := Aside0.mk (hbox); have n3_ := Aside0.mk ((by rw [hg]; exact (below_size (by repeat (first | (with_reducible first | exact HB.out | apply below_alloc | apply pw_below_drewN | apply below_drew1 | refine below_set ?_ GE103.out) | exact HB.out))) : w.heap.size ≤ gb104)); have n4_ := Aside0.mk ((by rw [hg]; exact (below_size (by repeat (first | (with_reducible first | exact HB.out | apply below_alloc | apply pw_below_drewN | apply below_drew1 | refine below_set ?_ GE103.out) | exact HB.out))) : w.heap.size ≤ gb104)); have n5_ := Aside0.mk ((by rw [hg]; exact Nat.ne_of_lt (blk_lt (g := gb103) (o := .cells #[.int .i64 a0_0, .string a0_1, .string a0_2, .float .f64 a0_3, .int .i64 a0_4, .slice A0_5 l0_5.length c0_5] 33 (0, 0)) (by (with_reducible repeat (first | refine blk_drewN ?_ _ | refine blk_drew ?_ | refine blk_alloc ?_ _)); exact BK103.out)) : gb103 ≠ gb104)); have n6_ := Aside0.mk ((by rw [hg]; exact Nat.ne_of_gt (blk_lt (g := gb103) (o := .cells #[.int .i64 a0_0, .string a0_1, .string a0_2, .float .f64 a0_3, .int .i64 a0_4, .slice A0_5 l0_5.length c0_5] 33 (0, 0)) (by (with_reducible repeat (first | refine blk_drewN ?_ _ | refine blk_drew ?_ | refine blk_alloc ?_ _)); exact BK103.out)) : gb104 ≠ gb103)); clear BK103; clear HB; have BK103 := n0_; have HB := n1_; have BK104 := n2_; have GW104 := n3_; have GE104 := n4_; have NB103_104 := n5_; have NB104_103 := n6_; clear n0_ n1_ n2_ n3_ n4_ n5_ n6_; clear hb hbox hg; have hnb7 := NB103_104.out; have hnc7 := NB104_103.out; have hcz8_0 : w6.cell? ⟨gb103, 0, none⟩ = some (.int .i64 a0_0) := (blk_cell BK103.out 0).trans rfl; have hcz8_1 : w6.cell? ⟨gb103, 1, none⟩ = some (.string a0_1) := (blk_cell BK103.out 1).trans rfl; have hcz8_2 : w6.cell? ⟨gb103, 2, none⟩ = some (.string a0_2) := (blk_cell BK103.out 2).trans rfl; have hcz8_3 : w6.cell? ⟨gb103, 3, none⟩ = some (.float .f64 a0_3) := (blk_cell BK103.out 3).trans rfl; have hcz8_4 : w6.cell? ⟨gb103, 4, none⟩ = some (.int .i64 a0_4) := (blk_cell BK103.out 4).trans rfl; have hcz8_5 : w6.cell? ⟨gb103, 5, none⟩ = some (.slice A0_5 l0_5.length c0_5) := (blk_cell BK103.out 5).trans rfl; have hfz8_0 := blk_frozen BK103.out 0; have hfz8_1 := blk_frozen BK103.out 1; have hfz8_2 := blk_frozen BK103.out 2; have hfz8_3 := blk_frozen BK103.out 3; have hfz8_4 := blk_frozen BK103.out 4; have hfz8_5 := blk_frozen BK103.out 5; have hcz9_0 : w6.cell? ⟨gb104, 0, none⟩ = some (.int .i64 a1_0) := (blk_cell BK104.out 0).trans rfl; have hcz9_1 : w6.cell? ⟨gb104, 1, none⟩ = some (.string a1_1) := (blk_cell BK104.out 1).trans rfl; have hcz9_2 : w6.cell? ⟨gb104, 2, none⟩ = some (.string a1_2) := (blk_cell BK104.out 2).trans rfl; have hcz9_3 : w6.cell? ⟨gb104, 3, none⟩ = some (.float .f64 a1_3) := (blk_cell BK104.out 3).trans rfl; have hcz9_4 : w6.cell? ⟨gb104, 4, none⟩ = some (.int .i64 a1_4) := (blk_cell BK104.out 4).trans rfl; have hcz9_5 : w6.cell? ⟨gb104, 5, none⟩ = some (.slice A1_5 l1_5.length c1_5) := (blk_cell BK104.out 5).trans rfl; have hfz9_0 := blk_frozen BK104.out 0; have hfz9_1 := blk_frozen BK104.out 1; have hfz9_2 := blk_frozen BK104.out 2; have hfz9_3 := blk_frozen BK104.out 3; have hfz9_4 := blk_frozen BK104.out 4; have hfz9_5 := blk_frozen BK104.out 5))
    go_ret
    exact ⟨by first | rfl | (simp [errW_none, errW_some] <;> rfl) | (simp [*, errW_none, errW_some] <;> rfl), by repeat (first | (with_reducible first | exact HB.out | apply below_alloc | apply pw_below_drewN | apply below_drew1 | refine below_set ?_ GE103.out | refine below_set ?_ GE104.out) | exact HB.out)⟩
  · rw [if_neg c4] at H
    have c4b0 : decide (a0_0 < a1_0) = false := decide_eq_false c4
    clear c4
    by_cases c10 : a0_0 > a1_0
    · rw [if_pos c10] at H
      have c10b0 : decide (a1_0 < a0_0) = true := decide_eq_true c10
      clear c10
      obtain rfl := Option.some.inj H
      go_enter Try.func8, Try.ntmps8
      go_wp2_with (first | ((with_reducible refine gate_dst (N := 3) rfl ?_); refine box_event ?hg (N := 3) ?hd (cs := #[.int .i64 a0_0, .string a0_1, .string a0_2, .float .f64 a0_3, .int .i64 a0_4, .slice A0_5 l0_5.length c0_5]) (t := 33) ?hr ?_; (case hd => rfl); (case hg => rfl); (case hr => first | (go_simp; done) | (go_simp; rfl)); intro gb103 hg w11 hbox hb; have n0_ := Aside0.mk (below_step (by repeat (first | (with_reducible first | exact HB.out | apply below_alloc | apply pw_below_drewN | apply below_drew1) | exact HB.out)) hb); have n1_ := Aside0.mk (hbox); have n2_ := Aside0.mk ((by rw [hg]; exact (below_size (by repeat (first | (with_reducible first | exact HB.out | apply below_alloc | apply pw_below_drewN | apply below_drew1) | exact HB.out))) : w.heap.size ≤ gb103)); have n3_ := Aside0.mk ((by rw [hg]; exact (below_size (by repeat (first | (with_reducible first | exact HB.out | apply below_alloc | apply pw_below_drewN | apply below_drew1) | exact HB.out))) : w.heap.size ≤ gb103)); clear HB; have HB := n0_; have BK103 := n1_; have GW103 := n2_; have GE103 := n3_; clear n0_ n1_ n2_ n3_; clear hb hbox hg) | ((with_reducible refine gate_dst (N := 4) rfl ?_); refine box_event ?hg (N := 4) ?hd (cs := #[.int .i64 a1_0, .string a1_1, .string a1_2, .float .f64 a1_3, .int .i64 a1_4, .slice A1_5 l1_5.length c1_5]) (t := 33) ?hr ?_; (case hd => rfl); (case hg => rfl); (case hr => first | (go_simp; done) | (go_simp; rfl)); intro gb104 hg w12 hbox hb; have n0_ := Aside0.mk (blk_below (g := gb103) (o := .cells #[.int .i64 a0_0, .string a0_1, .string a0_2, .float .f64 a0_3, .int .i64 a0_4, .slice A0_5 l0_5.length c0_5] 33 (0, 0)) (by (with_reducible repeat (first | refine blk_drewN ?_ _ | refine blk_drew ?_ | refine blk_alloc ?_ _)); exact BK103.out) hb); have n1_ := Aside0.mk (below_step (by repeat (first | (with_reducible first | exact HB.out | apply below_alloc | apply pw_below_drewN | apply below_drew1 | refine below_set ?_ GE103.out) | exact HB.out)) hb); have n2_ := Aside0.mk (hbox); have n3_ := Aside0.mk ((by rw [hg]; exact (below_size (by repeat (first | (with_reducible first | exact HB.out | apply below_alloc | apply pw_below_drewN | apply below_drew1 | refine below_set ?_ GE103.out) | exact HB.out))) : w.heap.size ≤ gb104)); have n4_ := Aside0.mk ((by rw [hg]; exact (below_size (by repeat (first | (with_reducible first | exact HB.out | apply below_alloc | apply pw_below_drewN | apply below_drew1 | refine below_set ?_ GE103.out) | exact HB.out))) : w.heap.size ≤ gb104)); have n5_ := Aside0.mk ((by rw [hg]; exact Nat.ne_of_lt (blk_lt (g := gb103) (o := .cells #[.int .i64 a0_0, .string a0_1, .string a0_2, .float .f64 a0_3, .int .i64 a0_4, .slice A0_5 l0_5.length c0_5] 33 (0, 0)) (by (with_reducible repeat (first | refine blk_drewN ?_ _ | refine blk_drew ?_ | refine blk_alloc ?_ _)); exact BK103.out)) : gb103 ≠ gb104)); have n6_ := Aside0.mk ((by rw [hg]; exact Nat.ne_of_gt (blk_lt (g := gb103) (o := .cells #[.int .i64 a0_0, .string a0_1, .string a0_2, .float .f64 a0_3, .int .i64 a0_4, .slice A0_5 l0_5.length c0_5] 33 (0, 0)) (by (with_reducible repeat (first | refine blk_drewN ?_ _ | refine blk_drew ?_ | refine blk_alloc ?_ _)); exact BK103.out)) : gb104 ≠ gb103)); clear BK103; clear HB; have BK103 := n0_; have HB := n1_; have BK104 := n2_; have GW104 := n3_; have GE104 := n4_; have NB103_104 := n5_; have NB104_103 := n6_; clear n0_ n1_ n2_ n3_ n4_ n5_ n6_; clear hb hbox hg; have hnb13 := NB103_104.out; have hnc13 := NB104_103.out; have hcz14_0 : w12.cell? ⟨gb103, 0, none⟩ = some (.int .i64 a0_0) := (blk_cell BK103.out 0).trans rfl; have hcz14_1 : w12.cell? ⟨gb103, 1, none⟩ = some (.string a0_1) := (blk_cell BK103.out 1).trans rfl; have hcz14_2 : w12.cell? ⟨gb103, 2, none⟩ = some (.string a0_2) := (blk_cell BK103.out 2).trans rfl; have hcz14_3 : w12.cell? ⟨gb103, 3, none⟩ = some (.float .f64 a0_3) := (blk_cell BK103.out 3).trans rfl; have hcz14_4 : w12.cell? ⟨gb103, 4, none⟩ = some (.int .i64 a0_4) := (blk_cell BK103.out 4).trans rfl; have hcz14_5 : w12.cell? ⟨gb103, 5, none⟩ = some (.slice A0_5 l0_5.length c0_5) := (blk_cell BK103.out 5).trans rfl; have hfz14_0 := blk_frozen BK103.out 0; have hfz14_1 := blk_frozen BK103.out 1; have hfz14_2 := blk_frozen BK103.out 2; have hfz14_3 := blk_frozen BK103.out 3; have hfz14_4 := blk_frozen BK103.out 4; have hfz14_5 := blk_frozen BK103.out 5; have hcz15_0 : w12.cell? ⟨gb104, 0, none⟩ = some (.int .i64 a1_0) := (blk_cell BK104.out 0).trans rfl; have hcz15_1 : w12.cell? ⟨gb104, 1, none⟩ = some (.string a1_1) := (blk_cell BK104.out 1).trans rfl; have hcz15_2 : w12.cell? ⟨gb104, 2, none⟩ = some (.string a1_2) := (blk_cell BK104.out 2).trans rfl; have hcz15_3 : w12.cell? ⟨gb104, 3, none⟩ = some (.float .f64 a1_3) := (blk_cell BK104.out 3).trans rfl; have hcz15_4 : w12.cell? ⟨gb104, 4, none⟩ = some (.int .i64 a1_4) := (blk_cell BK104.out 4).trans rfl; have hcz15_5 : w12.cell? ⟨gb104, 5, none⟩ = some (.slice A1_5 l1_5.length c1_5) := (blk_cell BK104.out 5).trans rfl; have hfz15_0 := blk_frozen BK104.out 0; have hfz15_1 := blk_frozen BK104.out 1; have hfz15_2 := blk_frozen BK104.out 2; have hfz15_3 := blk_frozen BK104.out 3; have hfz15_4 := blk_frozen BK104.out 4; have hfz15_5 := blk_frozen BK104.out 5))
      go_ret
      exact ⟨by first | rfl | (simp [errW_none, errW_some] <;> rfl) | (simp [*, errW_none, errW_some] <;> rfl), by repeat (first | (with_reducible first | exact HB.out | apply below_alloc | apply pw_below_drewN | apply below_drew1 | refine below_set ?_ GE103.out | refine below_set ?_ GE104.out) | exact HB.out)⟩
    · rw [if_neg c10] at H
      have c10b0 : decide (a1_0 < a0_0) = false := decide_eq_false c10
      clear c10
      by_cases c16 : a0_0 = 3
      · rw [if_pos c16] at H
        have c16b0 : (a0_0 == 3) = true := beq_iff_eq.mpr c16
        have c16b1 : (a0_0 != 3) = false := bne_eq_false_iff_eq.mpr c16
        clear c16
        by_cases c17 : a2 = true
        · subst c17
          have H1 : (some (Op.bytesLess a0_2.toList a1_2.toList)) = some r := by rw [if_pos rfl] at H; exact H
          clear H
          have H := H1
          clear H1
          obtain rfl := Option.some.inj H
          go_enter Try.func8, Try.ntmps8
          go_wp2_with (first | ((with_reducible refine gate_dst (N := 3) rfl ?_); refine box_event ?hg (N := 3) ?hd (cs := #[.int .i64 a0_0, .string a0_1, .string a0_2, .float .f64 a0_3, .int .i64 a0_4, .slice A0_5 l0_5.length c0_5]) (t := 33) ?hr ?_; (case hd => rfl); (case hg => rfl); (case hr => first | (go_simp; done) | (go_simp; rfl)); intro gb103 hg w18 hbox hb; have n0_ := Aside0.mk (below_step (by repeat (first | (with_reducible first | exact HB.out | apply below_alloc | apply pw_below_drewN | apply below_drew1) | exact HB.out)) hb); have n1_ := Aside0.mk (hbox); have n2_ := Aside0.mk ((by rw [hg]; exact (below_size (by repeat (first | (with_reducible first | exact HB.out | apply below_alloc | apply pw_below_drewN | apply below_drew1) | exact HB.out))) : w.heap.size ≤ gb103)); have n3_ := Aside0.mk ((by rw [hg]; exact (below_size (by repeat (first | (with_reducible first | exact HB.out | apply below_alloc | apply pw_below_drewN | apply below_drew1) | exact HB.out))) : w.heap.size ≤ gb103)); clear HB; have HB := n0_; have BK103 := n1_; have GW103 := n2_; have GE103 := n3_; clear n0_ n1_ n2_ n3_; clear hb hbox hg) | ((with_reducible refine gate_dst (N := 4) rfl ?_); refine box_event ?hg (N := 4) ?hd (cs := #[.int .i64 a1_0, .string a1_1, .string a1_2, .float .f64 a1_3, .int .i64 a1_4, .slice A1_5 l1_5.length c1_5]) (t := 33) ?hr ?_; (case hd => rfl); (case hg => rfl); (case hr => first | (go_simp; done) | (go_simp; rfl)); intro gb104 hg w19 hbox hb; have n0_ := Aside0.mk (blk_below (g := gb103) (o := .cells #[.int .i64 a0_0, .string a0_1, .string a0_2, .float .f64 a0_3, .int .i64 a0_4, .slice A0_5 l0_5.length c0_5] 33 (0, 0)) (by (with_reducible repeat (first | refine blk_drewN ?_ _ | refine blk_drew ?_ | refine blk_alloc ?_ _)); exact BK103.out) hb); have n1_ := Aside0.mk (below_step (by repeat (first | (with_reducible first | exact HB.out | apply below_alloc | apply pw_below_drewN | apply below_drew1 | refine below_set ?_ GE103.out) | exact HB.out)) hb); have n2_ := Aside0.mk (hbox); have n3_ := Aside0.mk ((by rw [hg]; exact (below_size (by repeat (first | (with_reducible first | exact HB.out | apply below_alloc | apply pw_below_drewN | apply below_drew1 | refine below_set ?_ GE103.out) | exact HB.out))) : w.heap.size ≤ gb104)); have n4_ := Aside0.mk ((by rw [hg]; exact (below_size (by repeat (first | (with_reducible first | exact HB.out | apply below_alloc | apply pw_below_drewN | apply below_drew1 | refine below_set ?_ GE103.out) | exact HB.out))) : w.heap.size ≤ gb104)); have n5_ := Aside0.mk ((by rw [hg]; exact Nat.ne_of_lt (blk_lt (g := gb103) (o := .cells #[.int .i64 a0_0, .string a0_1, .string a0_2, .float .f64 a0_3, .int .i64 a0_4, .slice A0_5 l0_5.length c0_5] 33 (0, 0)) (by (with_reducible repeat (first | refine blk_drewN ?_ _ | refine blk_drew ?_ | refine blk_alloc ?_ _)); exact BK103.out)) : gb103 ≠ gb104)); have n6_ := Aside0.mk ((by rw [hg]; exact Nat.ne_of_gt (blk_lt (g := gb103) (o := .cells #[.int .i64 a0_0, .string a0_1, .string a0_2, .float .f64 a0_3, .int .i64 a0_4, .slice A0_5 l0_5.length c0_5] 33 (0, 0)) (by (with_reducible repeat (first | refine blk_drewN ?_ _ | refine blk_drew ?_ | refine blk_alloc ?_ _)); exact BK103.out)) : gb104 ≠ gb103)); clear BK103; clear HB; have BK103 := n0_; have HB := n1_; have BK104 := n2_; have GW104 := n3_; have GE104 := n4_; have NB103_104 := n5_; have NB104_103 := n6_; clear n0_ n1_ n2_ n3_ n4_ n5_ n6_; clear hb hbox hg; have hnb20 := NB103_104.out; have hnc20 := NB104_103.out; have hcz21_0 : w19.cell? ⟨gb103, 0, none⟩ = some (.int .i64 a0_0) := (blk_cell BK103.out 0).trans rfl; have hcz21_1 : w19.cell? ⟨gb103, 1, none⟩ = some (.string a0_1) := (blk_cell BK103.out 1).trans rfl; have hcz21_2 : w19.cell? ⟨gb103, 2, none⟩ = some (.string a0_2) := (blk_cell BK103.out 2).trans rfl; have hcz21_3 : w19.cell? ⟨gb103, 3, none⟩ = some (.float .f64 a0_3) := (blk_cell BK103.out 3).trans rfl; have hcz21_4 : w19.cell? ⟨gb103, 4, none⟩ = some (.int .i64 a0_4) := (blk_cell BK103.out 4).trans rfl; have hcz21_5 : w19.cell? ⟨gb103, 5, none⟩ = some (.slice A0_5 l0_5.length c0_5) := (blk_cell BK103.out 5).trans rfl; have hfz21_0 := blk_frozen BK103.out 0; have hfz21_1 := blk_frozen BK103.out 1; have hfz21_2 := blk_frozen BK103.out 2; have hfz21_3 := blk_frozen BK103.out 3; have hfz21_4 := blk_frozen BK103.out 4; have hfz21_5 := blk_frozen BK103.out 5; have hcz22_0 : w19.cell? ⟨gb104, 0, none⟩ = some (.int .i64 a1_0) := (blk_cell BK104.out 0).trans rfl; have hcz22_1 : w19.cell? ⟨gb104, 1, none⟩ = some (.string a1_1) := (blk_cell BK104.out 1).trans rfl; have hcz22_2 : w19.cell? ⟨gb104, 2, none⟩ = some (.string a1_2) := (blk_cell BK104.out 2).trans rfl; have hcz22_3 : w19.cell? ⟨gb104, 3, none⟩ = some (.float .f64 a1_3) := (blk_cell BK104.out 3).trans rfl; have hcz22_4 : w19.cell? ⟨gb104, 4, none⟩ = some (.int .i64 a1_4) := (blk_cell BK104.out 4).trans rfl; have hcz22_5 : w19.cell? ⟨gb104, 5, none⟩ = some (.slice A1_5 l1_5.length c1_5) := (blk_cell BK104.out 5).trans rfl; have hfz22_0 := blk_frozen BK104.out 0; have hfz22_1 := blk_frozen BK104.out 1; have hfz22_2 := blk_frozen BK104.out 2; have hfz22_3 := blk_frozen BK104.out 3; have hfz22_4 := blk_frozen BK104.out 4; have hfz22_5 := blk_frozen BK104.out 5))
          go_ret
          exact ⟨by first | rfl | (simp [errW_none, errW_some] <;> rfl) | (simp [*, errW_none, errW_some] <;> rfl), by repeat (first | (with_reducible first | exact HB.out | apply below_alloc | apply pw_below_drewN | apply below_drew1 | refine below_set ?_ GE103.out | refine below_set ?_ GE104.out) | exact HB.out)⟩
        · replace c17 := Bool.eq_false_iff.mpr c17
          subst c17
          have H1 : ((gjson_stringLessInsensitive.f k a0_2 a1_2).bind fun t105 => (some t105)) = some r := by rw [if_neg (show ¬ (false = true) by decide)] at H; exact H
          clear H
          have H := H1
          clear H1
          replace H := Option.bind_eq_some_iff.mp H
          obtain ⟨t105, A230, H⟩ := H
          replace H : (some t105) = some r := H
          have A23 := Aside0.mk A230
          clear A230
          obtain rfl := Option.some.inj H
          go_enter Try.func8, Try.ntmps8
          go_wp2_with (first | ((with_reducible refine gate_dst (N := 3) rfl ?_); refine box_event ?hg (N := 3) ?hd (cs := #[.int .i64 a0_0, .string a0_1, .string a0_2, .float .f64 a0_3, .int .i64 a0_4, .slice A0_5 l0_5.length c0_5]) (t := 33) ?hr ?_; (case hd => rfl); (case hg => rfl); (case hr => first | (go_simp; done) | (go_simp; rfl)); intro gb103 hg w24 hbox hb; have n0_ := Aside0.mk (below_step (by repeat (first | (with_reducible first | exact HB.out | apply below_alloc | apply pw_below_drewN | apply below_drew1) | exact HB.out)) hb); have n1_ := Aside0.mk (hbox); have n2_ := Aside0.mk ((by rw [hg]; exact (below_size (by repeat (first | (with_reducible first | exact HB.out | apply below_alloc | apply pw_below_drewN | apply below_drew1) | exact HB.out))) : w.heap.size ≤ gb103)); have n3_ := Aside0.mk ((by rw [hg]; exact (below_size (by repeat (first | (with_reducible first | exact HB.out | apply below_alloc | apply pw_below_drewN | apply below_drew1) | exact HB.out))) : w.heap.size ≤ gb103)); clear HB; have HB := n0_; have BK103 := n1_; have GW103 := n2_; have GE103 := n3_; clear n0_ n1_ n2_ n3_; clear hb hbox hg) | ((with_reducible refine gate_dst (N := 4) rfl ?_); refine box_event ?hg (N := 4) ?hd (cs := #[.int .i64 a1_0, .string a1_1, .string a1_2, .float .f64 a1_3, .int .i64 a1_4, .slice A1_5 l1_5.length c1_5]) (t := 33) ?hr ?_; (case hd => rfl); (case hg => rfl); (case hr => first | (go_simp; done) | (go_simp; rfl)); intro gb104 hg w25 hbox hb; have n0_ := Aside0.mk (blk_below (g := gb103) (o := .cells #[.int .i64 a0_0, .string a0_1, .string a0_2, .float .f64 a0_3, .int .i64 a0_4, .slice A0_5 l0_5.length c0_5] 33 (0, 0)) (by (with_reducible repeat (first | refine blk_drewN ?_ _ | refine blk_drew ?_ | refine blk_alloc ?_ _)); exact BK103.out) hb); have n1_ := Aside0.mk (below_step (by repeat (first | (with_reducible first | exact HB.out | apply below_alloc | apply pw_below_drewN | apply below_drew1 | refine below_set ?_ GE103.out) | exact HB.out)) hb); have n2_ := Aside0.mk (hbox); have n3_ := Aside0.mk ((by rw [hg]; exact (below_size (by repeat (first | (with_reducible first | exact HB.out | apply below_alloc | apply pw_below_drewN | apply below_drew1 | refine below_set ?_ GE103.out) | exact HB.out))) : w.heap.size ≤ gb104)); have n4_ := Aside0.mk ((by rw [hg]; exact (below_size (by repeat (first | (with_reducible first | exact HB.out | apply below_alloc | apply pw_below_drewN | apply below_drew1 | refine below_set ?_ GE103.out) | exact HB.out))) : w.heap.size ≤ gb104)); have n5_ := Aside0.mk ((by rw [hg]; exact Nat.ne_of_lt (blk_lt (g := gb103) (o := .cells #[.int .i64 a0_0, .string a0_1, .string a0_2, .float .f64 a0_3, .int .i64 a0_4, .slice A0_5 l0_5.length c0_5] 33 (0, 0)) (by (with_reducible repeat (first | refine blk_drewN ?_ _ | refine blk_drew ?_ | refine blk_alloc ?_ _)); exact BK103.out)) : gb103 ≠ gb104)); have n6_ := Aside0.mk ((by rw [hg]; exact Nat.ne_of_gt (blk_lt (g := gb103) (o := .cells #[.int .i64 a0_0, .string a0_1, .string a0_2, .float .f64 a0_3, .int .i64 a0_4, .slice A0_5 l0_5.length c0_5] 33 (0, 0)) (by (with_reducible repeat (first | refine blk_drewN ?_ _ | refine blk_drew ?_ | refine blk_alloc ?_ _)); exact BK103.out)) : gb104 ≠ gb103)); clear BK103; clear HB; have BK103 := n0_; have HB := n1_; have BK104 := n2_; have GW104 := n3_; have GE104 := n4_; have NB103_104 := n5_; have NB104_103 := n6_; clear n0_ n1_ n2_ n3_ n4_ n5_ n6_; clear hb hbox hg; have hnb26 := NB103_104.out; have hnc26 := NB104_103.out; have hcz27_0 : w25.cell? ⟨gb103, 0, none⟩ = some (.int .i64 a0_0) := (blk_cell BK103.out 0).trans rfl; have hcz27_1 : w25.cell? ⟨gb103, 1, none⟩ = some (.string a0_1) := (blk_cell BK103.out 1).trans rfl; have hcz27_2 : w25.cell? ⟨gb103, 2, none⟩ = some (.string a0_2) := (blk_cell BK103.out 2).trans rfl; have hcz27_3 : w25.cell? ⟨gb103, 3, none⟩ = some (.float .f64 a0_3) := (blk_cell BK103.out 3).trans rfl; have hcz27_4 : w25.cell? ⟨gb103, 4, none⟩ = some (.int .i64 a0_4) := (blk_cell BK103.out 4).trans rfl; have hcz27_5 : w25.cell? ⟨gb103, 5, none⟩ = some (.slice A0_5 l0_5.length c0_5) := (blk_cell BK103.out 5).trans rfl; have hfz27_0 := blk_frozen BK103.out 0; have hfz27_1 := blk_frozen BK103.out 1; have hfz27_2 := blk_frozen BK103.out 2; have hfz27_3 := blk_frozen BK103.out 3; have hfz27_4 := blk_frozen BK103.out 4; have hfz27_5 := blk_frozen BK103.out 5; have hcz28_0 : w25.cell? ⟨gb104, 0, none⟩ = some (.int .i64 a1_0) := (blk_cell BK104.out 0).trans rfl; have hcz28_1 : w25.cell? ⟨gb104, 1, none⟩ = some (.string a1_1) := (blk_cell BK104.out 1).trans rfl; have hcz28_2 : w25.cell? ⟨gb104, 2, none⟩ = some (.string a1_2) := (blk_cell BK104.out 2).trans rfl; have hcz28_3 : w25.cell? ⟨gb104, 3, none⟩ = some (.float .f64 a1_3) := (blk_cell BK104.out 3).trans rfl; have hcz28_4 : w25.cell? ⟨gb104, 4, none⟩ = some (.int .i64 a1_4) := (blk_cell BK104.out 4).trans rfl; have hcz28_5 : w25.cell? ⟨gb104, 5, none⟩ = some (.slice A1_5 l1_5.length c1_5) := (blk_cell BK104.out 5).trans rfl; have hfz28_0 := blk_frozen BK104.out 0; have hfz28_1 := blk_frozen BK104.out 1; have hfz28_2 := blk_frozen BK104.out 2; have hfz28_3 := blk_frozen BK104.out 3; have hfz28_4 := blk_frozen BK104.out 4; have hfz28_5 := blk_frozen BK104.out 5) | ((with_reducible refine gate_callee (f := 10) rfl ?_); refine goesL_ (some 30) rfl rfl Try.func10 (by kernel_rfl) rfl #[.string a0_2, .string a1_2] rfl (by (try simp only [List.map_toArray, List.map_cons, List.map_nil]); first | done | rfl | (simp only [List.length_drop, List.length_take]; rfl)) ?_; (with_reducible refine (gjson_stringLessInsensitive.calls k a0_2 a1_2 t105 _ A23.out).mono ?_); rintro e w' ⟨rfl, ⟨nd, rfl⟩⟩; refine ⟨_, rfl, ?_⟩))
          go_ret
          exact ⟨by first | rfl | (simp [errW_none, errW_some] <;> rfl) | (simp [*, errW_none, errW_some] <;> rfl), by repeat (first | (with_reducible first | exact HB.out | apply below_alloc | apply pw_below_drewN | apply below_drew1 | refine below_set ?_ GE103.out | refine below_set ?_ GE104.out) | exact HB.out)⟩
      · rw [if_neg c16] at H
        have c16b0 : (a0_0 == 3) = false := beq_eq_false_iff_ne.mpr c16
        have c16b1 : (a0_0 != 3) = true := bne_iff_ne.mpr c16
        by_cases c29 : a0_0 = 2
        · rw [if_pos c29] at H
          have c29b0 : (a0_0 == 2) = true := beq_iff_eq.mpr c29
          have c29b1 : (a0_0 != 2) = false := bne_eq_false_iff_eq.mpr c29
          clear c29
          exact absurd H (by simp)
        · rw [if_neg c29] at H
          have c29b0 : (a0_0 == 2) = false := beq_eq_false_iff_ne.mpr c29
          have c29b1 : (a0_0 != 2) = true := bne_iff_ne.mpr c29
          obtain rfl := Option.some.inj H
          go_enter Try.func8, Try.ntmps8
          go_wp2_with (first | ((with_reducible refine gate_dst (N := 3) rfl ?_); refine box_event ?hg (N := 3) ?hd (cs := #[.int .i64 a0_0, .string a0_1, .string a0_2, .float .f64 a0_3, .int .i64 a0_4, .slice A0_5 l0_5.length c0_5]) (t := 33) ?hr ?_; (case hd => rfl); (case hg => rfl); (case hr => first | (go_simp; done) | (go_simp; rfl)); intro gb103 hg w30 hbox hb; have n0_ := Aside0.mk (below_step (by repeat (first | (with_reducible first | exact HB.out | apply below_alloc | apply pw_below_drewN | apply below_drew1) | exact HB.out)) hb); have n1_ := Aside0.mk (hbox); have n2_ := Aside0.mk ((by rw [hg]; exact (below_size (by repeat (first | (with_reducible first | exact HB.out | apply below_alloc | apply pw_below_drewN | apply below_drew1) | exact HB.out))) : w.heap.size ≤ gb103)); have n3_ := Aside0.mk ((by rw [hg]; exact (below_size (by repeat (first | (with_reducible first | exact HB.out | apply below_alloc | apply pw_below_drewN | apply below_drew1) | exact HB.out))) : w.heap.size ≤ gb103)); clear HB; have HB := n0_; have BK103 := n1_; have GW103 := n2_; have GE103 := n3_; clear n0_ n1_ n2_ n3_; clear hb hbox hg) | ((with_reducible refine gate_dst (N := 4) rfl ?_); refine box_event ?hg (N := 4) ?hd (cs := #[.int .i64 a1_0, .string a1_1, .string a1_2, .float .f64 a1_3, .int .i64 a1_4, .slice A1_5 l1_5.length c1_5]) (t := 33) ?hr ?_; (case hd => rfl); (case hg => rfl); (case hr => first | (go_simp; done) | (go_simp; rfl)); intro gb104 hg w31 hbox hb; have n0_ := Aside0.mk (blk_below (g := gb103) (o := .cells #[.int .i64 a0_0, .string a0_1, .string a0_2, .float .f64 a0_3, .int .i64 a0_4, .slice A0_5 l0_5.length c0_5] 33 (0, 0)) (by (with_reducible repeat (first | refine blk_drewN ?_ _ | refine blk_drew ?_ | refine blk_alloc ?_ _)); exact BK103.out) hb); have n1_ := Aside0.mk (below_step (by repeat (first | (with_reducible first | exact HB.out | apply below_alloc | apply pw_below_drewN | apply below_drew1 | refine below_set ?_ GE103.out) | exact HB.out)) hb); have n2_ := Aside0.mk (hbox); have n3_ := Aside0.mk ((by rw [hg]; exact (below_size (by repeat (first | (with_reducible first | exact HB.out | apply below_alloc | apply pw_below_drewN | apply below_drew1 | refine below_set ?_ GE103.out) | exact HB.out))) : w.heap.size ≤ gb104)); have n4_ := Aside0.mk ((by rw [hg]; exact (below_size (by repeat (first | (with_reducible first | exact HB.out | apply below_alloc | apply pw_below_drewN | apply below_drew1 | refine below_set ?_ GE103.out) | exact HB.out))) : w.heap.size ≤ gb104)); have n5_ := Aside0.mk ((by rw [hg]; exact Nat.ne_of_lt (blk_lt (g := gb103) (o := .cells #[.int .i64 a0_0, .string a0_1, .string a0_2, .float .f64 a0_3, .int .i64 a0_4, .slice A0_5 l0_5.length c0_5] 33 (0, 0)) (by (with_reducible repeat (first | refine blk_drewN ?_ _ | refine blk_drew ?_ | refine blk_alloc ?_ _)); exact BK103.out)) : gb103 ≠ gb104)); have n6_ := Aside0.mk ((by rw [hg]; exact Nat.ne_of_gt (blk_lt (g := gb103) (o := .cells #[.int .i64 a0_0, .string a0_1, .string a0_2, .float .f64 a0_3, .int .i64 a0_4, .slice A0_5 l0_5.length c0_5] 33 (0, 0)) (by (with_reducible repeat (first | refine blk_drewN ?_ _ | refine blk_drew ?_ | refine blk_alloc ?_ _)); exact BK103.out)) : gb104 ≠ gb103)); clear BK103; clear HB; have BK103 := n0_; have HB := n1_; have BK104 := n2_; have GW104 := n3_; have GE104 := n4_; have NB103_104 := n5_; have NB104_103 := n6_; clear n0_ n1_ n2_ n3_ n4_ n5_ n6_; clear hb hbox hg; have hnb32 := NB103_104.out; have hnc32 := NB104_103.out; have hcz33_0 : w31.cell? ⟨gb103, 0, none⟩ = some (.int .i64 a0_0) := (blk_cell BK103.out 0).trans rfl; have hcz33_1 : w31.cell? ⟨gb103, 1, none⟩ = some (.string a0_1) := (blk_cell BK103.out 1).trans rfl; have hcz33_2 : w31.cell? ⟨gb103, 2, none⟩ = some (.string a0_2) := (blk_cell BK103.out 2).trans rfl; have hcz33_3 : w31.cell? ⟨gb103, 3, none⟩ = some (.float .f64 a0_3) := (blk_cell BK103.out 3).trans rfl; have hcz33_4 : w31.cell? ⟨gb103, 4, none⟩ = some (.int .i64 a0_4) := (blk_cell BK103.out 4).trans rfl; have hcz33_5 : w31.cell? ⟨gb103, 5, none⟩ = some (.slice A0_5 l0_5.length c0_5) := (blk_cell BK103.out 5).trans rfl; have hfz33_0 := blk_frozen BK103.out 0; have hfz33_1 := blk_frozen BK103.out 1; have hfz33_2 := blk_frozen BK103.out 2; have hfz33_3 := blk_frozen BK103.out 3; have hfz33_4 := blk_frozen BK103.out 4; have hfz33_5 := blk_frozen BK103.out 5; have hcz34_0 : w31.cell? ⟨gb104, 0, none⟩ = some (.int .i64 a1_0) := (blk_cell BK104.out 0).trans rfl; have hcz34_1 : w31.cell? ⟨gb104, 1, none⟩ = some (.string a1_1) := (blk_cell BK104.out 1).trans rfl; have hcz34_2 : w31.cell? ⟨gb104, 2, none⟩ = some (.string a1_2) := (blk_cell BK104.out 2).trans rfl; have hcz34_3 : w31.cell? ⟨gb104, 3, none⟩ = some (.float .f64 a1_3) := (blk_cell BK104.out 3).trans rfl; have hcz34_4 : w31.cell? ⟨gb104, 4, none⟩ = some (.int .i64 a1_4) := (blk_cell BK104.out 4).trans rfl; have hcz34_5 : w31.cell? ⟨gb104, 5, none⟩ = some (.slice A1_5 l1_5.length c1_5) := (blk_cell BK104.out 5).trans rfl; have hfz34_0 := blk_frozen BK104.out 0; have hfz34_1 := blk_frozen BK104.out 1; have hfz34_2 := blk_frozen BK104.out 2; have hfz34_3 := blk_frozen BK104.out 3; have hfz34_4 := blk_frozen BK104.out 4; have hfz34_5 := blk_frozen BK104.out 5))
          go_ret
          exact ⟨by first | rfl | (simp [errW_none, errW_some] <;> rfl) | (simp [*, errW_none, errW_some] <;> rfl), by repeat (first | (with_reducible first | exact HB.out | apply below_alloc | apply pw_below_drewN | apply below_drew1 | refine below_set ?_ GE103.out | refine below_set ?_ GE104.out) | exact HB.out)⟩

/-! ### impl_GjResultLess: function 5 -/
def impl_GjResultLess.f (k : Nat) (a0_0 : Int) (a0_1 : ByteArray) (a0_2 : ByteArray) (a0_3 : Nat) (a0_4 : Bool) (a1_0 : Int) (a1_1 : ByteArray) (a1_2 : ByteArray) (a1_3 : Nat) (a1_4 : Bool) (a2 : Bool) : Option (Bool) := (impl_gjOf.f a0_0 a0_1 a0_2 a0_3 a0_4).bind fun bt108 => ((impl_gjOf.f a1_0 a1_1 a1_2 a1_3 a1_4).bind fun bt116 => ((gjson_Result_Less.f k bt108.1 bt108.2.1 bt108.2.2.1 bt108.2.2.2.1 bt108.2.2.2.2.1 bt108.2.2.2.2.2 bt116.1 bt116.2.1 bt116.2.2.1 bt116.2.2.2.1 bt116.2.2.2.2.1 bt116.2.2.2.2.2 a2).bind fun t124 => (some t124)))
theorem impl_GjResultLess.mono : ∀ a0 a1 a2 a3 a4 a5 a6 a7 a8 a9 a10 k, LeO (impl_GjResultLess.f k a0 a1 a2 a3 a4 a5 a6 a7 a8 a9 a10) (impl_GjResultLess.f (k + 1) a0 a1 a2 a3 a4 a5 a6 a7 a8 a9 a10) := by
  intro a0 a1 a2 a3 a4 a5 a6 a7 a8 a9 a10 k
  unfold impl_GjResultLess.f
  repeat' first
      | (with_reducible exact gjson_Result_Less.mono _ _ _ _ _ _ _ _ _ _ _ _ _ _)
      | (with_reducible exact LeO.refl _)
      | (with_reducible exact LeO.none _)
      | (with_reducible refine LeO.ite ?_ ?_)
      | (with_reducible refine LeO.bind ?_ (fun _ => ?_))
      | exact gjson_Result_Less.mono _ _ _ _ _ _ _ _ _ _ _ _ _ _
      | exact LeO.none _
      | refine LeO.ite ?_ ?_
      | refine LeO.bind ?_ (fun _ => ?_)
set_option maxHeartbeats 8000000 in
set_option maxRecDepth 100000 in
theorem impl_GjResultLess.calls (k : Nat) (a0_0 : Int) (a0_1 : ByteArray) (a0_2 : ByteArray) (a0_3 : Nat) (a0_4 : Bool) (a1_0 : Int) (a1_1 : ByteArray) (a1_2 : ByteArray) (a1_3 : Nat) (a1_4 : Bool) (a2 : Bool) (r : Bool) (w : World) (h : impl_GjResultLess.f k a0_0 a0_1 a0_2 a0_3 a0_4 a1_0 a1_1 a1_2 a1_3 a1_4 a2 = some r) :
    Calls Try.prog 5 #[.agg #[.int .i64 a0_0, .string a0_1, .string a0_2, .float .f64 a0_3, .bool a0_4], .agg #[.int .i64 a1_0, .string a1_1, .string a1_2, .float .f64 a1_3, .bool a1_4], .bool a2] w fun e w' => e = .returned (.bool r) ∧ Below w.heap.size w w' := by
  have hu26 := Try.underlying26
  have HB := Aside0.mk (Below.refl w.heap.size w)
  have H : ((impl_gjOf.f a0_0 a0_1 a0_2 a0_3 a0_4).bind fun bt108 => ((impl_gjOf.f a1_0 a1_1 a1_2 a1_3 a1_4).bind fun bt116 => ((gjson_Result_Less.f k bt108.1 bt108.2.1 bt108.2.2.1 bt108.2.2.2.1 bt108.2.2.2.2.1 bt108.2.2.2.2.2 bt116.1 bt116.2.1 bt116.2.2.1 bt116.2.2.2.1 bt116.2.2.2.2.1 bt116.2.2.2.2.2 a2).bind fun t124 => (some t124)))) = some r := h
  clear h
  replace H := Option.bind_eq_some_iff.mp H
  obtain ⟨⟨t108, t109, t110, t111, t112, t113⟩, A40, H⟩ := H
  replace H : ((impl_gjOf.f a1_0 a1_1 a1_2 a1_3 a1_4).bind fun bt116 => ((gjson_Result_Less.f k t108 t109 t110 t111 t112 t113 bt116.1 bt116.2.1 bt116.2.2.1 bt116.2.2.2.1 bt116.2.2.2.2.1 bt116.2.2.2.2.2 a2).bind fun t124 => (some t124))) = some r := H
  have A4 := Aside0.mk A40
  clear A40
  replace H := Option.bind_eq_some_iff.mp H
  obtain ⟨⟨t116, t117, t118, t119, t120, t121⟩, A50, H⟩ := H
  replace H : ((gjson_Result_Less.f k t108 t109 t110 t111 t112 t113 t116 t117 t118 t119 t120 t121 a2).bind fun t124 => (some t124)) = some r := H
  have A5 := Aside0.mk A50
  clear A50
  replace H := Option.bind_eq_some_iff.mp H
  obtain ⟨t124, A60, H⟩ := H
  replace H : (some t124) = some r := H
  have A6 := Aside0.mk A60
  clear A60
  obtain rfl := Option.some.inj H
  go_enter Try.func5, Try.ntmps5
  try go_wp2_with (first | ((with_reducible refine gate_dst (N := 3) rfl ?_); refine box_event ?hg (N := 3) ?hd (cs := #[.int .i64 a0_0, .string a0_1, .string a0_2, .float .f64 a0_3, .bool a0_4]) (t := 26) ?hr ?_; (case hd => rfl); (case hg => rfl); (case hr => first | (go_simp; done) | (go_simp; rfl)); intro gb106 hg w7 hbox hb; have n0_ := Aside0.mk (below_step (by repeat (first | (with_reducible first | exact HB.out | apply below_alloc | apply pw_below_drewN | apply below_drew1) | exact HB.out)) hb); have n1_ := Aside0.mk (hbox); have n2_ := Aside0.mk ((by rw [hg]; exact (below_size (by repeat (first | (with_reducible first | exact HB.out | apply below_alloc | apply pw_below_drewN | apply below_drew1) | exact HB.out))) : w.heap.size ≤ gb106)); have n3_ := Aside0.mk ((by rw [hg]; exact (below_size (by repeat (first | (with_reducible first | exact HB.out | apply below_alloc | apply pw_below_drewN | apply below_drew1) | exact HB.out))) : w.heap.size ≤ gb106)); clear HB; have HB := n0_; have BK106 := n1_; have GW106 := n2_; have GE106 := n3_; clear n0_ n1_ n2_ n3_; clear hb hbox hg) | ((with_reducible refine gate_dst (N := 4) rfl ?_); refine box_event ?hg (N := 4) ?hd (cs := #[.int .i64 a1_0, .string a1_1, .string a1_2, .float .f64 a1_3, .bool a1_4]) (t := 26) ?hr ?_; (case hd => rfl); (case hg => rfl); (case hr => first | (go_simp; done) | (go_simp; rfl)); intro gb107 hg w8 hbox hb; have n0_ := Aside0.mk (blk_below (g := gb106) (o := .cells #[.int .i64 a0_0, .string a0_1, .string a0_2, .float .f64 a0_3, .bool a0_4] 26 (0, 0)) (by (with_reducible repeat (first | refine blk_drewN ?_ _ | refine blk_drew ?_ | refine blk_alloc ?_ _)); exact BK106.out) hb); have n1_ := Aside0.mk (below_step (by repeat (first | (with_reducible first | exact HB.out | apply below_alloc | apply pw_below_drewN | apply below_drew1 | refine below_set ?_ GE106.out) | exact HB.out)) hb); have n2_ := Aside0.mk (hbox); have n3_ := Aside0.mk ((by rw [hg]; exact (below_size (by repeat (first | (with_reducible first | exact HB.out | apply below_alloc | apply pw_below_drewN | apply below_drew1 | refine below_set ?_ GE106.out) | exact HB.out))) : w.heap.size ≤ gb107)); have n4_ := Aside0.mk ((by rw [hg]; exact (below_size (by repeat (first | (with_reducible first | exact HB.out | apply below_alloc | apply pw_below_drewN | apply below_drew1 | refine below_set ?_ GE106.out) | exact HB.out))) : w.heap.size ≤ gb107)); have n5_ := Aside0.mk ((by rw [hg]; exact Nat.ne_of_lt (blk_lt (g := gb106) (o := .cells #[.int .i64 a0_0, .string a0_1, .string a0_2, .float .f64 a0_3, .bool a0_4] 26 (0, 0)) (by (with_reducible repeat (first | refine blk_drewN ?_ _ | refine blk_drew ?_ | refine blk_alloc ?_ _)); exact BK106.out)) : gb106 ≠ gb107)); have n6_ := Aside0.mk ((by rw [hg]; exact Nat.ne_of_gt (blk_lt (g := gb106) (o := .cells #[.int .i64 a0_0, .string a0_1, .string a0_2, .float .f64 a0_3, .bool a0_4] 26 (0, 0)) (by (with_reducible repeat (first | refine blk_drewN ?_ _ | refine blk_drew ?_ | refine blk_alloc ?_ _)); exact BK106.out)) : gb107 ≠ gb106)); clear BK106; clear HB; have BK106 := n0_; have HB := n1_; have BK107 := n2_; have GW107 := n3_; have GE107 := n4_; have NB106_107 := n5_; have NB107_106 := n6_; clear n0_ n1_ n2_ n3_ n4_ n5_ n6_; clear hb hbox hg))
  have n0_ := Aside0.mk (blk_drew BK106.out)
  have n1_ := Aside0.mk (blk_drew BK107.out)
  have n2_ := Aside0.mk (below_drew1 HB.out)
  clear BK106
  clear BK107
  clear HB
  have BK106 := n0_
  have BK107 := n1_
  have HB := n2_
  clear n0_ n1_ n2_
  refine start_ (n := 7) (S := fun w' => w'.cell? ⟨gb106, 0, none⟩ = some (.int .i64 a0_0) ∧ w'.cell? ⟨gb106, 1, none⟩ = some (.string a0_1) ∧ w'.cell? ⟨gb106, 2, none⟩ = some (.string a0_2) ∧ w'.cell? ⟨gb106, 3, none⟩ = some (.float .f64 a0_3) ∧ w'.cell? ⟨gb106, 4, none⟩ = some (.bool a0_4) ∧ w'.cell? ⟨gb107, 0, none⟩ = some (.int .i64 a1_0) ∧ w'.cell? ⟨gb107, 1, none⟩ = some (.string a1_1) ∧ w'.cell? ⟨gb107, 2, none⟩ = some (.string a1_2) ∧ w'.cell? ⟨gb107, 3, none⟩ = some (.float .f64 a1_3) ∧ w'.cell? ⟨gb107, 4, none⟩ = some (.bool a1_4)) (ds := []) #[false, false, false, false, false, false, false] (by kernel_rfl) rfl rfl ⟨(blk_cell BK106.out 0).trans rfl, (blk_cell BK106.out 1).trans rfl, (blk_cell BK106.out 2).trans rfl, (blk_cell BK106.out 3).trans rfl, (blk_cell BK106.out 4).trans rfl, (blk_cell BK107.out 0).trans rfl, (blk_cell BK107.out 1).trans rfl, (blk_cell BK107.out 2).trans rfl, (blk_cell BK107.out 3).trans rfl, (blk_cell BK107.out 4).trans rfl⟩ (fun hHeld => ?_)
  generalize w8.drew = w9 at BK106 BK107 HB hHeld ⊢
  refine pure_ (i := 4) (N := some 11) (v := ?_) (a' := ?_) #[false, false, false, false, true, false, false] rfl rfl (by kernel_rfl) (fun _ _ _ h => h) (Or.inl ⟨by rfl, ?_⟩) ?_ ?_
  rotate_left
  · intro w'
    go_simp
    with_reducible rfl
  rotate_left
  · simp only [Act.put, List.setIfInBounds_toArray, List.set_cons_zero, List.set_cons_succ, i64_w, i32_w]
    rfl
  refine take_ (i := 0) (N := some 7) (v := ?_) (a' := ?_) #[true, false, false, false, true, false, false] rfl rfl (by kernel_rfl) (fun _ _ _ h => h) (Or.inl ⟨by rfl, ?_⟩) hHeld ?_ ?_
  rotate_left
  · rintro w' ⟨s0, s1, s2, s3, s4, s5, s6, s7, s8, s9⟩
    go_simp
    with_reducible rfl
  rotate_left
  · simp only [Act.put, List.setIfInBounds_toArray, List.set_cons_zero, List.set_cons_succ, i64_w, i32_w]
    rfl
  refine take_ (i := 2) (N := some 9) (v := ?_) (a' := ?_) #[true, false, true, false, true, false, false] rfl rfl (by kernel_rfl) (fun _ _ _ h => h) (Or.inl ⟨by rfl, ?_⟩) hHeld ?_ ?_
  rotate_left
  · rintro w' ⟨s0, s1, s2, s3, s4, s5, s6, s7, s8, s9⟩
    go_simp
    with_reducible rfl
  rotate_left
  · simp only [Act.put, List.setIfInBounds_toArray, List.set_cons_zero, List.set_cons_succ, i64_w, i32_w]
    rfl
  refine one_ (i := 1) (N := some 8) #[true, true, true, false, true, false, false] rfl rfl (by kernel_rfl) (by decide) (fun K hK => ?_)
  refine goes_ Try.func7 (by kernel_rfl) rfl #[.agg #[.int .i64 a0_0, .string a0_1, .string a0_2, .float .f64 a0_3, .bool a0_4]] (by rfl) rfl rfl (by (try simp only [List.map_toArray, List.map_cons, List.map_nil]); first | done | rfl | (simp only [List.length_drop, List.length_take]; rfl)) ?_
  with_reducible refine (impl_gjOf.calls a0_0 a0_1 a0_2 a0_3 a0_4 t108 t109 t110 t111 t112 t113 _ A4.out).mono ?_
  rintro e w10 ⟨v114, rfl, ho0, hb⟩
  refine ⟨_, rfl, ?_⟩
  have n0_ := Aside0.mk (Kd.R_lower ho0 (below_size (by repeat (first | (with_reducible first | exact HB.out | apply below_alloc | apply pw_below_drewN | apply below_drew1 | refine below_set ?_ GE106.out | refine below_set ?_ GE107.out) | exact HB.out))))
  have n1_ := Aside0.mk (blk_below (g := gb106) (o := .cells #[.int .i64 a0_0, .string a0_1, .string a0_2, .float .f64 a0_3, .bool a0_4] 26 (0, 0)) (by (with_reducible repeat (first | refine blk_drewN ?_ _ | refine blk_drew ?_ | refine blk_alloc ?_ _)); exact BK106.out) hb)
  have n2_ := Aside0.mk (blk_below (g := gb107) (o := .cells #[.int .i64 a1_0, .string a1_1, .string a1_2, .float .f64 a1_3, .bool a1_4] 26 (0, 0)) (by (with_reducible repeat (first | refine blk_drewN ?_ _ | refine blk_drew ?_ | refine blk_alloc ?_ _)); exact BK107.out) hb)
  have n3_ := Aside0.mk (below_step (by repeat (first | (with_reducible first | exact HB.out | apply below_alloc | apply pw_below_drewN | apply below_drew1 | refine below_set ?_ GE106.out | refine below_set ?_ GE107.out) | exact HB.out)) hb)
  clear BK106
  clear BK107
  clear HB
  have HO115 := n0_
  have BK106 := n1_
  have BK107 := n2_
  have HB := n3_
  clear n0_ n1_ n2_ n3_
  (try clear hb)
  (try clear hb2)
  (try clear hk)
  (try clear hi)
  (try clear ho0)
  refine hK.out _ _ ⟨(blk_cell BK106.out 0).trans rfl, (blk_cell BK106.out 1).trans rfl, (blk_cell BK106.out 2).trans rfl, (blk_cell BK106.out 3).trans rfl, (blk_cell BK106.out 4).trans rfl, (blk_cell BK107.out 0).trans rfl, (blk_cell BK107.out 1).trans rfl, (blk_cell BK107.out 2).trans rfl, (blk_cell BK107.out 3).trans rfl, (blk_cell BK107.out 4).trans rfl⟩ (fun hHeld => ?_)
  clear hK K
  refine norm_ (a' := ?_) ?_ ?_
  rotate_left
  · show Act.put _ (some 8) _ = _
    simp only [Act.put, List.setIfInBounds_toArray, List.set_cons_zero, List.set_cons_succ, i64_w, i32_w]
    rfl
  refine one_ (i := 3) (N := some 10) #[true, true, true, true, true, false, false] rfl rfl (by kernel_rfl) (by decide) (fun K hK => ?_)
  refine goes_ Try.func7 (by kernel_rfl) rfl #[.agg #[.int .i64 a1_0, .string a1_1, .string a1_2, .float .f64 a1_3, .bool a1_4]] (by rfl) rfl rfl (by (try simp only [List.map_toArray, List.map_cons, List.map_nil]); first | done | rfl | (simp only [List.length_drop, List.length_take]; rfl)) ?_
  with_reducible refine (impl_gjOf.calls a1_0 a1_1 a1_2 a1_3 a1_4 t116 t117 t118 t119 t120 t121 _ A5.out).mono ?_
  rintro e w11 ⟨v122, rfl, ho0, hb⟩
  refine ⟨_, rfl, ?_⟩
  have n0_ := Aside0.mk (Kd.R_elder' (by (with_reducible repeat (first | apply Kd.R_alloc | apply Kd.R_drewN | apply Kd.R_drew)); exact HO115.out) (Kd.R_base ho0) hb)
  have n1_ := Aside0.mk (Kd.R_lower (Kd.R_new' ho0 (Kd.R_lt (by (with_reducible repeat (first | apply Kd.R_alloc | apply Kd.R_drewN | apply Kd.R_drew)); exact HO115.out))) (below_size (by repeat (first | (with_reducible first | exact HB.out | apply below_alloc | apply pw_below_drewN | apply below_drew1 | refine below_set ?_ GE106.out | refine below_set ?_ GE107.out) | exact HB.out))))
  have n2_ := Aside0.mk (blk_below (g := gb106) (o := .cells #[.int .i64 a0_0, .string a0_1, .string a0_2, .float .f64 a0_3, .bool a0_4] 26 (0, 0)) (by (with_reducible repeat (first | refine blk_drewN ?_ _ | refine blk_drew ?_ | refine blk_alloc ?_ _)); exact BK106.out) hb)
  have n3_ := Aside0.mk (blk_below (g := gb107) (o := .cells #[.int .i64 a1_0, .string a1_1, .string a1_2, .float .f64 a1_3, .bool a1_4] 26 (0, 0)) (by (with_reducible repeat (first | refine blk_drewN ?_ _ | refine blk_drew ?_ | refine blk_alloc ?_ _)); exact BK107.out) hb)
  have n4_ := Aside0.mk (below_step (by repeat (first | (with_reducible first | exact HB.out | apply below_alloc | apply pw_below_drewN | apply below_drew1 | refine below_set ?_ GE106.out | refine below_set ?_ GE107.out) | exact HB.out)) hb)
  clear HO115
  clear BK106
  clear BK107
  clear HB
  have HO115 := n0_
  have HO123 := n1_
  have BK106 := n2_
  have BK107 := n3_
  have HB := n4_
  clear n0_ n1_ n2_ n3_ n4_
  (try clear hb)
  (try clear hb2)
  (try clear hk)
  (try clear hi)
  (try clear ho0)
  obtain ⟨Ao12, co12, eo12⟩ := Kd.R_slice HO115.out
  (first | subst eo12 | (injection eo12 with f1_ f2_ f3_; have f4_ := f1_.symm; have f5_ := f3_.symm; clear f1_ f2_ f3_; subst f4_; subst f5_))
  obtain ⟨Ao13, co13, eo13⟩ := Kd.R_slice HO123.out
  (first | subst eo13 | (injection eo13 with f1_ f2_ f3_; have f4_ := f1_.symm; have f5_ := f3_.symm; clear f1_ f2_ f3_; subst f4_; subst f5_))
  refine hK.out _ _ ⟨(blk_cell BK106.out 0).trans rfl, (blk_cell BK106.out 1).trans rfl, (blk_cell BK106.out 2).trans rfl, (blk_cell BK106.out 3).trans rfl, (blk_cell BK106.out 4).trans rfl, (blk_cell BK107.out 0).trans rfl, (blk_cell BK107.out 1).trans rfl, (blk_cell BK107.out 2).trans rfl, (blk_cell BK107.out 3).trans rfl, (blk_cell BK107.out 4).trans rfl⟩ (fun hHeld => ?_)
  clear hK K
  refine norm_ (a' := ?_) ?_ ?_
  rotate_left
  · show Act.put _ (some 10) _ = _
    simp only [Act.put, List.setIfInBounds_toArray, List.set_cons_zero, List.set_cons_succ, i64_w, i32_w]
    rfl
  refine one_ (i := 5) (N := some 12) #[true, true, true, true, true, true, false] rfl rfl (by kernel_rfl) (by decide) (fun K hK => ?_)
  refine goes_ Try.func8 (by kernel_rfl) rfl #[.agg #[.int .i64 t108, .string t109, .string t110, .float .f64 t111, .int .i64 t112, .slice Ao12 t113.length co12], .agg #[.int .i64 t116, .string t117, .string t118, .float .f64 t119, .int .i64 t120, .slice Ao13 t121.length co13], .bool a2] (by rfl) rfl rfl (by (try simp only [List.map_toArray, List.map_cons, List.map_nil]); first | done | rfl | (simp only [List.length_drop, List.length_take]; rfl)) ?_
  with_reducible refine (gjson_Result_Less.calls k t108 t109 t110 t111 t112 _ _ t113 t116 t117 t118 t119 t120 _ _ t121 a2 t124 _ ?side1 ?side2 ?side3 ?side4 A6.out).mono ?_
  (case side1 => repeat (first | exact (Kd.R_reads' HO115.out).2.2 | (with_reducible refine Kd.C_alloc ?_ _) | (with_reducible refine Kd.C_drewN ?_ _) | (with_reducible refine Kd.C_drew ?_)))
  (case side2 => exact (Kd.R_reads' HO115.out).2.1)
  (case side3 => repeat (first | exact (Kd.R_reads' HO123.out).2.2 | (with_reducible refine Kd.C_alloc ?_ _) | (with_reducible refine Kd.C_drewN ?_ _) | (with_reducible refine Kd.C_drew ?_)))
  (case side4 => exact (Kd.R_reads' HO123.out).2.1)
  rintro e w14 ⟨rfl, hb⟩
  refine ⟨_, rfl, ?_⟩
  have n0_ := Aside0.mk (Kd.R_below (by (with_reducible repeat (first | apply Kd.R_alloc | apply Kd.R_drewN | apply Kd.R_drew)); exact HO115.out) hb)
  have n1_ := Aside0.mk (Kd.R_below (by (with_reducible repeat (first | apply Kd.R_alloc | apply Kd.R_drewN | apply Kd.R_drew)); exact HO123.out) hb)
  have n2_ := Aside0.mk (blk_below (g := gb106) (o := .cells #[.int .i64 a0_0, .string a0_1, .string a0_2, .float .f64 a0_3, .bool a0_4] 26 (0, 0)) (by (with_reducible repeat (first | refine blk_drewN ?_ _ | refine blk_drew ?_ | refine blk_alloc ?_ _)); exact BK106.out) hb)
  have n3_ := Aside0.mk (blk_below (g := gb107) (o := .cells #[.int .i64 a1_0, .string a1_1, .string a1_2, .float .f64 a1_3, .bool a1_4] 26 (0, 0)) (by (with_reducible repeat (first | refine blk_drewN ?_ _ | refine blk_drew ?_ | refine blk_alloc ?_ _)); exact BK107.out) hb)
  have n4_ := Aside0.mk (below_step (by repeat (first | (with_reducible first | exact HB.out | apply below_alloc | apply pw_below_drewN | apply below_drew1 | refine below_set ?_ GE106.out | refine below_set ?_ GE107.out) | exact HB.out)) hb)
  clear HO115
  clear HO123
  clear BK106
  clear BK107
  clear HB
  have HO115 := n0_
  have HO123 := n1_
  have BK106 := n2_
  have BK107 := n3_
  have HB := n4_
  clear n0_ n1_ n2_ n3_ n4_
  (try clear hb)
  (try clear hb2)
  (try clear hk)
  (try clear hi)
  refine hK.out _ _ ⟨(blk_cell BK106.out 0).trans rfl, (blk_cell BK106.out 1).trans rfl, (blk_cell BK106.out 2).trans rfl, (blk_cell BK106.out 3).trans rfl, (blk_cell BK106.out 4).trans rfl, (blk_cell BK107.out 0).trans rfl, (blk_cell BK107.out 1).trans rfl, (blk_cell BK107.out 2).trans rfl, (blk_cell BK107.out 3).trans rfl, (blk_cell BK107.out 4).trans rfl⟩ (fun hHeld => ?_)
  clear hK K
  refine norm_ (a' := ?_) ?_ ?_
  rotate_left
  · show Act.put _ (some 12) _ = _
    simp only [Act.put, List.setIfInBounds_toArray, List.set_cons_zero, List.set_cons_succ, i64_w, i32_w]
    rfl
  refine pure_ (i := 6) (N := some 6) (v := ?_) (a' := ?_) #[true, true, true, true, true, true, true] rfl rfl (by kernel_rfl) (fun _ _ _ h => h) (Or.inl ⟨by rfl, ?_⟩) ?_ ?_
  rotate_left
  · intro w'
    go_simp
    with_reducible rfl
  rotate_left
  · simp only [Act.put, List.setIfInBounds_toArray, List.set_cons_zero, List.set_cons_succ, i64_w, i32_w]
    rfl
  refine done_ (by kernel_rfl) ?_
  try go_wp2
  go_ret
  exact ⟨by first | rfl | (simp [errW_none, errW_some] <;> rfl) | (simp [*, errW_none, errW_some] <;> rfl), by repeat (first | (with_reducible first | exact HB.out | apply below_alloc | apply pw_below_drewN | apply below_drew1 | refine below_set ?_ GE106.out | refine below_set ?_ GE107.out) | exact HB.out)⟩

/-! ### spec_shortOf: function 11 -/
def spec_shortOf.f (a0 : Int) : Option (Int × Bool) := if a0 = 8 then (some (98, true)) else (if a0 = 12 then (some (102, true)) else (if a0 = 10 then (some (110, true)) else (if a0 = 13 then (some (114, true)) else (if a0 = 9 then (some (116, true)) else (if a0 = 34 then (some (a0, true)) else (if a0 = 92 then (some (a0, true)) else (if a0 = 47 then (some (a0, true)) else (some (0, false)))))))))
set_option maxHeartbeats 8000000 in
set_option maxRecDepth 100000 in
theorem spec_shortOf.calls (a0 : Int) (r1 : Int) (r2 : Bool) (w : World) (h : spec_shortOf.f a0 = some (r1, r2)) :
    Calls Try.prog 11 #[.int .u8 a0] w fun e w' => e = .returned (.tuple #[.int .u8 r1, .bool r2]) ∧ Drawn0 w w' := by
  have H : (if a0 = 8 then (some (98, true)) else (if a0 = 12 then (some (102, true)) else (if a0 = 10 then (some (110, true)) else (if a0 = 13 then (some (114, true)) else (if a0 = 9 then (some (116, true)) else (if a0 = 34 then (some (a0, true)) else (if a0 = 92 then (some (a0, true)) else (if a0 = 47 then (some (a0, true)) else (some (0, false)))))))))) = some (r1, r2) := h
  clear h
  by_cases c2 : a0 = 8
  · rw [if_pos c2] at H
    have c2b0 : (a0 == 8) = true := beq_iff_eq.mpr c2
    have c2b1 : (a0 != 8) = false := bne_eq_false_iff_eq.mpr c2
    clear c2
    simp only [Option.some.injEq, Prod.mk.injEq] at H
    obtain ⟨rfl, rfl⟩ := H
    go_enter Try.func11, Try.ntmps11
    go_wp2
    go_ret2
    exact ⟨by first | rfl | (simp; done) | (simp [*]; done), by repeat (first | exact Drawn0.refl _ | apply Drawn0.step)⟩
  · rw [if_neg c2] at H
    have c2b0 : (a0 == 8) = false := beq_eq_false_iff_ne.mpr c2
    have c2b1 : (a0 != 8) = true := bne_iff_ne.mpr c2
    by_cases c3 : a0 = 12
    · rw [if_pos c3] at H
      have c3b0 : (a0 == 12) = true := beq_iff_eq.mpr c3
      have c3b1 : (a0 != 12) = false := bne_eq_false_iff_eq.mpr c3
      clear c3
      simp only [Option.some.injEq, Prod.mk.injEq] at H
      obtain ⟨rfl, rfl⟩ := H
      go_enter Try.func11, Try.ntmps11
      go_wp2
      go_ret2
      exact ⟨by first | rfl | (simp; done) | (simp [*]; done), by repeat (first | exact Drawn0.refl _ | apply Drawn0.step)⟩
    · rw [if_neg c3] at H
      have c3b0 : (a0 == 12) = false := beq_eq_false_iff_ne.mpr c3
      have c3b1 : (a0 != 12) = true := bne_iff_ne.mpr c3
      by_cases c4 : a0 = 10
      · rw [if_pos c4] at H
        have c4b0 : (a0 == 10) = true := beq_iff_eq.mpr c4
        have c4b1 : (a0 != 10) = false := bne_eq_false_iff_eq.mpr c4
        clear c4
        simp only [Option.some.injEq, Prod.mk.injEq] at H
        obtain ⟨rfl, rfl⟩ := H
        go_enter Try.func11, Try.ntmps11
        go_wp2
        go_ret2
        exact ⟨by first | rfl | (simp; done) | (simp [*]; done), by repeat (first | exact Drawn0.refl _ | apply Drawn0.step)⟩
      · rw [if_neg c4] at H
        have c4b0 : (a0 == 10) = false := beq_eq_false_iff_ne.mpr c4
        have c4b1 : (a0 != 10) = true := bne_iff_ne.mpr c4
        by_cases c5 : a0 = 13
        · rw [if_pos c5] at H
          have c5b0 : (a0 == 13) = true := beq_iff_eq.mpr c5
          have c5b1 : (a0 != 13) = false := bne_eq_false_iff_eq.mpr c5
          clear c5
          simp only [Option.some.injEq, Prod.mk.injEq] at H
          obtain ⟨rfl, rfl⟩ := H
          go_enter Try.func11, Try.ntmps11
          go_wp2
          go_ret2
          exact ⟨by first | rfl | (simp; done) | (simp [*]; done), by repeat (first | exact Drawn0.refl _ | apply Drawn0.step)⟩
        · rw [if_neg c5] at H
          have c5b0 : (a0 == 13) = false := beq_eq_false_iff_ne.mpr c5
          have c5b1 : (a0 != 13) = true := bne_iff_ne.mpr c5
          by_cases c6 : a0 = 9
          · rw [if_pos c6] at H
            have c6b0 : (a0 == 9) = true := beq_iff_eq.mpr c6
            have c6b1 : (a0 != 9) = false := bne_eq_false_iff_eq.mpr c6
            clear c6
            simp only [Option.some.injEq, Prod.mk.injEq] at H
            obtain ⟨rfl, rfl⟩ := H
            go_enter Try.func11, Try.ntmps11
            go_wp2
            go_ret2
            exact ⟨by first | rfl | (simp; done) | (simp [*]; done), by repeat (first | exact Drawn0.refl _ | apply Drawn0.step)⟩
          · rw [if_neg c6] at H
            have c6b0 : (a0 == 9) = false := beq_eq_false_iff_ne.mpr c6
            have c6b1 : (a0 != 9) = true := bne_iff_ne.mpr c6
            by_cases c7 : a0 = 34
            · rw [if_pos c7] at H
              have c7b0 : (a0 == 34) = true := beq_iff_eq.mpr c7
              have c7b1 : (a0 != 34) = false := bne_eq_false_iff_eq.mpr c7
              clear c7
              simp only [Option.some.injEq, Prod.mk.injEq] at H
              obtain ⟨rfl, rfl⟩ := H
              go_enter Try.func11, Try.ntmps11
              go_wp2
              go_ret2
              exact ⟨by first | rfl | (simp; done) | (simp [*]; done), by repeat (first | exact Drawn0.refl _ | apply Drawn0.step)⟩
            · rw [if_neg c7] at H
              have c7b0 : (a0 == 34) = false := beq_eq_false_iff_ne.mpr c7
              have c7b1 : (a0 != 34) = true := bne_iff_ne.mpr c7
              by_cases c8 : a0 = 92
              · rw [if_pos c8] at H
                have c8b0 : (a0 == 92) = true := beq_iff_eq.mpr c8
                have c8b1 : (a0 != 92) = false := bne_eq_false_iff_eq.mpr c8
                clear c8
                simp only [Option.some.injEq, Prod.mk.injEq] at H
                obtain ⟨rfl, rfl⟩ := H
                go_enter Try.func11, Try.ntmps11
                go_wp2
                go_ret2
                exact ⟨by first | rfl | (simp; done) | (simp [*]; done), by repeat (first | exact Drawn0.refl _ | apply Drawn0.step)⟩
              · rw [if_neg c8] at H
                have c8b0 : (a0 == 92) = false := beq_eq_false_iff_ne.mpr c8
                have c8b1 : (a0 != 92) = true := bne_iff_ne.mpr c8
                by_cases c9 : a0 = 47
                · rw [if_pos c9] at H
                  have c9b0 : (a0 == 47) = true := beq_iff_eq.mpr c9
                  have c9b1 : (a0 != 47) = false := bne_eq_false_iff_eq.mpr c9
                  clear c9
                  simp only [Option.some.injEq, Prod.mk.injEq] at H
                  obtain ⟨rfl, rfl⟩ := H
                  go_enter Try.func11, Try.ntmps11
                  go_wp2
                  go_ret2
                  exact ⟨by first | rfl | (simp; done) | (simp [*]; done), by repeat (first | exact Drawn0.refl _ | apply Drawn0.step)⟩
                · rw [if_neg c9] at H
                  have c9b0 : (a0 == 47) = false := beq_eq_false_iff_ne.mpr c9
                  have c9b1 : (a0 != 47) = true := bne_iff_ne.mpr c9
                  simp only [Option.some.injEq, Prod.mk.injEq] at H
                  obtain ⟨rfl, rfl⟩ := H
                  go_enter Try.func11, Try.ntmps11
                  go_wp2
                  go_ret2
                  exact ⟨by first | rfl | (simp; done) | (simp [*]; done), by repeat (first | exact Drawn0.refl _ | apply Drawn0.step)⟩

/-! ### spec_digitOf: function 12 -/
def spec_digitOf.f (a0 : Int) (a1 : Bool) : Option (Int) := if a0 < 10 then (some ((wrap64 (48 + a0)) % 256)) else (if a1 = true then (some ((wrap64 ((wrap64 (65 + a0)) - 10)) % 256)) else (some ((wrap64 ((wrap64 (97 + a0)) - 10)) % 256)))
set_option maxHeartbeats 8000000 in
set_option maxRecDepth 100000 in
theorem spec_digitOf.calls (a0 : Int) (a1 : Bool) (r : Int) (w : World) (h : spec_digitOf.f a0 a1 = some r) :
    Calls Try.prog 12 #[.int .i64 a0, .bool a1] w fun e w' => e = .returned (.int .u8 r) ∧ Drawn0 w w' := by
  have H : (if a0 < 10 then (some ((wrap64 (48 + a0)) % 256)) else (if a1 = true then (some ((wrap64 ((wrap64 (65 + a0)) - 10)) % 256)) else (some ((wrap64 ((wrap64 (97 + a0)) - 10)) % 256)))) = some r := h
  clear h
  by_cases c3 : a0 < 10
  · rw [if_pos c3] at H
    have c3b0 : decide (a0 < 10) = true := decide_eq_true c3
    clear c3
    obtain rfl := Option.some.inj H
    go_enter Try.func12, Try.ntmps12
    go_wp2
    go_ret
    exact ⟨by first | rfl | (simp; done) | (simp [*]; done), by repeat (first | exact Drawn0.refl _ | apply Drawn0.step)⟩
  · rw [if_neg c3] at H
    have c3b0 : decide (a0 < 10) = false := decide_eq_false c3
    clear c3
    by_cases c4 : a1 = true
    · subst c4
      have H1 : (some ((wrap64 ((wrap64 (65 + a0)) - 10)) % 256)) = some r := by rw [if_pos rfl] at H; exact H
      clear H
      have H := H1
      clear H1
      obtain rfl := Option.some.inj H
      go_enter Try.func12, Try.ntmps12
      go_wp2
      go_ret
      exact ⟨by first | rfl | (simp; done) | (simp [*]; done), by repeat (first | exact Drawn0.refl _ | apply Drawn0.step)⟩
    · replace c4 := Bool.eq_false_iff.mpr c4
      subst c4
      have H1 : (some ((wrap64 ((wrap64 (97 + a0)) - 10)) % 256)) = some r := by rw [if_neg (show ¬ (false = true) by decide)] at H; exact H
      clear H
      have H := H1
      clear H1
      obtain rfl := Option.some.inj H
      go_enter Try.func12, Try.ntmps12
      go_wp2
      go_ret
      exact ⟨by first | rfl | (simp; done) | (simp [*]; done), by repeat (first | exact Drawn0.refl _ | apply Drawn0.step)⟩

/-! ### spec_Quote: function 9 -/
mutual
def spec_Quote.l0 : Nat → ByteArray → List Int → Int → Option (ByteArray)
  | 0, _, _, _ => none
  | k + 1, x0, x3, x4 => if x4 < (x0.size : Int) then (if 0 ≤ x4 then ((spec_shortOf.f (bt x0 x4)).bind fun bt131 => (if bt131.2 = true then (spec_Quote.j1 k x0 x3 x4 (bt x0 x4) bt131.1 ((bt x0 x4) != 47)) else (spec_Quote.j1 k x0 x3 x4 (bt x0 x4) bt131.1 false))) else (none)) else (if x3.length < 140737488355328 then (some (strOfNums (x3 ++ [34]))) else (none))
def spec_Quote.j1 : Nat → ByteArray → List Int → Int → Int → Int → Bool → Option (ByteArray)
  | 0, _, _, _, _, _, _ => none
  | k + 1, x0, x3, x4, x5, x6, x27 => if x27 = true then ((some (([92, x6] : List Int) : List Int)).bind fun y133 => (if x3.length + y133.length < 140737488355328 then (spec_Quote.l0 k x0 (x3 ++ y133) (wrap64 (x4 + 1))) else (none))) else (if x5 < 32 then ((spec_digitOf.f (wrap64 (Int.tmod x5 16)) false).bind fun t139 => ((some (([92, 117, 48, 48, (48 + ((Int.tdiv x5 16) % 256)) % 256, t139] : List Int) : List Int)).bind fun y140 => (if x3.length + y140.length < 140737488355328 then (spec_Quote.l0 k x0 (x3 ++ y140) (wrap64 (x4 + 1))) else (none)))) else (if x3.length < 140737488355328 then (spec_Quote.l0 k x0 (x3 ++ [x5]) (wrap64 (x4 + 1))) else (none)))
end
def spec_Quote.f (k : Nat) (a0 : ByteArray) : Option (ByteArray) := spec_Quote.l0 k a0 (([34] : List Int)) 0
theorem spec_Quote.mono_l : ∀ k, (∀ y0 y1 y2, LeO (spec_Quote.l0 k y0 y1 y2) (spec_Quote.l0 (k + 1) y0 y1 y2)) ∧ (∀ y0 y1 y2 y3 y4 y5, LeO (spec_Quote.j1 k y0 y1 y2 y3 y4 y5) (spec_Quote.j1 (k + 1) y0 y1 y2 y3 y4 y5))
  | 0 => ⟨fun _ _ _ r h => by simp [spec_Quote.l0] at h, fun _ _ _ _ _ _ r h => by simp [spec_Quote.j1] at h⟩
  | k + 1 => by
    obtain ⟨ih0, ih1⟩ := spec_Quote.mono_l k
    refine ⟨?_, ?_⟩
    · intro y0 y1 y2
      unfold spec_Quote.l0
      repeat' first
      | (with_reducible exact ih0 _ _ _)
      | (with_reducible exact ih1 _ _ _ _ _ _)
      | (with_reducible exact LeO.refl _)
      | (with_reducible exact LeO.none _)
      | (with_reducible refine LeO.ite ?_ ?_)
      | (with_reducible refine LeO.bind ?_ (fun _ => ?_))
      | exact ih0 _ _ _
      | exact ih1 _ _ _ _ _ _
      | exact LeO.none _
      | refine LeO.ite ?_ ?_
      | refine LeO.bind ?_ (fun _ => ?_)
    · intro y0 y1 y2 y3 y4 y5
      unfold spec_Quote.j1
      repeat' first
      | (with_reducible exact ih0 _ _ _)
      | (with_reducible exact ih1 _ _ _ _ _ _)
      | (with_reducible exact LeO.refl _)
      | (with_reducible exact LeO.none _)
      | (with_reducible refine LeO.ite ?_ ?_)
      | (with_reducible refine LeO.bind ?_ (fun _ => ?_))
      | exact ih0 _ _ _
      | exact ih1 _ _ _ _ _ _
      | exact LeO.none _
      | refine LeO.ite ?_ ?_
      | refine LeO.bind ?_ (fun _ => ?_)
theorem spec_Quote.mono : ∀ a0 k, LeO (spec_Quote.f k a0) (spec_Quote.f (k + 1) a0) := by
  intro a0 k
  obtain ⟨ih0, ih1⟩ := spec_Quote.mono_l k
  unfold spec_Quote.f
  repeat' first
      | (with_reducible exact ih0 _ _ _)
      | (with_reducible exact ih1 _ _ _ _ _ _)
      | (with_reducible exact LeO.refl _)
      | (with_reducible exact LeO.none _)
      | (with_reducible refine LeO.ite ?_ ?_)
      | (with_reducible refine LeO.bind ?_ (fun _ => ?_))
      | exact ih0 _ _ _
      | exact ih1 _ _ _ _ _ _
      | exact LeO.none _
      | refine LeO.ite ?_ ?_
      | refine LeO.bind ?_ (fun _ => ?_)
set_option maxHeartbeats 8000000 in
set_option maxRecDepth 100000 in
theorem spec_Quote.calls (k : Nat) (a0 : ByteArray) (r : ByteArray) (w : World) (h : spec_Quote.f k a0 = some r) :
    Calls Try.prog 9 #[.string a0] w fun e w' => e = .returned (.string r) ∧ Below w.heap.size w w' := by
  have HB := Aside0.mk (Below.refl w.heap.size w)
  have H : (spec_Quote.l0 k a0 (([34] : List Int)) 0) = some r := h
  clear h
  obtain ⟨y125, hy125⟩ : ∃ y_ : List Int, y_ = (([34] : List Int)) := ⟨_, rfl⟩
  replace H : (spec_Quote.l0 k a0 y125 0) = some r := by first | (rw [hy125]; with_reducible exact H) | (have H2_ := (Option.bind_some _ _).symm.trans H; rw [hy125]; with_reducible exact H2_) | (have H2_ := (Option.bind_some _ _).symm.trans H; with_reducible exact H2_) | with_reducible exact H | (rw [hy125]; exact H) | exact H
  have Ny125 := Aside0.mk hy125
  clear hy125
  have H' := Aside0.mk H
  clear H
  go_enter Try.func9, Try.ntmps9
  go_wp2_with (first | ((with_reducible refine gate_dst (N := 8) rfl ?_); refine Kd.R_lit (Kd.int .u8) _ 5 ?hg (N := 8) ?hd (xs := ([34] : List Int)) (inner := [.int .u8 34]) (ok := fun _ => True) (okp := fun _ => True) ?hr ?hp (fun _ hk => hk) trivial (Below.refl _ _) (Nat.le_refl _) (by simp) ?_; (case hd => rfl); (case hg => rfl); (case hr => first | (go_simp; done) | (go_simp; rfl)); (case hp => exact (Reps.one (show Kd.M (Kd.int .u8) _ _ _ 34 [.int .u8 34] from rfl) (Reps.none _ _))); intro v126 w2 ho3 hb hg_ hnew_; clear hg_ hnew_; (first | rw [← Ny125.out] at ho3 | (simp only [Int.reduceToNat] at ho3; rw [← Ny125.out] at ho3)); have n0_ := Aside0.mk (Kd.R_lower ho3 (below_size (by repeat (first | (with_reducible first | exact HB.out | apply below_alloc | apply pw_below_drewN | apply below_drew1) | exact HB.out)))); have n1_ := Aside0.mk (below_step (by repeat (first | (with_reducible first | exact HB.out | apply below_alloc | apply pw_below_drewN | apply below_drew1) | exact HB.out)) hb); clear HB; have HO127 := n0_; have HB := n1_; clear n0_ n1_; clear hb ho3))
  (try simp only [Act.put, List.setIfInBounds_toArray, List.set_cons_zero, List.set_cons_succ])
  go_loopg [3, 4] k (fun kq v3 v4 w' => ∃ (x3_1 : List Int) (x4_1 : Int), v4 = .int .i64 x4_1 ∧ Aside0 (spec_Quote.l0 kq a0 x3_1 x4_1 = some r) ∧ Aside0 (kq ≤ k) ∧ Aside0 (Kd.R (Kd.int .u8) 5 w' w.heap.size (fun _ => True) v3 x3_1) ∧ Aside0 (Below w.heap.size w w'))
  case atStart => exact ⟨(y125), (0), (by first | rfl | (simp; done) | (simp [*]; done)), H', ⟨Nat.le_refl _⟩, ⟨by (with_reducible repeat (first | apply Kd.R_alloc | apply Kd.R_drewN | apply Kd.R_drew)); exact HO127.out⟩, ⟨by repeat (first | (with_reducible first | exact HB.out | apply below_alloc | apply pw_below_drewN | apply below_drew1) | exact HB.out)⟩⟩
  case round =>
    clear H'
    try clear p2
    obtain ⟨x3_1, x4_1, rfl, HA, HK1, HO_3, HB⟩ := hrel
    cases gk with
    | zero => exact absurd HA.out (by simp [spec_Quote.l0])
    | succ k1 =>
      have H := HA.out
      clear HA
      simp only [spec_Quote.l0] at H
      by_cases c4 : x4_1 < (a0.size : Int)
      · rw [if_pos c4] at H
        have c4b0 : decide (x4_1 < (a0.size : Int)) = true := decide_eq_true c4
        clear c4
        by_cases c5 : 0 ≤ x4_1
        · rw [if_pos c5] at H
          have c5b0 : decide (0 ≤ x4_1) = true := decide_eq_true c5
          clear c5
          replace H := Option.bind_eq_some_iff.mp H
          obtain ⟨⟨t131, t132⟩, A70, H⟩ := H
          replace H : (if t132 = true then (spec_Quote.j1 k1 a0 x3_1 x4_1 (bt a0 x4_1) t131 ((bt a0 x4_1) != 47)) else (spec_Quote.j1 k1 a0 x3_1 x4_1 (bt a0 x4_1) t131 false)) = some r := H
          have A7 := Aside0.mk A70
          clear A70
          have HC8 := Aside0.mk H
          clear H
          have p6 : 0 ≤ (x4_1 : Int) := of_decide_eq_true (by first | (with_reducible assumption) | assumption)
          have q6 : x4_1 < (a0.size : Int) := of_decide_eq_true (by first | (with_reducible assumption) | assumption)
          have hx6 := bt_at a0 x4_1
          replace p6 := eq_true p6
          replace q6 := eq_true q6
          go_upto_region 8 with (first | ((with_reducible refine gate_callee (f := 11) rfl ?_); refine goesL_ (some 20) rfl rfl Try.func11 (by kernel_rfl) rfl #[.int .u8 (bt a0 x4_1)] rfl (by (try simp only [List.map_toArray, List.map_cons, List.map_nil]); first | done | rfl | (simp only [List.length_drop, List.length_take]; rfl)) ?_; (with_reducible refine (spec_shortOf.calls (bt a0 x4_1) t131 t132 _ A7.out).mono ?_); rintro e w' ⟨rfl, ⟨nd, rfl⟩⟩; refine ⟨_, rfl, ?_⟩))
          (try simp only [Act.put, List.setIfInBounds_toArray, List.set_cons_zero, List.set_cons_succ])
          go_cut [27] (fun v27 wc => ∃ (kq : Nat) (x27_7 : Bool), v27 = .bool x27_7 ∧ Aside0 (spec_Quote.j1 kq a0 x3_1 x4_1 (bt a0 x4_1) t131 x27_7 = some r) ∧ Aside0 (kq ≤ k1) ∧ Aside0 (Kd.R (Kd.int .u8) 5 wc w.heap.size (fun _ => True) u3 x3_1) ∧ Aside0 (Below w.heap.size w wc))
          case first =>
            have H := HC8.out
            clear HC8
            by_cases c9 : t132 = true
            · subst c9
              have H1 : (spec_Quote.j1 k1 a0 x3_1 x4_1 (bt a0 x4_1) t131 ((bt a0 x4_1) != 47)) = some r := by rw [if_pos rfl] at H; exact H
              clear H
              have H := H1
              clear H1
              have H' := Aside0.mk H
              clear H
              go_wp2
              go_meet
              case rel => exact ⟨_, (((bt a0 x4_1) != 47)), (by first | rfl | (simp; done) | (simp [*]; done)), H', ⟨by have := HK1.out; first | omega | exact Nat.le_refl _⟩, ⟨by (with_reducible repeat (first | apply Kd.R_alloc | apply Kd.R_drewN | apply Kd.R_drew)); exact HO_3.out⟩, ⟨by repeat (first | (with_reducible first | exact HB.out | apply below_alloc | apply pw_below_drewN | apply below_drew1) | exact HB.out)⟩⟩
            · replace c9 := Bool.eq_false_iff.mpr c9
              subst c9
              have H1 : (spec_Quote.j1 k1 a0 x3_1 x4_1 (bt a0 x4_1) t131 false) = some r := by rw [if_neg (show ¬ (false = true) by decide)] at H; exact H
              clear H
              have H := H1
              clear H1
              have H' := Aside0.mk H
              clear H
              go_wp2
              go_meet
              case rel => exact ⟨_, (false), (by first | rfl | (simp; done) | (simp [*]; done)), H', ⟨by have := HK1.out; first | omega | exact Nat.le_refl _⟩, ⟨by (with_reducible repeat (first | apply Kd.R_alloc | apply Kd.R_drewN | apply Kd.R_drew)); exact HO_3.out⟩, ⟨by repeat (first | (with_reducible first | exact HB.out | apply below_alloc | apply pw_below_drewN | apply below_drew1) | exact HB.out)⟩⟩
          case rest =>
            clear HC8
            try clear c1
            try clear p2
            try clear c4
            try clear c4b0
            try clear c5
            try clear c5b0
            try clear p6
            try clear q6
            try clear hx6
            try clear c9
            try clear p2
            try clear p6
            try clear q6
            obtain ⟨kq, x27_7, rfl, HA, HJ7, HO_3, HB⟩ := hcut
            cases kq with
            | zero => exact absurd HA.out (by simp [spec_Quote.j1])
            | succ kj7 =>
              have H := HA.out
              clear HA
              simp only [spec_Quote.j1] at H
              by_cases c10 : x27_7 = true
              · subst c10
                have H1 : ((some (([92, t131] : List Int) : List Int)).bind fun y133 => (if x3_1.length + y133.length < 140737488355328 then (spec_Quote.l0 kj7 a0 (x3_1 ++ y133) (wrap64 (x4_1 + 1))) else (none))) = some r := by rw [if_pos rfl] at H; exact H
                clear H
                have H := H1
                clear H1
                obtain ⟨y133, hy133⟩ : ∃ y_ : List Int, y_ = (([92, t131] : List Int)) := ⟨_, rfl⟩
                replace H : (if x3_1.length + y133.length < 140737488355328 then (spec_Quote.l0 kj7 a0 (x3_1 ++ y133) (wrap64 (x4_1 + 1))) else (none)) = some r := by first | (rw [hy133]; with_reducible exact H) | (have H2_ := (Option.bind_some _ _).symm.trans H; rw [hy133]; with_reducible exact H2_) | (have H2_ := (Option.bind_some _ _).symm.trans H; with_reducible exact H2_) | with_reducible exact H | (rw [hy133]; exact H) | exact H
                have Ny133 := Aside0.mk hy133
                clear hy133
                by_cases c11 : x3_1.length + y133.length < 140737488355328
                · rw [if_pos c11] at H
                  have LMc11 := Aside0.mk c11
                  clear c11
                  obtain ⟨y136, hy136⟩ : ∃ y_ : List Int, y_ = (x3_1 ++ y133) := ⟨_, rfl⟩
                  replace H : (spec_Quote.l0 kj7 a0 y136 (wrap64 (x4_1 + 1))) = some r := by first | (rw [hy136]; with_reducible exact H) | (have H2_ := (Option.bind_some _ _).symm.trans H; rw [hy136]; with_reducible exact H2_) | (have H2_ := (Option.bind_some _ _).symm.trans H; with_reducible exact H2_) | with_reducible exact H | (rw [hy136]; exact H) | exact H
                  have Ny136 := Aside0.mk hy136
                  clear hy136
                  have H' := Aside0.mk H
                  clear H
                  go_wp2_with (first | ((with_reducible refine gate_dst (N := 35) rfl ?_); refine Kd.R_lit (Kd.int .u8) _ 5 ?hg (N := 35) ?hd (xs := ([92, t131] : List Int)) (inner := [.int .u8 92, .int .u8 t131]) (ok := fun _ => True) (okp := fun _ => True) ?hr ?hp (fun _ hk => hk) trivial (Below.refl _ _) (Nat.le_refl _) (by simp) ?_; (case hd => rfl); (case hg => rfl); (case hr => first | (go_simp; done) | (go_simp; rfl)); (case hp => exact (Reps.one (show Kd.M (Kd.int .u8) _ _ _ 92 [.int .u8 92] from rfl) (Reps.one (show Kd.M (Kd.int .u8) _ _ _ t131 [.int .u8 t131] from rfl) (Reps.none _ _)))); intro v134 w12 ho13 hb hg_ hnew_; clear hg_ hnew_; (first | rw [← Ny133.out] at ho13 | (simp only [Int.reduceToNat] at ho13; rw [← Ny133.out] at ho13)); have n0_ := Aside0.mk (Kd.R_elder' (by (with_reducible repeat (first | apply Kd.R_alloc | apply Kd.R_drewN | apply Kd.R_drew)); exact HO_3.out) (Kd.R_base ho13) hb); have n1_ := Aside0.mk (Kd.R_lower (Kd.R_new' ho13 (Kd.R_lt (by (with_reducible repeat (first | apply Kd.R_alloc | apply Kd.R_drewN | apply Kd.R_drew)); exact HO_3.out))) (below_size (by repeat (first | (with_reducible first | exact HB.out | apply below_alloc | apply pw_below_drewN | apply below_drew1) | exact HB.out)))); have n2_ := Aside0.mk (below_step (by repeat (first | (with_reducible first | exact HB.out | apply below_alloc | apply pw_below_drewN | apply below_drew1) | exact HB.out)) hb); clear HO_3; clear HB; have HO_3 := n0_; have HO135 := n1_; have HB := n2_; clear n0_ n1_ n2_; clear hb ho13; obtain ⟨Ao15, co15, eo15⟩ := Kd.R_slice HO135.out; subst eo15) | ((with_reducible refine gate_builtin (b := .append) (xs := #[.tmp 33, .tmp 35]) rfl ?_); at_builtin; refine Kd.R_append_rows (Kd.int .u8) (w0 := w) w.heap.size rfl (.tmp 33) (.tmp 35) 29 5 (.int .u8 0) 1 rfl Try.underlying29 info5 rfl (by decide) (by omega) u3 x3_1 y133 _ _ _ (fun k_ => some k_ ≠ (.slice Ao15 y133.length co15 : Value).ownBlock) (fun _ => False) rfl rfl ?aO ?aR (fun _ _ h => h) (fun _ h => h.elim) ?aF ?aB ?aS ?aL ?_; (case aR => repeat (first | exact (Kd.R_reads' HO135.out).2.2 | (with_reducible refine Kd.C_alloc ?_ _) | (with_reducible refine Kd.C_drewN ?_ _) | (with_reducible refine Kd.C_drew ?_))); (case aB => exact (by repeat (first | (with_reducible first | exact HB.out | apply below_alloc | apply pw_below_drewN | apply below_drew1) | exact HB.out))); (case aF => exact (fun k_ hk => Kd.fresh' (Kd.R_lt (by (with_reducible repeat (first | apply Kd.R_alloc | apply Kd.R_drewN | apply Kd.R_drew)); exact HO135.out)) k_ hk)); (case aO => exact (by (with_reducible repeat (first | apply Kd.R_alloc | apply Kd.R_drewN | apply Kd.R_drew)); exact Kd.R_mono HO_3.out (fun _ hk => hk.2))); (case aS => exact (below_size (by repeat (first | (with_reducible first | exact HB.out | apply below_alloc | apply pw_below_drewN | apply below_drew1) | exact HB.out)))); (case aL => have := LMc11.out; omega); intro v137 w14 ho hb hg hat; rw [← Ny136.out] at ho; have n0_ := Aside0.mk (Kd.R_after (ok := (fun _ => True)) (by (with_reducible repeat (first | apply Kd.R_alloc | apply Kd.R_drewN | apply Kd.R_drew)); exact HO135.out) hg hat); have n1_ := Aside0.mk (hb); have n2_ := Aside0.mk (ho); clear HO135; clear HB; clear HO_3; have HO135 := n0_; have HB := n1_; have HO138 := n2_; clear n0_ n1_ n2_; clear ho hb hg hat))
                  go_roundg kj7
                  case measure => have := HK1.out; have := HJ7.out; omega
                  case rel => exact ⟨(y136), (wrap64 (x4_1 + 1)), (by first | rfl | (simp; done) | (simp [*]; done)), H', ⟨by have := HK1.out; have := HJ7.out; omega⟩, ⟨by (with_reducible repeat (first | apply Kd.R_alloc | apply Kd.R_drewN | apply Kd.R_drew)); exact Kd.R_mono HO138.out (fun _ hk => trivial)⟩, ⟨by repeat (first | (with_reducible first | exact HB.out | apply below_alloc | apply pw_below_drewN | apply below_drew1) | exact HB.out)⟩⟩
                · rw [if_neg c11] at H
                  exact absurd H (by simp)
              · replace c10 := Bool.eq_false_iff.mpr c10
                subst c10
                have H1 : (if (bt a0 x4_1) < 32 then ((spec_digitOf.f (wrap64 (Int.tmod (bt a0 x4_1) 16)) false).bind fun t139 => ((some (([92, 117, 48, 48, (48 + ((Int.tdiv (bt a0 x4_1) 16) % 256)) % 256, t139] : List Int) : List Int)).bind fun y140 => (if x3_1.length + y140.length < 140737488355328 then (spec_Quote.l0 kj7 a0 (x3_1 ++ y140) (wrap64 (x4_1 + 1))) else (none)))) else (if x3_1.length < 140737488355328 then (spec_Quote.l0 kj7 a0 (x3_1 ++ [(bt a0 x4_1)]) (wrap64 (x4_1 + 1))) else (none))) = some r := by rw [if_neg (show ¬ (false = true) by decide)] at H; exact H
                clear H
                have H := H1
                clear H1
                by_cases c16 : (bt a0 x4_1) < 32
                · rw [if_pos c16] at H
                  have c16b0 : decide ((bt a0 x4_1) < 32) = true := decide_eq_true c16
                  clear c16
                  replace H := Option.bind_eq_some_iff.mp H
                  obtain ⟨t139, A170, H⟩ := H
                  replace H : ((some (([92, 117, 48, 48, (48 + ((Int.tdiv (bt a0 x4_1) 16) % 256)) % 256, t139] : List Int) : List Int)).bind fun y140 => (if x3_1.length + y140.length < 140737488355328 then (spec_Quote.l0 kj7 a0 (x3_1 ++ y140) (wrap64 (x4_1 + 1))) else (none))) = some r := H
                  have A17 := Aside0.mk A170
                  clear A170
                  obtain ⟨y140, hy140⟩ : ∃ y_ : List Int, y_ = (([92, 117, 48, 48, (48 + ((Int.tdiv (bt a0 x4_1) 16) % 256)) % 256, t139] : List Int)) := ⟨_, rfl⟩
                  replace H : (if x3_1.length + y140.length < 140737488355328 then (spec_Quote.l0 kj7 a0 (x3_1 ++ y140) (wrap64 (x4_1 + 1))) else (none)) = some r := by first | (rw [hy140]; with_reducible exact H) | (have H2_ := (Option.bind_some _ _).symm.trans H; rw [hy140]; with_reducible exact H2_) | (have H2_ := (Option.bind_some _ _).symm.trans H; with_reducible exact H2_) | with_reducible exact H | (rw [hy140]; exact H) | exact H
                  have Ny140 := Aside0.mk hy140
                  clear hy140
                  by_cases c18 : x3_1.length + y140.length < 140737488355328
                  · rw [if_pos c18] at H
                    have LMc18 := Aside0.mk c18
                    clear c18
                    obtain ⟨y143, hy143⟩ : ∃ y_ : List Int, y_ = (x3_1 ++ y140) := ⟨_, rfl⟩
                    replace H : (spec_Quote.l0 kj7 a0 y143 (wrap64 (x4_1 + 1))) = some r := by first | (rw [hy143]; with_reducible exact H) | (have H2_ := (Option.bind_some _ _).symm.trans H; rw [hy143]; with_reducible exact H2_) | (have H2_ := (Option.bind_some _ _).symm.trans H; with_reducible exact H2_) | with_reducible exact H | (rw [hy143]; exact H) | exact H
                    have Ny143 := Aside0.mk hy143
                    clear hy143
                    have H' := Aside0.mk H
                    clear H
                    go_wp2_with (first | ((with_reducible refine gate_callee (f := 12) rfl ?_); refine goesL_ (some 47) rfl rfl Try.func12 (by kernel_rfl) rfl #[.int .i64 (wrap64 (Int.tmod (bt a0 x4_1) 16)), .bool false] rfl (by (try simp only [List.map_toArray, List.map_cons, List.map_nil]); first | done | rfl | (simp only [List.length_drop, List.length_take]; rfl)) ?_; (with_reducible refine (spec_digitOf.calls (wrap64 (Int.tmod (bt a0 x4_1) 16)) false t139 _ A17.out).mono ?_); rintro e w' ⟨rfl, ⟨nd, rfl⟩⟩; refine ⟨_, rfl, ?_⟩) | ((with_reducible refine gate_dst (N := 48) rfl ?_); refine Kd.R_lit (Kd.int .u8) _ 5 ?hg (N := 48) ?hd (xs := ([92, 117, 48, 48, (48 + ((Int.tdiv (bt a0 x4_1) 16) % 256)) % 256, t139] : List Int)) (inner := [.int .u8 92, .int .u8 117, .int .u8 48, .int .u8 48, .int .u8 ((48 + ((Int.tdiv (bt a0 x4_1) 16) % 256)) % 256), .int .u8 t139]) (ok := fun _ => True) (okp := fun _ => True) ?hr ?hp (fun _ hk => hk) trivial (Below.refl _ _) (Nat.le_refl _) (by simp) ?_; (case hd => rfl); (case hg => rfl); (case hr => first | (go_simp; done) | (go_simp; rfl)); (case hp => exact (Reps.one (show Kd.M (Kd.int .u8) _ _ _ 92 [.int .u8 92] from rfl) (Reps.one (show Kd.M (Kd.int .u8) _ _ _ 117 [.int .u8 117] from rfl) (Reps.one (show Kd.M (Kd.int .u8) _ _ _ 48 [.int .u8 48] from rfl) (Reps.one (show Kd.M (Kd.int .u8) _ _ _ 48 [.int .u8 48] from rfl) (Reps.one (show Kd.M (Kd.int .u8) _ _ _ ((48 + ((Int.tdiv (bt a0 x4_1) 16) % 256)) % 256) [.int .u8 ((48 + ((Int.tdiv (bt a0 x4_1) 16) % 256)) % 256)] from rfl) (Reps.one (show Kd.M (Kd.int .u8) _ _ _ t139 [.int .u8 t139] from rfl) (Reps.none _ _)))))))); intro v141 w19 ho20 hb hg_ hnew_; clear hg_ hnew_; (first | rw [← Ny140.out] at ho20 | (simp only [Int.reduceToNat] at ho20; rw [← Ny140.out] at ho20)); have n0_ := Aside0.mk (Kd.R_elder' (by (with_reducible repeat (first | apply Kd.R_alloc | apply Kd.R_drewN | apply Kd.R_drew)); exact HO_3.out) (Kd.R_base ho20) hb); have n1_ := Aside0.mk (Kd.R_lower (Kd.R_new' ho20 (Kd.R_lt (by (with_reducible repeat (first | apply Kd.R_alloc | apply Kd.R_drewN | apply Kd.R_drew)); exact HO_3.out))) (below_size (by repeat (first | (with_reducible first | exact HB.out | apply below_alloc | apply pw_below_drewN | apply below_drew1) | exact HB.out)))); have n2_ := Aside0.mk (below_step (by repeat (first | (with_reducible first | exact HB.out | apply below_alloc | apply pw_below_drewN | apply below_drew1) | exact HB.out)) hb); clear HO_3; clear HB; have HO_3 := n0_; have HO142 := n1_; have HB := n2_; clear n0_ n1_ n2_; clear hb ho20; obtain ⟨Ao22, co22, eo22⟩ := Kd.R_slice HO142.out; subst eo22) | ((with_reducible refine gate_builtin (b := .append) (xs := #[.tmp 40, .tmp 48]) rfl ?_); at_builtin; refine Kd.R_append_rows (Kd.int .u8) (w0 := w) w.heap.size rfl (.tmp 40) (.tmp 48) 29 5 (.int .u8 0) 1 rfl Try.underlying29 info5 rfl (by decide) (by omega) u3 x3_1 y140 _ _ _ (fun k_ => some k_ ≠ (.slice Ao22 y140.length co22 : Value).ownBlock) (fun _ => False) rfl rfl ?aO ?aR (fun _ _ h => h) (fun _ h => h.elim) ?aF ?aB ?aS ?aL ?_; (case aR => repeat (first | exact (Kd.R_reads' HO142.out).2.2 | (with_reducible refine Kd.C_alloc ?_ _) | (with_reducible refine Kd.C_drewN ?_ _) | (with_reducible refine Kd.C_drew ?_))); (case aB => exact (by repeat (first | (with_reducible first | exact HB.out | apply below_alloc | apply pw_below_drewN | apply below_drew1) | exact HB.out))); (case aF => exact (fun k_ hk => Kd.fresh' (Kd.R_lt (by (with_reducible repeat (first | apply Kd.R_alloc | apply Kd.R_drewN | apply Kd.R_drew)); exact HO142.out)) k_ hk)); (case aO => exact (by (with_reducible repeat (first | apply Kd.R_alloc | apply Kd.R_drewN | apply Kd.R_drew)); exact Kd.R_mono HO_3.out (fun _ hk => hk.2))); (case aS => exact (below_size (by repeat (first | (with_reducible first | exact HB.out | apply below_alloc | apply pw_below_drewN | apply below_drew1) | exact HB.out)))); (case aL => have := LMc18.out; omega); intro v144 w21 ho hb hg hat; rw [← Ny143.out] at ho; have n0_ := Aside0.mk (Kd.R_after (ok := (fun _ => True)) (by (with_reducible repeat (first | apply Kd.R_alloc | apply Kd.R_drewN | apply Kd.R_drew)); exact HO142.out) hg hat); have n1_ := Aside0.mk (hb); have n2_ := Aside0.mk (ho); clear HO142; clear HB; clear HO_3; have HO142 := n0_; have HB := n1_; have HO145 := n2_; clear n0_ n1_ n2_; clear ho hb hg hat))
                    go_roundg kj7
                    case measure => have := HK1.out; have := HJ7.out; omega
                    case rel => exact ⟨(y143), (wrap64 (x4_1 + 1)), (by first | rfl | (simp; done) | (simp [*]; done)), H', ⟨by have := HK1.out; have := HJ7.out; omega⟩, ⟨by (with_reducible repeat (first | apply Kd.R_alloc | apply Kd.R_drewN | apply Kd.R_drew)); exact Kd.R_mono HO145.out (fun _ hk => trivial)⟩, ⟨by repeat (first | (with_reducible first | exact HB.out | apply below_alloc | apply pw_below_drewN | apply below_drew1) | exact HB.out)⟩⟩
                  · rw [if_neg c18] at H
                    exact absurd H (by simp)
                · rw [if_neg c16] at H
                  have c16b0 : decide ((bt a0 x4_1) < 32) = false := decide_eq_false c16
                  clear c16
                  by_cases c23 : x3_1.length < 140737488355328
                  · rw [if_pos c23] at H
                    have LMc23 := Aside0.mk c23
                    clear c23
                    obtain ⟨y146, hy146⟩ : ∃ y_ : List Int, y_ = (x3_1 ++ [(bt a0 x4_1)]) := ⟨_, rfl⟩
                    replace H : (spec_Quote.l0 kj7 a0 y146 (wrap64 (x4_1 + 1))) = some r := by first | (rw [hy146]; with_reducible exact H) | (have H2_ := (Option.bind_some _ _).symm.trans H; rw [hy146]; with_reducible exact H2_) | (have H2_ := (Option.bind_some _ _).symm.trans H; with_reducible exact H2_) | with_reducible exact H | (rw [hy146]; exact H) | exact H
                    have Ny146 := Aside0.mk hy146
                    clear hy146
                    have H' := Aside0.mk H
                    clear H
                    go_wp2_with (first | ((with_reducible refine gate_builtin (b := .append) (xs := #[.tmp 23, .tmp 25]) rfl ?_); at_builtin; refine Kd.R_append (Kd.int .u8) (w0 := w) w.heap.size rfl (.tmp 23) (.tmp 25) 29 5 (.int .u8 0) 1 rfl Try.underlying29 info5 rfl (by decide) (by omega) u3 x3_1 (bt a0 x4_1) [.int .u8 (bt a0 x4_1)] (fun _ => True) (fun _ => False) rfl rfl ?aP (fun _ hk => hk.elim) ?aF ?aO ?aB ?aS ?aL ?_; (case aP => exact rfl); (case aB => exact (by repeat (first | (with_reducible first | exact HB.out | apply below_alloc | apply pw_below_drewN | apply below_drew1) | exact HB.out))); (case aF => exact (fun _ _ => trivial)); (case aO => exact (by (with_reducible repeat (first | apply Kd.R_alloc | apply Kd.R_drewN | apply Kd.R_drew)); exact HO_3.out)); (case aS => exact (below_size (by repeat (first | (with_reducible first | exact HB.out | apply below_alloc | apply pw_below_drewN | apply below_drew1) | exact HB.out)))); (case aL => have := LMc23.out; omega); intro v147 w24 ho hb hg hat; rw [← Ny146.out] at ho; have n0_ := Aside0.mk (hb); have n1_ := Aside0.mk (ho); clear HB; clear HO_3; have HB := n0_; have HO148 := n1_; clear n0_ n1_; clear ho hb hg hat))
                    go_roundg kj7
                    case measure => have := HK1.out; have := HJ7.out; omega
                    case rel => exact ⟨(y146), (wrap64 (x4_1 + 1)), (by first | rfl | (simp; done) | (simp [*]; done)), H', ⟨by have := HK1.out; have := HJ7.out; omega⟩, ⟨by (with_reducible repeat (first | apply Kd.R_alloc | apply Kd.R_drewN | apply Kd.R_drew)); exact HO148.out⟩, ⟨by repeat (first | (with_reducible first | exact HB.out | apply below_alloc | apply pw_below_drewN | apply below_drew1) | exact HB.out)⟩⟩
                  · rw [if_neg c23] at H
                    exact absurd H (by simp)
        · rw [if_neg c5] at H
          exact absurd H (by simp)
      · rw [if_neg c4] at H
        have c4b0 : decide (x4_1 < (a0.size : Int)) = false := decide_eq_false c4
        clear c4
        by_cases c25 : x3_1.length < 140737488355328
        · rw [if_pos c25] at H
          have LMc25 := Aside0.mk c25
          clear c25
          obtain ⟨y128, hy128⟩ : ∃ y_ : List Int, y_ = (x3_1 ++ [34]) := ⟨_, rfl⟩
          replace H : (some (strOfNums y128)) = some r := by first | (rw [hy128]; with_reducible exact H) | (have H2_ := (Option.bind_some _ _).symm.trans H; rw [hy128]; with_reducible exact H2_) | (have H2_ := (Option.bind_some _ _).symm.trans H; with_reducible exact H2_) | with_reducible exact H | (rw [hy128]; exact H) | exact H
          have Ny128 := Aside0.mk hy128
          clear hy128
          obtain rfl := Option.some.inj H
          go_wp2_with (first | ((with_reducible refine gate_builtin (b := .append) (xs := #[.tmp 50, .tmp 51]) rfl ?_); at_builtin; refine Kd.R_append (Kd.int .u8) (w0 := w) w.heap.size rfl (.tmp 50) (.tmp 51) 29 5 (.int .u8 0) 1 rfl Try.underlying29 info5 rfl (by decide) (by omega) u3 x3_1 34 [.int .u8 34] (fun _ => True) (fun _ => False) rfl rfl ?aP (fun _ hk => hk.elim) ?aF ?aO ?aB ?aS ?aL ?_; (case aP => exact rfl); (case aB => exact (by repeat (first | (with_reducible first | exact HB.out | apply below_alloc | apply pw_below_drewN | apply below_drew1) | exact HB.out))); (case aF => exact (fun _ _ => trivial)); (case aO => exact (by (with_reducible repeat (first | apply Kd.R_alloc | apply Kd.R_drewN | apply Kd.R_drew)); exact HO_3.out)); (case aS => exact (below_size (by repeat (first | (with_reducible first | exact HB.out | apply below_alloc | apply pw_below_drewN | apply below_drew1) | exact HB.out)))); (case aL => have := LMc25.out; omega); intro v129 w26 ho hb hg hat; rw [← Ny128.out] at ho; have n0_ := Aside0.mk (hb); have n1_ := Aside0.mk (ho); clear HB; clear HO_3; have HB := n0_; have HO130 := n1_; clear n0_ n1_; clear ho hb hg hat; have hcv27 := own_string (P := Try.prog) Try.underlying29 Try.underlying5 Try.underlying9 (Kd.own_of_R HO130.out)))
          go_ret
          exact ⟨by first | rfl | (simp [errW_none, errW_some] <;> rfl) | (simp [*, errW_none, errW_some] <;> rfl), by repeat (first | (with_reducible first | exact HB.out | apply below_alloc | apply pw_below_drewN | apply below_drew1) | exact HB.out)⟩
        · rw [if_neg c25] at H
          exact absurd H (by simp)

/-! ### laws_gjString: function 6 -/
def laws_gjString.f (k : Nat) (a0 : ByteArray) : Option (Int × ByteArray × ByteArray × Nat × Bool) := (spec_Quote.f k a0).bind fun t150 => (some (3, t150, a0, 0, true))
theorem laws_gjString.mono : ∀ a0 k, LeO (laws_gjString.f k a0) (laws_gjString.f (k + 1) a0) := by
  intro a0 k
  unfold laws_gjString.f
  repeat' first
      | (with_reducible exact spec_Quote.mono _ _)
      | (with_reducible exact LeO.refl _)
      | (with_reducible exact LeO.none _)
      | (with_reducible refine LeO.ite ?_ ?_)
      | (with_reducible refine LeO.bind ?_ (fun _ => ?_))
      | exact spec_Quote.mono _ _
      | exact LeO.none _
      | refine LeO.ite ?_ ?_
      | refine LeO.bind ?_ (fun _ => ?_)
set_option maxHeartbeats 8000000 in
set_option maxRecDepth 100000 in
theorem laws_gjString.calls (k : Nat) (a0 : ByteArray) (r1 : Int) (r2 : ByteArray) (r3 : ByteArray) (r4 : Nat) (r5 : Bool) (w : World) (h : laws_gjString.f k a0 = some (r1, r2, r3, r4, r5)) :
    Calls Try.prog 6 #[.string a0] w fun e w' => e = .returned (.agg #[.int .i64 r1, .string r2, .string r3, .float .f64 r4, .bool r5]) ∧ Below w.heap.size w w' := by
  have hu26 := Try.underlying26
  have HB := Aside0.mk (Below.refl w.heap.size w)
  have H : ((spec_Quote.f k a0).bind fun t150 => (some (3, t150, a0, 0, true))) = some (r1, r2, r3, r4, r5) := h
  clear h
  replace H := Option.bind_eq_some_iff.mp H
  obtain ⟨t150, A20, H⟩ := H
  replace H : (some (3, t150, a0, 0, true)) = some (r1, r2, r3, r4, r5) := H
  have A2 := Aside0.mk A20
  clear A20
  simp only [Option.some.injEq, Prod.mk.injEq] at H
  obtain ⟨rfl, rfl, rfl, rfl, rfl⟩ := H
  go_enter Try.func6, Try.ntmps6
  go_wp2_with (first | ((with_reducible refine gate_dst (N := 2) rfl ?_); refine box_event ?hg (N := 2) ?hd (cs := #[.int .i64 0, .string (⟨#[]⟩ : ByteArray), .string (⟨#[]⟩ : ByteArray), .float .f64 0, .bool false]) (t := 26) ?hr ?_; (case hd => rfl); (case hg => rfl); (case hr => first | (go_simp; done) | (go_simp; rfl)); intro gb149 hg w3 hbox hb; have n0_ := Aside0.mk (below_step (by repeat (first | (with_reducible first | exact HB.out | apply below_alloc | apply pw_below_drewN | apply below_drew1) | exact HB.out)) hb); have n1_ := Aside0.mk (hbox); have n2_ := Aside0.mk ((by rw [hg]; exact (below_size (by repeat (first | (with_reducible first | exact HB.out | apply below_alloc | apply pw_below_drewN | apply below_drew1) | exact HB.out))) : w.heap.size ≤ gb149)); have n3_ := Aside0.mk ((by rw [hg]; exact (below_size (by repeat (first | (with_reducible first | exact HB.out | apply below_alloc | apply pw_below_drewN | apply below_drew1) | exact HB.out))) : w.heap.size ≤ gb149)); clear HB; have HB := n0_; have BK149 := n1_; have GW149 := n2_; have GE149 := n3_; clear n0_ n1_ n2_ n3_; clear hb hbox hg) | ((with_reducible refine gate_callee (f := 9) rfl ?_); refine goesL_ (some 4) rfl rfl Try.func9 (by kernel_rfl) rfl #[.string a0] rfl (by (try simp only [List.map_toArray, List.map_cons, List.map_nil]); first | done | rfl | (simp only [List.length_drop, List.length_take]; rfl)) ?_; (with_reducible refine (spec_Quote.calls k a0 t150 _ A2.out).mono ?_); rintro e w4 ⟨rfl, hb⟩; refine ⟨_, rfl, ?_⟩; have n0_ := Aside0.mk (blk_below (g := gb149) (o := .cells #[.int .i64 0, .string (⟨#[]⟩ : ByteArray), .string (⟨#[]⟩ : ByteArray), .float .f64 0, .bool false] 26 (0, 0)) (by (with_reducible repeat (first | refine blk_drewN ?_ _ | refine blk_drew ?_ | refine blk_alloc ?_ _)); exact BK149.out) hb); have n1_ := Aside0.mk (below_step (by repeat (first | (with_reducible first | exact HB.out | apply below_alloc | apply pw_below_drewN | apply below_drew1 | refine below_set ?_ GE149.out) | exact HB.out)) hb); clear BK149; clear HB; have BK149 := n0_; have HB := n1_; clear n0_ n1_; (try clear hb); (try clear hb2); (try clear hk); (try clear hi); have hcz5_0 : w4.cell? ⟨gb149, 0, none⟩ = some (.int .i64 0) := (blk_cell BK149.out 0).trans rfl; have hcz5_1 : w4.cell? ⟨gb149, 1, none⟩ = some (.string (⟨#[]⟩ : ByteArray)) := (blk_cell BK149.out 1).trans rfl; have hcz5_2 : w4.cell? ⟨gb149, 2, none⟩ = some (.string (⟨#[]⟩ : ByteArray)) := (blk_cell BK149.out 2).trans rfl; have hcz5_3 : w4.cell? ⟨gb149, 3, none⟩ = some (.float .f64 0) := (blk_cell BK149.out 3).trans rfl; have hcz5_4 : w4.cell? ⟨gb149, 4, none⟩ = some (.bool false) := (blk_cell BK149.out 4).trans rfl; have hfz5_0 := blk_frozen BK149.out 0; have hfz5_1 := blk_frozen BK149.out 1; have hfz5_2 := blk_frozen BK149.out 2; have hfz5_3 := blk_frozen BK149.out 3; have hfz5_4 := blk_frozen BK149.out 4))
  refine bodyPost_ret (results_cell_row rfl _ _ gb149 26 #[.int .i64 3, .string t150, .string a0, .float .f64 0, .bool true] (0, 0) _ rfl (by (with_reducible repeat (first | refine blk_drewN ?_ _ | refine blk_drew ?_ | refine blk_alloc ?_ _)); refine blk_put (cs := #[.int .i64 3, .string t150, .string a0, .float .f64 0, .bool false]) ?_ 4 _ rfl; (with_reducible repeat (first | refine blk_drewN ?_ _ | refine blk_drew ?_ | refine blk_alloc ?_ _)); refine blk_put (cs := #[.int .i64 3, .string t150, .string a0, .float .f64 0, .bool false]) ?_ 3 _ rfl; (with_reducible repeat (first | refine blk_drewN ?_ _ | refine blk_drew ?_ | refine blk_alloc ?_ _)); refine blk_put (cs := #[.int .i64 3, .string t150, .string (⟨#[]⟩ : ByteArray), .float .f64 0, .bool false]) ?_ 2 _ rfl; (with_reducible repeat (first | refine blk_drewN ?_ _ | refine blk_drew ?_ | refine blk_alloc ?_ _)); refine blk_put (cs := #[.int .i64 3, .string (⟨#[]⟩ : ByteArray), .string (⟨#[]⟩ : ByteArray), .float .f64 0, .bool false]) ?_ 1 _ rfl; (with_reducible repeat (first | refine blk_drewN ?_ _ | refine blk_drew ?_ | refine blk_alloc ?_ _)); refine blk_put (cs := #[.int .i64 0, .string (⟨#[]⟩ : ByteArray), .string (⟨#[]⟩ : ByteArray), .float .f64 0, .bool false]) ?_ 0 _ rfl; (with_reducible repeat (first | refine blk_drewN ?_ _ | refine blk_drew ?_ | refine blk_alloc ?_ _)); exact BK149.out) Try.underlying26 rfl (by kernel_rfl)) rfl ?_
  exact ⟨by first | rfl | (simp [errW_none, errW_some] <;> rfl) | (simp [*, errW_none, errW_some] <;> rfl), by repeat (first | (with_reducible first | exact HB.out | apply below_alloc | apply pw_below_drewN | apply below_drew1 | refine below_set ?_ GE149.out) | exact HB.out)⟩

end Go.Proofs.Ytkdpkenhhcgnbaa.PFnGjResultLessFold
