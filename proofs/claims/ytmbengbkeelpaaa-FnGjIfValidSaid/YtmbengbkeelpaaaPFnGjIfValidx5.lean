-- Written for this claim by this session's own program (wip/xprint).
import Derived.Test.YtmbengbkeelpaaaPFnGjIfValidx0
import Derived.Test.YtmbengbkeelpaaaPFnGjIfValidx1
import Derived.Test.YtmbengbkeelpaaaPFnGjIfValidx3
import Derived.Test.YtmbengbkeelpaaaPFnGjIfValidx4
namespace Go.Proofs.Ytmbengbkeelpaaa.PFnGjIfValid
open Go.RowKit Go.Proofs.YtmbengbkeelpaaaW.PrintWords Go.Proofs.YtmbengbkeelpaaaW.PrintLast Go.Proofs.YtmbengbkeelpaaaW.PrintMore
attribute [local go_sem] max2_int min2_int max_two min_two max_three min_three max_four min_four   -- for this text's walks alone
set_option linter.unusedVariables false
set_option linter.unusedSimpArgs false

/-! ### spec_Places: function 4 -/
def spec_Places.f (k : Nat) (a0 : ByteArray) : Option (Int × Int × Int × (List (S43)) × (List (S25)) × Bool) := (spec_reader_blanks.f k a0 0).bind fun bt267 => ((spec_reader_value.f k bt267.1 bt267.2).bind fun bt269 => (if bt269.2.2.2.2.2.1 = true then ((spec_reader_blanks.f k bt269.2.2.2.2.2.2.1 bt269.2.2.2.2.2.2.2).bind fun bt282 => (if bt282.2 = (a0.size : Int) then (some (bt269.1, bt269.2.1, bt269.2.2.1, bt269.2.2.2.1, bt269.2.2.2.2.1, true)) else (some (0, 0, 0, ([] : List (S43)), ([] : List (S25)), false)))) else (some (0, 0, 0, ([] : List (S43)), ([] : List (S25)), false))))
theorem spec_Places.mono : ∀ a0 k, LeO (spec_Places.f k a0) (spec_Places.f (k + 1) a0) := by
  intro a0 k
  unfold spec_Places.f
  repeat' first
      | (with_reducible exact spec_reader_blanks.mono _ _ _)
      | (with_reducible exact spec_reader_value.mono _ _ _)
      | (with_reducible exact LeO.refl _)
      | (with_reducible exact LeO.none _)
      | (with_reducible refine LeO.ite ?_ ?_)
      | (with_reducible refine LeO.bind ?_ (fun _ => ?_))
      | exact spec_reader_blanks.mono _ _ _
      | exact spec_reader_value.mono _ _ _
      | exact LeO.none _
      | refine LeO.ite ?_ ?_
      | refine LeO.bind ?_ (fun _ => ?_)
set_option maxHeartbeats 8000000 in
set_option maxRecDepth 100000 in
theorem spec_Places.calls (k : Nat) (a0 : ByteArray) (r1 : Int) (r2 : Int) (r3 : Int) (r4 : List (S43)) (r5 : List (S25)) (r6 : Bool) (w : World) (h : spec_Places.f k a0 = some (r1, r2, r3, r4, r5, r6)) :
    Calls Try.prog 4 #[.string a0] w fun e w' => ∃ v3_ v4_ : Value, e = .returned (.tuple #[.agg #[.int .i64 r1, .int .i64 r2, .int .i64 r3, v3_, v4_], .bool r6]) ∧ Kd.R k43 43 w' w.heap.size (fun _ => True) v3_ r4 ∧ Kd.R k25 25 w' w.heap.size (fun k_ => some k_ ≠ (v3_ : Value).ownBlock) v4_ r5 ∧ Below w.heap.size w w' := by
  have hu25 := Try.underlying25
  have hu31 := Try.underlying31
  have HB := Aside0.mk (Below.refl w.heap.size w)
  have H : ((spec_reader_blanks.f k a0 0).bind fun bt267 => ((spec_reader_value.f k bt267.1 bt267.2).bind fun bt269 => (if bt269.2.2.2.2.2.1 = true then ((spec_reader_blanks.f k bt269.2.2.2.2.2.2.1 bt269.2.2.2.2.2.2.2).bind fun bt282 => (if bt282.2 = (a0.size : Int) then (some (bt269.1, bt269.2.1, bt269.2.2.1, bt269.2.2.2.1, bt269.2.2.2.2.1, true)) else (some (0, 0, 0, ([] : List (S43)), ([] : List (S25)), false)))) else (some (0, 0, 0, ([] : List (S43)), ([] : List (S25)), false))))) = some (r1, r2, r3, r4, r5, r6) := h
  clear h
  replace H := Option.bind_eq_some_iff.mp H
  obtain ⟨⟨t267, t268⟩, A20, H⟩ := H
  replace H : ((spec_reader_value.f k t267 t268).bind fun bt269 => (if bt269.2.2.2.2.2.1 = true then ((spec_reader_blanks.f k bt269.2.2.2.2.2.2.1 bt269.2.2.2.2.2.2.2).bind fun bt282 => (if bt282.2 = (a0.size : Int) then (some (bt269.1, bt269.2.1, bt269.2.2.1, bt269.2.2.2.1, bt269.2.2.2.2.1, true)) else (some (0, 0, 0, ([] : List (S43)), ([] : List (S25)), false)))) else (some (0, 0, 0, ([] : List (S43)), ([] : List (S25)), false)))) = some (r1, r2, r3, r4, r5, r6) := H
  have A2 := Aside0.mk A20
  clear A20
  replace H := Option.bind_eq_some_iff.mp H
  obtain ⟨⟨t269, t270, t271, t272, t275, t278, t279, t280⟩, A30, H⟩ := H
  replace H : (if t278 = true then ((spec_reader_blanks.f k t279 t280).bind fun bt282 => (if bt282.2 = (a0.size : Int) then (some (t269, t270, t271, t272, t275, true)) else (some (0, 0, 0, ([] : List (S43)), ([] : List (S25)), false)))) else (some (0, 0, 0, ([] : List (S43)), ([] : List (S25)), false))) = some (r1, r2, r3, r4, r5, r6) := H
  have A3 := Aside0.mk A30
  clear A30
  by_cases c4 : t278 = true
  · subst c4
    have H1 : ((spec_reader_blanks.f k t279 t280).bind fun bt282 => (if bt282.2 = (a0.size : Int) then (some (t269, t270, t271, t272, t275, true)) else (some (0, 0, 0, ([] : List (S43)), ([] : List (S25)), false)))) = some (r1, r2, r3, r4, r5, r6) := by rw [if_pos rfl] at H; exact H
    clear H
    have H := H1
    clear H1
    replace H := Option.bind_eq_some_iff.mp H
    obtain ⟨⟨t282, t283⟩, A50, H⟩ := H
    replace H : (if t283 = (a0.size : Int) then (some (t269, t270, t271, t272, t275, true)) else (some (0, 0, 0, ([] : List (S43)), ([] : List (S25)), false))) = some (r1, r2, r3, r4, r5, r6) := H
    have A5 := Aside0.mk A50
    clear A50
    by_cases c6 : t283 = (a0.size : Int)
    · rw [if_pos c6] at H
      have c6b0 : (t283 == (a0.size : Int)) = true := beq_iff_eq.mpr c6
      have c6b1 : (t283 != (a0.size : Int)) = false := bne_eq_false_iff_eq.mpr c6
      clear c6
      simp only [Option.some.injEq, Prod.mk.injEq] at H
      obtain ⟨rfl, rfl, rfl, rfl, rfl, rfl⟩ := H
      go_enter Try.func4, Try.ntmps4
      go_wp2_with (first | ((with_reducible refine gate_dst (N := 2) rfl ?_); refine box_event ?hg (N := 2) ?hd (cs := #[.int .i64 0, .int .i64 0, .int .i64 0, .slice none 0 0, .slice none 0 0]) (t := 25) ?hr ?_; (case hd => rfl); (case hg => rfl); (case hr => first | (go_simp; done) | (go_simp; rfl)); intro gb265 hg w7 hbox hb; have n0_ := Aside0.mk (below_step (by repeat (first | (with_reducible first | exact HB.out | apply below_alloc | apply pw_below_drewN | apply below_drew1) | exact HB.out)) hb); have n1_ := Aside0.mk (hbox); have n2_ := Aside0.mk ((by rw [hg]; exact (below_size (by repeat (first | (with_reducible first | exact HB.out | apply below_alloc | apply pw_below_drewN | apply below_drew1) | exact HB.out))) : w.heap.size ≤ gb265)); have n3_ := Aside0.mk ((by rw [hg]; exact (below_size (by repeat (first | (with_reducible first | exact HB.out | apply below_alloc | apply pw_below_drewN | apply below_drew1) | exact HB.out))) : w.heap.size ≤ gb265)); clear HB; have HB := n0_; have BK265 := n1_; have GW265 := n2_; have GE265 := n3_; clear n0_ n1_ n2_ n3_; clear hb hbox hg) | ((with_reducible refine gate_dst (N := 4) rfl ?_); refine box_event ?hg (N := 4) ?hd (cs := #[.string (⟨#[]⟩ : ByteArray), .int .i64 0]) (t := 31) ?hr ?_; (case hd => rfl); (case hg => rfl); (case hr => first | (go_simp; done) | (go_simp; rfl)); intro gb266 hg w8 hbox hb; have n0_ := Aside0.mk (blk_below (g := gb265) (o := .cells #[.int .i64 0, .int .i64 0, .int .i64 0, .slice none 0 0, .slice none 0 0] 25 (0, 0)) (by (with_reducible repeat (first | refine blk_drewN ?_ _ | refine blk_drew ?_ | refine blk_alloc ?_ _)); exact BK265.out) hb); have n1_ := Aside0.mk (below_step (by repeat (first | (with_reducible first | exact HB.out | apply below_alloc | apply pw_below_drewN | apply below_drew1 | refine below_set ?_ GE265.out) | exact HB.out)) hb); have n2_ := Aside0.mk ((by rw [hg]; exact (below_size (by repeat (first | (with_reducible first | exact HB.out | apply below_alloc | apply pw_below_drewN | apply below_drew1 | refine below_set ?_ GE265.out) | exact HB.out))) : w.heap.size ≤ gb266)); have n3_ := Aside0.mk ((by rw [hg]; exact (below_size (by repeat (first | (with_reducible first | exact HB.out | apply below_alloc | apply pw_below_drewN | apply below_drew1 | refine below_set ?_ GE265.out) | exact HB.out))) : w.heap.size ≤ gb266)); have n4_ := Aside0.mk ((by rw [hg]; exact Nat.ne_of_lt (blk_lt (g := gb265) (o := .cells #[.int .i64 0, .int .i64 0, .int .i64 0, .slice none 0 0, .slice none 0 0] 25 (0, 0)) (by (with_reducible repeat (first | refine blk_drewN ?_ _ | refine blk_drew ?_ | refine blk_alloc ?_ _)); exact BK265.out)) : gb265 ≠ gb266)); have n5_ := Aside0.mk ((by rw [hg]; exact Nat.ne_of_gt (blk_lt (g := gb265) (o := .cells #[.int .i64 0, .int .i64 0, .int .i64 0, .slice none 0 0, .slice none 0 0] 25 (0, 0)) (by (with_reducible repeat (first | refine blk_drewN ?_ _ | refine blk_drew ?_ | refine blk_alloc ?_ _)); exact BK265.out)) : gb266 ≠ gb265)); have n6_ := Aside0.mk ((show IsS31 w w8 gb266 (⟨#[]⟩ : ByteArray) 0 from ⟨hbox, (by rw [hg]; exact (below_size (by repeat (first | (with_reducible first | exact HB.out | apply below_alloc | apply pw_below_drewN | apply below_drew1 | refine below_set ?_ GE265.out) | exact HB.out))) : w.heap.size ≤ gb266)⟩)); clear BK265; clear HB; have BK265 := n0_; have HB := n1_; have GW266 := n2_; have GE266 := n3_; have NB265_266 := n4_; have NB266_265 := n5_; have HI266 := n6_; clear n0_ n1_ n2_ n3_ n4_ n5_ n6_; clear hb hbox hg; obtain ⟨HGz9, hgz9⟩ := HI266.out; have hcz9_0 := cellS31_0 HGz9; have hcz9_1 := cellS31_1 HGz9; have hfz9_0 := blk_frozen HGz9 0; have hfz9_1 := blk_frozen HGz9 1; clear HGz9 hgz9) | ((with_reducible refine gate_callee (f := 6) rfl ?_); refine goesL_ (some 9) rfl rfl Try.func6 (by kernel_rfl) rfl #[.pointer (some ⟨gb266, 0, none⟩)] rfl (by (try simp only [List.map_toArray, List.map_cons, List.map_nil]); first | done | rfl | (simp only [List.length_drop, List.length_take]; rfl)) ?_; (with_reducible refine (spec_reader_blanks.calls k gb266 a0 0 t267 t268 w _ ?side1 ?side2 A2.out).mono ?_); (case side1 => repeat (first | (with_reducible first | exact HI266.out | apply IsS31.alloc | apply IsS31.drewN | apply IsS31.drew | apply IsS31.set_0 | apply IsS31.set_1 | refine IsS31.far ?_ NB266_265.out _) | exact HI266.out)); (case side2 => repeat (first | (with_reducible first | exact HB.out | apply below_alloc | apply pw_below_drewN | apply below_drew1 | refine below_set ?_ (IsS31.ge HI266.out) | refine below_set ?_ GE265.out) | exact HB.out)); rintro e w10 ⟨rfl, hi, hb, hk⟩; refine ⟨_, rfl, ?_⟩; have n0_ := Aside0.mk (KeepBut.blk hk (g' := gb265) (o := .cells #[.int .i64 0, .int .i64 0, .int .i64 0, .slice none 0 0, .slice none 0 0] 25 (0, 0)) (by (with_reducible repeat (first | refine blk_drewN ?_ _ | refine blk_drew ?_ | refine blk_alloc ?_ _)); refine blk_far ?_ NB265_266.out _; (with_reducible repeat (first | refine blk_drewN ?_ _ | refine blk_drew ?_ | refine blk_alloc ?_ _)); refine blk_far ?_ NB265_266.out _; (with_reducible repeat (first | refine blk_drewN ?_ _ | refine blk_drew ?_ | refine blk_alloc ?_ _)); exact BK265.out) NB265_266.out (by simp)); have n1_ := Aside0.mk (hb); have n2_ := Aside0.mk (hi); clear BK265; clear HB; clear HI266; have BK265 := n0_; have HB := n1_; have HI266 := n2_; clear n0_ n1_ n2_; (try clear hb); (try clear hb2); (try clear hk); (try clear hi)) | ((with_reducible refine gate_callee (f := 7) rfl ?_); refine goesL_ (some 11) rfl rfl Try.func7 (by kernel_rfl) rfl #[.pointer (some ⟨gb266, 0, none⟩)] rfl (by (try simp only [List.map_toArray, List.map_cons, List.map_nil]); first | done | rfl | (simp only [List.length_drop, List.length_take]; rfl)) ?_; (with_reducible refine (spec_reader_value.calls k gb266 t267 t268 t269 t270 t271 t272 t275 true t279 t280 w _ ?side1 ?side2 A3.out).mono ?_); (case side1 => repeat (first | (with_reducible first | exact HI266.out | apply IsS31.alloc | apply IsS31.drewN | apply IsS31.drew | apply IsS31.set_0 | apply IsS31.set_1 | refine IsS31.far ?_ NB266_265.out _) | exact HI266.out)); (case side2 => repeat (first | (with_reducible first | exact HB.out | apply below_alloc | apply pw_below_drewN | apply below_drew1 | refine below_set ?_ (IsS31.ge HI266.out) | refine below_set ?_ GE265.out) | exact HB.out)); rintro e w11 ⟨v273, v276, rfl, ho0, ho1, hi, hb, hk⟩; refine ⟨_, rfl, ?_⟩; have n0_ := Aside0.mk (KeepBut.blk hk (g' := gb265) (o := .cells #[.int .i64 0, .int .i64 0, .int .i64 0, .slice none 0 0, .slice none 0 0] 25 (0, 0)) (by (with_reducible repeat (first | refine blk_drewN ?_ _ | refine blk_drew ?_ | refine blk_alloc ?_ _)); exact BK265.out) NB265_266.out (by simp)); have n1_ := Aside0.mk (Kd.R_lower ho0 (below_size (by repeat (first | (with_reducible first | exact HB.out | apply below_alloc | apply pw_below_drewN | apply below_drew1 | refine below_set ?_ (IsS31.ge HI266.out) | refine below_set ?_ GE265.out) | exact HB.out)))); have n2_ := Aside0.mk (Kd.R_lower (Kd.R_newB ho1 (g := gb265) (o := .cells #[.int .i64 0, .int .i64 0, .int .i64 0, .slice none 0 0, .slice none 0 0] 25 (0, 0)) (by (with_reducible repeat (first | refine blk_drewN ?_ _ | refine blk_drew ?_ | refine blk_alloc ?_ _)); exact BK265.out)) (below_size (by repeat (first | (with_reducible first | exact HB.out | apply below_alloc | apply pw_below_drewN | apply below_drew1 | refine below_set ?_ (IsS31.ge HI266.out) | refine below_set ?_ GE265.out) | exact HB.out)))); have n3_ := Aside0.mk (hb); have n4_ := Aside0.mk (hi); clear BK265; clear HB; clear HI266; have BK265 := n0_; have HO274 := n1_; have HO277 := n2_; have HB := n3_; have HI266 := n4_; clear n0_ n1_ n2_ n3_ n4_; (try clear hb); (try clear hb2); (try clear hk); (try clear hi); (try clear ho0); (try clear ho1)) | ((with_reducible refine gate_dst (N := 5) rfl ?_); refine box_event ?hg (N := 5) ?hd (cs := #[.int .i64 0, .int .i64 0, .int .i64 0, .slice none 0 0, .slice none 0 0]) (t := 25) ?hr ?_; (case hd => rfl); (case hg => rfl); (case hr => first | (go_simp; done) | (go_simp; rfl)); intro gb281 hg w12 hbox hb; have n0_ := Aside0.mk (Kd.R_below (by (with_reducible repeat (first | apply Kd.R_alloc | apply Kd.R_drewN | apply Kd.R_drew)); exact HO274.out) hb); have n1_ := Aside0.mk (Kd.R_below (Kd.R_elderB (by (with_reducible repeat (first | apply Kd.R_alloc | apply Kd.R_drewN | apply Kd.R_drew)); exact HO277.out) gb281 (Nat.le_of_eq hg.symm)) hb); have n2_ := Aside0.mk (blk_below (g := gb265) (o := .cells #[.int .i64 0, .int .i64 0, .int .i64 0, .slice none 0 0, .slice none 0 0] 25 (0, 0)) (by (with_reducible repeat (first | refine blk_drewN ?_ _ | refine blk_drew ?_ | refine blk_alloc ?_ _)); exact BK265.out) hb); have n3_ := Aside0.mk (IsS31.below (by repeat (first | (with_reducible first | exact HI266.out | apply IsS31.alloc | apply IsS31.drewN | apply IsS31.drew | apply IsS31.set_0 | apply IsS31.set_1 | refine IsS31.far ?_ NB266_265.out _) | exact HI266.out)) hb); have n4_ := Aside0.mk (below_step (by repeat (first | (with_reducible first | exact HB.out | apply below_alloc | apply pw_below_drewN | apply below_drew1 | refine below_set ?_ (IsS31.ge HI266.out) | refine below_set ?_ GE265.out) | exact HB.out)) hb); have n5_ := Aside0.mk (hbox); have n6_ := Aside0.mk ((by rw [hg]; exact (below_size (by repeat (first | (with_reducible first | exact HB.out | apply below_alloc | apply pw_below_drewN | apply below_drew1 | refine below_set ?_ (IsS31.ge HI266.out) | refine below_set ?_ GE265.out) | exact HB.out))) : w.heap.size ≤ gb281)); have n7_ := Aside0.mk ((by rw [hg]; exact (below_size (by repeat (first | (with_reducible first | exact HB.out | apply below_alloc | apply pw_below_drewN | apply below_drew1 | refine below_set ?_ (IsS31.ge HI266.out) | refine below_set ?_ GE265.out) | exact HB.out))) : w.heap.size ≤ gb281)); have n8_ := Aside0.mk ((by rw [hg]; exact Nat.ne_of_lt (blk_lt (g := gb265) (o := .cells #[.int .i64 0, .int .i64 0, .int .i64 0, .slice none 0 0, .slice none 0 0] 25 (0, 0)) (by (with_reducible repeat (first | refine blk_drewN ?_ _ | refine blk_drew ?_ | refine blk_alloc ?_ _)); exact BK265.out)) : gb265 ≠ gb281)); have n9_ := Aside0.mk ((by rw [hg]; exact Nat.ne_of_gt (blk_lt (g := gb265) (o := .cells #[.int .i64 0, .int .i64 0, .int .i64 0, .slice none 0 0, .slice none 0 0] 25 (0, 0)) (by (with_reducible repeat (first | refine blk_drewN ?_ _ | refine blk_drew ?_ | refine blk_alloc ?_ _)); exact BK265.out)) : gb281 ≠ gb265)); have n10_ := Aside0.mk ((by rw [hg]; exact Nat.ne_of_lt (IsS31.lt (show IsS31 w _ gb266 t279 t280 from by repeat (first | (with_reducible first | exact HI266.out | apply IsS31.alloc | apply IsS31.drewN | apply IsS31.drew | apply IsS31.set_0 | apply IsS31.set_1 | refine IsS31.far ?_ NB266_265.out _) | exact HI266.out))) : gb266 ≠ gb281)); have n11_ := Aside0.mk ((by rw [hg]; exact Nat.ne_of_gt (IsS31.lt (show IsS31 w _ gb266 t279 t280 from by repeat (first | (with_reducible first | exact HI266.out | apply IsS31.alloc | apply IsS31.drewN | apply IsS31.drew | apply IsS31.set_0 | apply IsS31.set_1 | refine IsS31.far ?_ NB266_265.out _) | exact HI266.out))) : gb281 ≠ gb266)); clear HO274; clear HO277; clear BK265; clear HI266; clear HB; have HO274 := n0_; have HO277 := n1_; have BK265 := n2_; have HI266 := n3_; have HB := n4_; have BK281 := n5_; have GW281 := n6_; have GE281 := n7_; have NB265_281 := n8_; have NB281_265 := n9_; have NB266_281 := n10_; have NB281_266 := n11_; clear n0_ n1_ n2_ n3_ n4_ n5_ n6_ n7_ n8_ n9_ n10_ n11_; clear hb hbox hg; have hnb13 := NB281_265.out; have hnc13 := NB265_281.out; have hnb14 := NB281_266.out; have hnc14 := NB266_281.out; have hcz15_0 : w12.cell? ⟨gb281, 0, none⟩ = some (.int .i64 0) := (blk_cell BK281.out 0).trans rfl; have hcz15_1 : w12.cell? ⟨gb281, 1, none⟩ = some (.int .i64 0) := (blk_cell BK281.out 1).trans rfl; have hcz15_2 : w12.cell? ⟨gb281, 2, none⟩ = some (.int .i64 0) := (blk_cell BK281.out 2).trans rfl; have hcz15_3 : w12.cell? ⟨gb281, 3, none⟩ = some (.slice none 0 0) := (blk_cell BK281.out 3).trans rfl; have hcz15_4 : w12.cell? ⟨gb281, 4, none⟩ = some (.slice none 0 0) := (blk_cell BK281.out 4).trans rfl; have hfz15_0 := blk_frozen BK281.out 0; have hfz15_1 := blk_frozen BK281.out 1; have hfz15_2 := blk_frozen BK281.out 2; have hfz15_3 := blk_frozen BK281.out 3; have hfz15_4 := blk_frozen BK281.out 4; obtain ⟨Ao16, co16, eo16⟩ := Kd.R_slice HO274.out; subst eo16; obtain ⟨Ao17, co17, eo17⟩ := Kd.R_slice HO277.out; subst eo17) | ((with_reducible refine gate_callee (f := 6) rfl ?_); refine goesL_ (some 17) rfl rfl Try.func6 (by kernel_rfl) rfl #[.pointer (some ⟨gb266, 0, none⟩)] rfl (by (try simp only [List.map_toArray, List.map_cons, List.map_nil]); first | done | rfl | (simp only [List.length_drop, List.length_take]; rfl)) ?_; (with_reducible refine (spec_reader_blanks.calls k gb266 t279 t280 t282 t283 w _ ?side1 ?side2 A5.out).mono ?_); (case side1 => repeat (first | (with_reducible first | exact HI266.out | apply IsS31.alloc | apply IsS31.drewN | apply IsS31.drew | apply IsS31.set_0 | apply IsS31.set_1 | refine IsS31.far ?_ NB266_265.out _ | refine IsS31.far ?_ NB266_281.out _) | exact HI266.out)); (case side2 => repeat (first | (with_reducible first | exact HB.out | apply below_alloc | apply pw_below_drewN | apply below_drew1 | refine below_set ?_ (IsS31.ge HI266.out) | refine below_set ?_ GE265.out | refine below_set ?_ GE281.out) | exact HB.out)); rintro e w18 ⟨rfl, hi, hb, hk⟩; refine ⟨_, rfl, ?_⟩; have n0_ := Aside0.mk (KeepBut.blk hk (g' := gb265) (o := .cells #[.int .i64 0, .int .i64 0, .int .i64 0, .slice none 0 0, .slice none 0 0] 25 (0, 0)) (by (with_reducible repeat (first | refine blk_drewN ?_ _ | refine blk_drew ?_ | refine blk_alloc ?_ _)); refine blk_far ?_ NB265_281.out _; (with_reducible repeat (first | refine blk_drewN ?_ _ | refine blk_drew ?_ | refine blk_alloc ?_ _)); refine blk_far ?_ NB265_281.out _; (with_reducible repeat (first | refine blk_drewN ?_ _ | refine blk_drew ?_ | refine blk_alloc ?_ _)); refine blk_far ?_ NB265_281.out _; (with_reducible repeat (first | refine blk_drewN ?_ _ | refine blk_drew ?_ | refine blk_alloc ?_ _)); refine blk_far ?_ NB265_281.out _; (with_reducible repeat (first | refine blk_drewN ?_ _ | refine blk_drew ?_ | refine blk_alloc ?_ _)); refine blk_far ?_ NB265_281.out _; (with_reducible repeat (first | refine blk_drewN ?_ _ | refine blk_drew ?_ | refine blk_alloc ?_ _)); exact BK265.out) NB265_266.out (by simp)); have n1_ := Aside0.mk (Kd.R_mono (Kd.R_keep (IsS31.apart (show IsS31 w _ gb266 t279 t280 from by repeat (first | (with_reducible first | exact HI266.out | apply IsS31.alloc | apply IsS31.drewN | apply IsS31.drew | apply IsS31.set_0 | apply IsS31.set_1 | refine IsS31.far ?_ NB266_265.out _ | refine IsS31.far ?_ NB266_281.out _) | exact HI266.out)) (by (with_reducible repeat (first | apply Kd.R_alloc | apply Kd.R_drewN | apply Kd.R_drew)); exact (Kd.R_mono (Kd.R_far (p := ⟨gb281, 4, none⟩) (Kd.R_far (p := ⟨gb281, 3, none⟩) (Kd.R_far (p := ⟨gb281, 2, none⟩) (Kd.R_far (p := ⟨gb281, 1, none⟩) (Kd.R_far (p := ⟨gb281, 0, none⟩) (Kd.R_types HO274.out BK281.out (by decide)) (fun _ hk => hk.2) (.int .i64 t269)) (fun _ hk => hk.2) (.int .i64 t270)) (fun _ hk => hk.2) (.int .i64 t271)) (fun _ hk => hk.2) (.slice Ao16 t272.length co16)) (fun _ hk => hk.2) (.slice Ao17 t275.length co17)) (fun _ h_ => h_.1))) (by decide)) hk (fun _ h => h.2)) (fun _ h => h.1)); have n2_ := Aside0.mk (Kd.R_mono (Kd.R_keep (IsS31.apart (show IsS31 w _ gb266 t279 t280 from by repeat (first | (with_reducible first | exact HI266.out | apply IsS31.alloc | apply IsS31.drewN | apply IsS31.drew | apply IsS31.set_0 | apply IsS31.set_1 | refine IsS31.far ?_ NB266_265.out _ | refine IsS31.far ?_ NB266_281.out _) | exact HI266.out)) (by (with_reducible repeat (first | apply Kd.R_alloc | apply Kd.R_drewN | apply Kd.R_drew)); exact (Kd.R_mono (Kd.R_far (p := ⟨gb281, 4, none⟩) (Kd.R_far (p := ⟨gb281, 3, none⟩) (Kd.R_far (p := ⟨gb281, 2, none⟩) (Kd.R_far (p := ⟨gb281, 1, none⟩) (Kd.R_far (p := ⟨gb281, 0, none⟩) (Kd.R_mono HO277.out (fun k_ hk => (⟨hk, hk.2⟩ : _ ∧ k_ ≠ gb281))) (fun _ hk => hk.2) (.int .i64 t269)) (fun _ hk => hk.2) (.int .i64 t270)) (fun _ hk => hk.2) (.int .i64 t271)) (fun _ hk => hk.2) (.slice Ao16 t272.length co16)) (fun _ hk => hk.2) (.slice Ao17 t275.length co17)) (fun _ h_ => h_.1))) (by decide)) hk (fun _ h => h.2)) (fun _ h => h.1)); have n3_ := Aside0.mk (KeepBut.blk hk (g' := gb281) (o := .cells #[.int .i64 t269, .int .i64 t270, .int .i64 t271, .slice Ao16 t272.length co16, .slice Ao17 t275.length co17] 25 (0, 0)) (by (with_reducible repeat (first | refine blk_drewN ?_ _ | refine blk_drew ?_ | refine blk_alloc ?_ _)); refine blk_put (cs := #[.int .i64 t269, .int .i64 t270, .int .i64 t271, .slice Ao16 t272.length co16, .slice none 0 0]) ?_ 4 _ rfl; (with_reducible repeat (first | refine blk_drewN ?_ _ | refine blk_drew ?_ | refine blk_alloc ?_ _)); refine blk_put (cs := #[.int .i64 t269, .int .i64 t270, .int .i64 t271, .slice none 0 0, .slice none 0 0]) ?_ 3 _ rfl; (with_reducible repeat (first | refine blk_drewN ?_ _ | refine blk_drew ?_ | refine blk_alloc ?_ _)); refine blk_put (cs := #[.int .i64 t269, .int .i64 t270, .int .i64 0, .slice none 0 0, .slice none 0 0]) ?_ 2 _ rfl; (with_reducible repeat (first | refine blk_drewN ?_ _ | refine blk_drew ?_ | refine blk_alloc ?_ _)); refine blk_put (cs := #[.int .i64 t269, .int .i64 0, .int .i64 0, .slice none 0 0, .slice none 0 0]) ?_ 1 _ rfl; (with_reducible repeat (first | refine blk_drewN ?_ _ | refine blk_drew ?_ | refine blk_alloc ?_ _)); refine blk_put (cs := #[.int .i64 0, .int .i64 0, .int .i64 0, .slice none 0 0, .slice none 0 0]) ?_ 0 _ rfl; (with_reducible repeat (first | refine blk_drewN ?_ _ | refine blk_drew ?_ | refine blk_alloc ?_ _)); exact BK281.out) NB281_266.out (by simp)); have n4_ := Aside0.mk (hb); have n5_ := Aside0.mk (hi); clear BK265; clear HO274; clear HO277; clear BK281; clear HB; clear HI266; have BK265 := n0_; have HO274 := n1_; have HO277 := n2_; have BK281 := n3_; have HB := n4_; have HI266 := n5_; clear n0_ n1_ n2_ n3_ n4_ n5_; (try clear hb); (try clear hb2); (try clear hk); (try clear hi); obtain ⟨HGz19, hgz19⟩ := HI266.out; have hcz19_0 := cellS31_0 HGz19; have hcz19_1 := cellS31_1 HGz19; have hfz19_0 := blk_frozen HGz19 0; have hfz19_1 := blk_frozen HGz19 1; clear HGz19 hgz19; have hcz20_0 : w18.cell? ⟨gb281, 0, none⟩ = some (.int .i64 t269) := (blk_cell BK281.out 0).trans rfl; have hcz20_1 : w18.cell? ⟨gb281, 1, none⟩ = some (.int .i64 t270) := (blk_cell BK281.out 1).trans rfl; have hcz20_2 : w18.cell? ⟨gb281, 2, none⟩ = some (.int .i64 t271) := (blk_cell BK281.out 2).trans rfl; have hcz20_3 : w18.cell? ⟨gb281, 3, none⟩ = some (.slice Ao16 t272.length co16) := (blk_cell BK281.out 3).trans rfl; have hcz20_4 : w18.cell? ⟨gb281, 4, none⟩ = some (.slice Ao17 t275.length co17) := (blk_cell BK281.out 4).trans rfl; have hfz20_0 := blk_frozen BK281.out 0; have hfz20_1 := blk_frozen BK281.out 1; have hfz20_2 := blk_frozen BK281.out 2; have hfz20_3 := blk_frozen BK281.out 3; have hfz20_4 := blk_frozen BK281.out 4; have hnb21 := NB265_266.out; have hnc21 := NB266_265.out; have hcz22_0 : w18.cell? ⟨gb265, 0, none⟩ = some (.int .i64 0) := (blk_cell BK265.out 0).trans rfl; have hcz22_1 : w18.cell? ⟨gb265, 1, none⟩ = some (.int .i64 0) := (blk_cell BK265.out 1).trans rfl; have hcz22_2 : w18.cell? ⟨gb265, 2, none⟩ = some (.int .i64 0) := (blk_cell BK265.out 2).trans rfl; have hcz22_3 : w18.cell? ⟨gb265, 3, none⟩ = some (.slice none 0 0) := (blk_cell BK265.out 3).trans rfl; have hcz22_4 : w18.cell? ⟨gb265, 4, none⟩ = some (.slice none 0 0) := (blk_cell BK265.out 4).trans rfl; have hfz22_0 := blk_frozen BK265.out 0; have hfz22_1 := blk_frozen BK265.out 1; have hfz22_2 := blk_frozen BK265.out 2; have hfz22_3 := blk_frozen BK265.out 3; have hfz22_4 := blk_frozen BK265.out 4))
      refine bodyPost_ret (results_ct rfl _ _ gb265 25 #[.int .i64 t269, .int .i64 t270, .int .i64 t271, .slice Ao16 t272.length co16, .slice Ao17 t275.length co17] (0, 0) _ rfl (by (with_reducible repeat (first | refine blk_drewN ?_ _ | refine blk_drew ?_ | refine blk_alloc ?_ _)); refine blk_put (cs := #[.int .i64 t269, .int .i64 t270, .int .i64 t271, .slice Ao16 t272.length co16, .slice none 0 0]) ?_ 4 _ rfl; (with_reducible repeat (first | refine blk_drewN ?_ _ | refine blk_drew ?_ | refine blk_alloc ?_ _)); refine blk_put (cs := #[.int .i64 t269, .int .i64 t270, .int .i64 t271, .slice none 0 0, .slice none 0 0]) ?_ 3 _ rfl; (with_reducible repeat (first | refine blk_drewN ?_ _ | refine blk_drew ?_ | refine blk_alloc ?_ _)); refine blk_put (cs := #[.int .i64 t269, .int .i64 t270, .int .i64 0, .slice none 0 0, .slice none 0 0]) ?_ 2 _ rfl; (with_reducible repeat (first | refine blk_drewN ?_ _ | refine blk_drew ?_ | refine blk_alloc ?_ _)); refine blk_put (cs := #[.int .i64 t269, .int .i64 0, .int .i64 0, .slice none 0 0, .slice none 0 0]) ?_ 1 _ rfl; (with_reducible repeat (first | refine blk_drewN ?_ _ | refine blk_drew ?_ | refine blk_alloc ?_ _)); refine blk_put (cs := #[.int .i64 0, .int .i64 0, .int .i64 0, .slice none 0 0, .slice none 0 0]) ?_ 0 _ rfl; (with_reducible repeat (first | refine blk_drewN ?_ _ | refine blk_drew ?_ | refine blk_alloc ?_ _)); exact BK265.out) Try.underlying25 rfl (by kernel_rfl)) rfl ?_
      exact ⟨_, _, by first | rfl | (simp [errW_none, errW_some] <;> rfl) | (simp [*, errW_none, errW_some] <;> rfl), by (with_reducible repeat (first | apply Kd.R_alloc | apply Kd.R_drewN | apply Kd.R_drew)); exact Kd.R_mono (Kd.R_far (p := ⟨gb265, 4, none⟩) (Kd.R_far (p := ⟨gb265, 3, none⟩) (Kd.R_far (p := ⟨gb265, 2, none⟩) (Kd.R_far (p := ⟨gb265, 1, none⟩) (Kd.R_far (p := ⟨gb265, 0, none⟩) (Kd.R_types HO274.out BK265.out (by decide)) (fun _ hk => hk.2) (.int .i64 t269)) (fun _ hk => hk.2) (.int .i64 t270)) (fun _ hk => hk.2) (.int .i64 t271)) (fun _ hk => hk.2) (.slice Ao16 t272.length co16)) (fun _ hk => hk.2) (.slice Ao17 t275.length co17)) (fun _ hk => trivial), by (with_reducible repeat (first | apply Kd.R_alloc | apply Kd.R_drewN | apply Kd.R_drew)); exact Kd.R_mono (Kd.R_far (p := ⟨gb265, 4, none⟩) (Kd.R_far (p := ⟨gb265, 3, none⟩) (Kd.R_far (p := ⟨gb265, 2, none⟩) (Kd.R_far (p := ⟨gb265, 1, none⟩) (Kd.R_far (p := ⟨gb265, 0, none⟩) (Kd.R_mono HO277.out (fun k_ hk => (⟨hk, hk.1.2⟩ : _ ∧ k_ ≠ gb265))) (fun _ hk => hk.2) (.int .i64 t269)) (fun _ hk => hk.2) (.int .i64 t270)) (fun _ hk => hk.2) (.int .i64 t271)) (fun _ hk => hk.2) (.slice Ao16 t272.length co16)) (fun _ hk => hk.2) (.slice Ao17 t275.length co17)) (fun _ hk => hk.1.1.1), by repeat (first | (with_reducible first | exact HB.out | apply below_alloc | apply pw_below_drewN | apply below_drew1 | refine below_set ?_ (IsS31.ge HI266.out) | refine below_set ?_ GE265.out | refine below_set ?_ GE281.out) | exact HB.out)⟩
    · rw [if_neg c6] at H
      have c6b0 : (t283 == (a0.size : Int)) = false := beq_eq_false_iff_ne.mpr c6
      have c6b1 : (t283 != (a0.size : Int)) = true := bne_iff_ne.mpr c6
      simp only [Option.some.injEq, Prod.mk.injEq] at H
      obtain ⟨rfl, rfl, rfl, rfl, rfl, rfl⟩ := H
      go_enter Try.func4, Try.ntmps4
      go_wp2_with (first | ((with_reducible refine gate_dst (N := 2) rfl ?_); refine box_event ?hg (N := 2) ?hd (cs := #[.int .i64 0, .int .i64 0, .int .i64 0, .slice none 0 0, .slice none 0 0]) (t := 25) ?hr ?_; (case hd => rfl); (case hg => rfl); (case hr => first | (go_simp; done) | (go_simp; rfl)); intro gb265 hg w23 hbox hb; have n0_ := Aside0.mk (below_step (by repeat (first | (with_reducible first | exact HB.out | apply below_alloc | apply pw_below_drewN | apply below_drew1) | exact HB.out)) hb); have n1_ := Aside0.mk (hbox); have n2_ := Aside0.mk ((by rw [hg]; exact (below_size (by repeat (first | (with_reducible first | exact HB.out | apply below_alloc | apply pw_below_drewN | apply below_drew1) | exact HB.out))) : w.heap.size ≤ gb265)); have n3_ := Aside0.mk ((by rw [hg]; exact (below_size (by repeat (first | (with_reducible first | exact HB.out | apply below_alloc | apply pw_below_drewN | apply below_drew1) | exact HB.out))) : w.heap.size ≤ gb265)); clear HB; have HB := n0_; have BK265 := n1_; have GW265 := n2_; have GE265 := n3_; clear n0_ n1_ n2_ n3_; clear hb hbox hg) | ((with_reducible refine gate_dst (N := 4) rfl ?_); refine box_event ?hg (N := 4) ?hd (cs := #[.string (⟨#[]⟩ : ByteArray), .int .i64 0]) (t := 31) ?hr ?_; (case hd => rfl); (case hg => rfl); (case hr => first | (go_simp; done) | (go_simp; rfl)); intro gb266 hg w24 hbox hb; have n0_ := Aside0.mk (blk_below (g := gb265) (o := .cells #[.int .i64 0, .int .i64 0, .int .i64 0, .slice none 0 0, .slice none 0 0] 25 (0, 0)) (by (with_reducible repeat (first | refine blk_drewN ?_ _ | refine blk_drew ?_ | refine blk_alloc ?_ _)); exact BK265.out) hb); have n1_ := Aside0.mk (below_step (by repeat (first | (with_reducible first | exact HB.out | apply below_alloc | apply pw_below_drewN | apply below_drew1 | refine below_set ?_ GE265.out) | exact HB.out)) hb); have n2_ := Aside0.mk ((by rw [hg]; exact (below_size (by repeat (first | (with_reducible first | exact HB.out | apply below_alloc | apply pw_below_drewN | apply below_drew1 | refine below_set ?_ GE265.out) | exact HB.out))) : w.heap.size ≤ gb266)); have n3_ := Aside0.mk ((by rw [hg]; exact (below_size (by repeat (first | (with_reducible first | exact HB.out | apply below_alloc | apply pw_below_drewN | apply below_drew1 | refine below_set ?_ GE265.out) | exact HB.out))) : w.heap.size ≤ gb266)); have n4_ := Aside0.mk ((by rw [hg]; exact Nat.ne_of_lt (blk_lt (g := gb265) (o := .cells #[.int .i64 0, .int .i64 0, .int .i64 0, .slice none 0 0, .slice none 0 0] 25 (0, 0)) (by (with_reducible repeat (first | refine blk_drewN ?_ _ | refine blk_drew ?_ | refine blk_alloc ?_ _)); exact BK265.out)) : gb265 ≠ gb266)); have n5_ := Aside0.mk ((by rw [hg]; exact Nat.ne_of_gt (blk_lt (g := gb265) (o := .cells #[.int .i64 0, .int .i64 0, .int .i64 0, .slice none 0 0, .slice none 0 0] 25 (0, 0)) (by (with_reducible repeat (first | refine blk_drewN ?_ _ | refine blk_drew ?_ | refine blk_alloc ?_ _)); exact BK265.out)) : gb266 ≠ gb265)); have n6_ := Aside0.mk ((show IsS31 w w24 gb266 (⟨#[]⟩ : ByteArray) 0 from ⟨hbox, (by rw [hg]; exact (below_size (by repeat (first | (with_reducible first | exact HB.out | apply below_alloc | apply pw_below_drewN | apply below_drew1 | refine below_set ?_ GE265.out) | exact HB.out))) : w.heap.size ≤ gb266)⟩)); clear BK265; clear HB; have BK265 := n0_; have HB := n1_; have GW266 := n2_; have GE266 := n3_; have NB265_266 := n4_; have NB266_265 := n5_; have HI266 := n6_; clear n0_ n1_ n2_ n3_ n4_ n5_ n6_; clear hb hbox hg; obtain ⟨HGz25, hgz25⟩ := HI266.out; have hcz25_0 := cellS31_0 HGz25; have hcz25_1 := cellS31_1 HGz25; have hfz25_0 := blk_frozen HGz25 0; have hfz25_1 := blk_frozen HGz25 1; clear HGz25 hgz25) | ((with_reducible refine gate_callee (f := 6) rfl ?_); refine goesL_ (some 9) rfl rfl Try.func6 (by kernel_rfl) rfl #[.pointer (some ⟨gb266, 0, none⟩)] rfl (by (try simp only [List.map_toArray, List.map_cons, List.map_nil]); first | done | rfl | (simp only [List.length_drop, List.length_take]; rfl)) ?_; (with_reducible refine (spec_reader_blanks.calls k gb266 a0 0 t267 t268 w _ ?side1 ?side2 A2.out).mono ?_); (case side1 => repeat (first | (with_reducible first | exact HI266.out | apply IsS31.alloc | apply IsS31.drewN | apply IsS31.drew | apply IsS31.set_0 | apply IsS31.set_1 | refine IsS31.far ?_ NB266_265.out _) | exact HI266.out)); (case side2 => repeat (first | (with_reducible first | exact HB.out | apply below_alloc | apply pw_below_drewN | apply below_drew1 | refine below_set ?_ (IsS31.ge HI266.out) | refine below_set ?_ GE265.out) | exact HB.out)); rintro e w26 ⟨rfl, hi, hb, hk⟩; refine ⟨_, rfl, ?_⟩; have n0_ := Aside0.mk (KeepBut.blk hk (g' := gb265) (o := .cells #[.int .i64 0, .int .i64 0, .int .i64 0, .slice none 0 0, .slice none 0 0] 25 (0, 0)) (by (with_reducible repeat (first | refine blk_drewN ?_ _ | refine blk_drew ?_ | refine blk_alloc ?_ _)); refine blk_far ?_ NB265_266.out _; (with_reducible repeat (first | refine blk_drewN ?_ _ | refine blk_drew ?_ | refine blk_alloc ?_ _)); refine blk_far ?_ NB265_266.out _; (with_reducible repeat (first | refine blk_drewN ?_ _ | refine blk_drew ?_ | refine blk_alloc ?_ _)); exact BK265.out) NB265_266.out (by simp)); have n1_ := Aside0.mk (hb); have n2_ := Aside0.mk (hi); clear BK265; clear HB; clear HI266; have BK265 := n0_; have HB := n1_; have HI266 := n2_; clear n0_ n1_ n2_; (try clear hb); (try clear hb2); (try clear hk); (try clear hi)) | ((with_reducible refine gate_callee (f := 7) rfl ?_); refine goesL_ (some 11) rfl rfl Try.func7 (by kernel_rfl) rfl #[.pointer (some ⟨gb266, 0, none⟩)] rfl (by (try simp only [List.map_toArray, List.map_cons, List.map_nil]); first | done | rfl | (simp only [List.length_drop, List.length_take]; rfl)) ?_; (with_reducible refine (spec_reader_value.calls k gb266 t267 t268 t269 t270 t271 t272 t275 true t279 t280 w _ ?side1 ?side2 A3.out).mono ?_); (case side1 => repeat (first | (with_reducible first | exact HI266.out | apply IsS31.alloc | apply IsS31.drewN | apply IsS31.drew | apply IsS31.set_0 | apply IsS31.set_1 | refine IsS31.far ?_ NB266_265.out _) | exact HI266.out)); (case side2 => repeat (first | (with_reducible first | exact HB.out | apply below_alloc | apply pw_below_drewN | apply below_drew1 | refine below_set ?_ (IsS31.ge HI266.out) | refine below_set ?_ GE265.out) | exact HB.out)); rintro e w27 ⟨v273, v276, rfl, ho0, ho1, hi, hb, hk⟩; refine ⟨_, rfl, ?_⟩; have n0_ := Aside0.mk (KeepBut.blk hk (g' := gb265) (o := .cells #[.int .i64 0, .int .i64 0, .int .i64 0, .slice none 0 0, .slice none 0 0] 25 (0, 0)) (by (with_reducible repeat (first | refine blk_drewN ?_ _ | refine blk_drew ?_ | refine blk_alloc ?_ _)); exact BK265.out) NB265_266.out (by simp)); have n1_ := Aside0.mk (Kd.R_lower ho0 (below_size (by repeat (first | (with_reducible first | exact HB.out | apply below_alloc | apply pw_below_drewN | apply below_drew1 | refine below_set ?_ (IsS31.ge HI266.out) | refine below_set ?_ GE265.out) | exact HB.out)))); have n2_ := Aside0.mk (Kd.R_lower (Kd.R_newB ho1 (g := gb265) (o := .cells #[.int .i64 0, .int .i64 0, .int .i64 0, .slice none 0 0, .slice none 0 0] 25 (0, 0)) (by (with_reducible repeat (first | refine blk_drewN ?_ _ | refine blk_drew ?_ | refine blk_alloc ?_ _)); exact BK265.out)) (below_size (by repeat (first | (with_reducible first | exact HB.out | apply below_alloc | apply pw_below_drewN | apply below_drew1 | refine below_set ?_ (IsS31.ge HI266.out) | refine below_set ?_ GE265.out) | exact HB.out)))); have n3_ := Aside0.mk (hb); have n4_ := Aside0.mk (hi); clear BK265; clear HB; clear HI266; have BK265 := n0_; have HO274 := n1_; have HO277 := n2_; have HB := n3_; have HI266 := n4_; clear n0_ n1_ n2_ n3_ n4_; (try clear hb); (try clear hb2); (try clear hk); (try clear hi); (try clear ho0); (try clear ho1)) | ((with_reducible refine gate_dst (N := 5) rfl ?_); refine box_event ?hg (N := 5) ?hd (cs := #[.int .i64 0, .int .i64 0, .int .i64 0, .slice none 0 0, .slice none 0 0]) (t := 25) ?hr ?_; (case hd => rfl); (case hg => rfl); (case hr => first | (go_simp; done) | (go_simp; rfl)); intro gb281 hg w28 hbox hb; have n0_ := Aside0.mk (Kd.R_below (by (with_reducible repeat (first | apply Kd.R_alloc | apply Kd.R_drewN | apply Kd.R_drew)); exact HO274.out) hb); have n1_ := Aside0.mk (Kd.R_below (Kd.R_elderB (by (with_reducible repeat (first | apply Kd.R_alloc | apply Kd.R_drewN | apply Kd.R_drew)); exact HO277.out) gb281 (Nat.le_of_eq hg.symm)) hb); have n2_ := Aside0.mk (blk_below (g := gb265) (o := .cells #[.int .i64 0, .int .i64 0, .int .i64 0, .slice none 0 0, .slice none 0 0] 25 (0, 0)) (by (with_reducible repeat (first | refine blk_drewN ?_ _ | refine blk_drew ?_ | refine blk_alloc ?_ _)); exact BK265.out) hb); have n3_ := Aside0.mk (IsS31.below (by repeat (first | (with_reducible first | exact HI266.out | apply IsS31.alloc | apply IsS31.drewN | apply IsS31.drew | apply IsS31.set_0 | apply IsS31.set_1 | refine IsS31.far ?_ NB266_265.out _) | exact HI266.out)) hb); have n4_ := Aside0.mk (below_step (by repeat (first | (with_reducible first | exact HB.out | apply below_alloc | apply pw_below_drewN | apply below_drew1 | refine below_set ?_ (IsS31.ge HI266.out) | refine below_set ?_ GE265.out) | exact HB.out)) hb); have n5_ := Aside0.mk (hbox); have n6_ := Aside0.mk ((by rw [hg]; exact (below_size (by repeat (first | (with_reducible first | exact HB.out | apply below_alloc | apply pw_below_drewN | apply below_drew1 | refine below_set ?_ (IsS31.ge HI266.out) | refine below_set ?_ GE265.out) | exact HB.out))) : w.heap.size ≤ gb281)); have n7_ := Aside0.mk ((by rw [hg]; exact (below_size (by repeat (first | (with_reducible first | exact HB.out | apply below_alloc | apply pw_below_drewN | apply below_drew1 | refine below_set ?_ (IsS31.ge HI266.out) | refine below_set ?_ GE265.out) | exact HB.out))) : w.heap.size ≤ gb281)); have n8_ := Aside0.mk ((by rw [hg]; exact Nat.ne_of_lt (blk_lt (g := gb265) (o := .cells #[.int .i64 0, .int .i64 0, .int .i64 0, .slice none 0 0, .slice none 0 0] 25 (0, 0)) (by (with_reducible repeat (first | refine blk_drewN ?_ _ | refine blk_drew ?_ | refine blk_alloc ?_ _)); exact BK265.out)) : gb265 ≠ gb281)); have n9_ := Aside0.mk ((by rw [hg]; exact Nat.ne_of_gt (blk_lt (g := gb265) (o := .cells #[.int .i64 0, .int .i64 0, .int .i64 0, .slice none 0 0, .slice none 0 0] 25 (0, 0)) (by (with_reducible repeat (first | refine blk_drewN ?_ _ | refine blk_drew ?_ | refine blk_alloc ?_ _)); exact BK265.out)) : gb281 ≠ gb265)); have n10_ := Aside0.mk ((by rw [hg]; exact Nat.ne_of_lt (IsS31.lt (show IsS31 w _ gb266 t279 t280 from by repeat (first | (with_reducible first | exact HI266.out | apply IsS31.alloc | apply IsS31.drewN | apply IsS31.drew | apply IsS31.set_0 | apply IsS31.set_1 | refine IsS31.far ?_ NB266_265.out _) | exact HI266.out))) : gb266 ≠ gb281)); have n11_ := Aside0.mk ((by rw [hg]; exact Nat.ne_of_gt (IsS31.lt (show IsS31 w _ gb266 t279 t280 from by repeat (first | (with_reducible first | exact HI266.out | apply IsS31.alloc | apply IsS31.drewN | apply IsS31.drew | apply IsS31.set_0 | apply IsS31.set_1 | refine IsS31.far ?_ NB266_265.out _) | exact HI266.out))) : gb281 ≠ gb266)); clear HO274; clear HO277; clear BK265; clear HI266; clear HB; have HO274 := n0_; have HO277 := n1_; have BK265 := n2_; have HI266 := n3_; have HB := n4_; have BK281 := n5_; have GW281 := n6_; have GE281 := n7_; have NB265_281 := n8_; have NB281_265 := n9_; have NB266_281 := n10_; have NB281_266 := n11_; clear n0_ n1_ n2_ n3_ n4_ n5_ n6_ n7_ n8_ n9_ n10_ n11_; clear hb hbox hg; have hnb29 := NB281_265.out; have hnc29 := NB265_281.out; have hnb30 := NB281_266.out; have hnc30 := NB266_281.out; have hcz31_0 : w28.cell? ⟨gb281, 0, none⟩ = some (.int .i64 0) := (blk_cell BK281.out 0).trans rfl; have hcz31_1 : w28.cell? ⟨gb281, 1, none⟩ = some (.int .i64 0) := (blk_cell BK281.out 1).trans rfl; have hcz31_2 : w28.cell? ⟨gb281, 2, none⟩ = some (.int .i64 0) := (blk_cell BK281.out 2).trans rfl; have hcz31_3 : w28.cell? ⟨gb281, 3, none⟩ = some (.slice none 0 0) := (blk_cell BK281.out 3).trans rfl; have hcz31_4 : w28.cell? ⟨gb281, 4, none⟩ = some (.slice none 0 0) := (blk_cell BK281.out 4).trans rfl; have hfz31_0 := blk_frozen BK281.out 0; have hfz31_1 := blk_frozen BK281.out 1; have hfz31_2 := blk_frozen BK281.out 2; have hfz31_3 := blk_frozen BK281.out 3; have hfz31_4 := blk_frozen BK281.out 4; obtain ⟨Ao32, co32, eo32⟩ := Kd.R_slice HO274.out; subst eo32; obtain ⟨Ao33, co33, eo33⟩ := Kd.R_slice HO277.out; subst eo33) | ((with_reducible refine gate_callee (f := 6) rfl ?_); refine goesL_ (some 17) rfl rfl Try.func6 (by kernel_rfl) rfl #[.pointer (some ⟨gb266, 0, none⟩)] rfl (by (try simp only [List.map_toArray, List.map_cons, List.map_nil]); first | done | rfl | (simp only [List.length_drop, List.length_take]; rfl)) ?_; (with_reducible refine (spec_reader_blanks.calls k gb266 t279 t280 t282 t283 w _ ?side1 ?side2 A5.out).mono ?_); (case side1 => repeat (first | (with_reducible first | exact HI266.out | apply IsS31.alloc | apply IsS31.drewN | apply IsS31.drew | apply IsS31.set_0 | apply IsS31.set_1 | refine IsS31.far ?_ NB266_265.out _ | refine IsS31.far ?_ NB266_281.out _) | exact HI266.out)); (case side2 => repeat (first | (with_reducible first | exact HB.out | apply below_alloc | apply pw_below_drewN | apply below_drew1 | refine below_set ?_ (IsS31.ge HI266.out) | refine below_set ?_ GE265.out | refine below_set ?_ GE281.out) | exact HB.out)); rintro e w34 ⟨rfl, hi, hb, hk⟩; refine ⟨_, rfl, ?_⟩; have n0_ := Aside0.mk (KeepBut.blk hk (g' := gb265) (o := .cells #[.int .i64 0, .int .i64 0, .int .i64 0, .slice none 0 0, .slice none 0 0] 25 (0, 0)) (by (with_reducible repeat (first | refine blk_drewN ?_ _ | refine blk_drew ?_ | refine blk_alloc ?_ _)); refine blk_far ?_ NB265_281.out _; (with_reducible repeat (first | refine blk_drewN ?_ _ | refine blk_drew ?_ | refine blk_alloc ?_ _)); refine blk_far ?_ NB265_281.out _; (with_reducible repeat (first | refine blk_drewN ?_ _ | refine blk_drew ?_ | refine blk_alloc ?_ _)); refine blk_far ?_ NB265_281.out _; (with_reducible repeat (first | refine blk_drewN ?_ _ | refine blk_drew ?_ | refine blk_alloc ?_ _)); refine blk_far ?_ NB265_281.out _; (with_reducible repeat (first | refine blk_drewN ?_ _ | refine blk_drew ?_ | refine blk_alloc ?_ _)); refine blk_far ?_ NB265_281.out _; (with_reducible repeat (first | refine blk_drewN ?_ _ | refine blk_drew ?_ | refine blk_alloc ?_ _)); exact BK265.out) NB265_266.out (by simp)); have n1_ := Aside0.mk (Kd.R_mono (Kd.R_keep (IsS31.apart (show IsS31 w _ gb266 t279 t280 from by repeat (first | (with_reducible first | exact HI266.out | apply IsS31.alloc | apply IsS31.drewN | apply IsS31.drew | apply IsS31.set_0 | apply IsS31.set_1 | refine IsS31.far ?_ NB266_265.out _ | refine IsS31.far ?_ NB266_281.out _) | exact HI266.out)) (by (with_reducible repeat (first | apply Kd.R_alloc | apply Kd.R_drewN | apply Kd.R_drew)); exact (Kd.R_mono (Kd.R_far (p := ⟨gb281, 4, none⟩) (Kd.R_far (p := ⟨gb281, 3, none⟩) (Kd.R_far (p := ⟨gb281, 2, none⟩) (Kd.R_far (p := ⟨gb281, 1, none⟩) (Kd.R_far (p := ⟨gb281, 0, none⟩) (Kd.R_types HO274.out BK281.out (by decide)) (fun _ hk => hk.2) (.int .i64 t269)) (fun _ hk => hk.2) (.int .i64 t270)) (fun _ hk => hk.2) (.int .i64 t271)) (fun _ hk => hk.2) (.slice Ao32 t272.length co32)) (fun _ hk => hk.2) (.slice Ao33 t275.length co33)) (fun _ h_ => h_.1))) (by decide)) hk (fun _ h => h.2)) (fun _ h => h.1)); have n2_ := Aside0.mk (Kd.R_mono (Kd.R_keep (IsS31.apart (show IsS31 w _ gb266 t279 t280 from by repeat (first | (with_reducible first | exact HI266.out | apply IsS31.alloc | apply IsS31.drewN | apply IsS31.drew | apply IsS31.set_0 | apply IsS31.set_1 | refine IsS31.far ?_ NB266_265.out _ | refine IsS31.far ?_ NB266_281.out _) | exact HI266.out)) (by (with_reducible repeat (first | apply Kd.R_alloc | apply Kd.R_drewN | apply Kd.R_drew)); exact (Kd.R_mono (Kd.R_far (p := ⟨gb281, 4, none⟩) (Kd.R_far (p := ⟨gb281, 3, none⟩) (Kd.R_far (p := ⟨gb281, 2, none⟩) (Kd.R_far (p := ⟨gb281, 1, none⟩) (Kd.R_far (p := ⟨gb281, 0, none⟩) (Kd.R_mono HO277.out (fun k_ hk => (⟨hk, hk.2⟩ : _ ∧ k_ ≠ gb281))) (fun _ hk => hk.2) (.int .i64 t269)) (fun _ hk => hk.2) (.int .i64 t270)) (fun _ hk => hk.2) (.int .i64 t271)) (fun _ hk => hk.2) (.slice Ao32 t272.length co32)) (fun _ hk => hk.2) (.slice Ao33 t275.length co33)) (fun _ h_ => h_.1))) (by decide)) hk (fun _ h => h.2)) (fun _ h => h.1)); have n3_ := Aside0.mk (KeepBut.blk hk (g' := gb281) (o := .cells #[.int .i64 t269, .int .i64 t270, .int .i64 t271, .slice Ao32 t272.length co32, .slice Ao33 t275.length co33] 25 (0, 0)) (by (with_reducible repeat (first | refine blk_drewN ?_ _ | refine blk_drew ?_ | refine blk_alloc ?_ _)); refine blk_put (cs := #[.int .i64 t269, .int .i64 t270, .int .i64 t271, .slice Ao32 t272.length co32, .slice none 0 0]) ?_ 4 _ rfl; (with_reducible repeat (first | refine blk_drewN ?_ _ | refine blk_drew ?_ | refine blk_alloc ?_ _)); refine blk_put (cs := #[.int .i64 t269, .int .i64 t270, .int .i64 t271, .slice none 0 0, .slice none 0 0]) ?_ 3 _ rfl; (with_reducible repeat (first | refine blk_drewN ?_ _ | refine blk_drew ?_ | refine blk_alloc ?_ _)); refine blk_put (cs := #[.int .i64 t269, .int .i64 t270, .int .i64 0, .slice none 0 0, .slice none 0 0]) ?_ 2 _ rfl; (with_reducible repeat (first | refine blk_drewN ?_ _ | refine blk_drew ?_ | refine blk_alloc ?_ _)); refine blk_put (cs := #[.int .i64 t269, .int .i64 0, .int .i64 0, .slice none 0 0, .slice none 0 0]) ?_ 1 _ rfl; (with_reducible repeat (first | refine blk_drewN ?_ _ | refine blk_drew ?_ | refine blk_alloc ?_ _)); refine blk_put (cs := #[.int .i64 0, .int .i64 0, .int .i64 0, .slice none 0 0, .slice none 0 0]) ?_ 0 _ rfl; (with_reducible repeat (first | refine blk_drewN ?_ _ | refine blk_drew ?_ | refine blk_alloc ?_ _)); exact BK281.out) NB281_266.out (by simp)); have n4_ := Aside0.mk (hb); have n5_ := Aside0.mk (hi); clear BK265; clear HO274; clear HO277; clear BK281; clear HB; clear HI266; have BK265 := n0_; have HO274 := n1_; have HO277 := n2_; have BK281 := n3_; have HB := n4_; have HI266 := n5_; clear n0_ n1_ n2_ n3_ n4_ n5_; (try clear hb); (try clear hb2); (try clear hk); (try clear hi); obtain ⟨HGz35, hgz35⟩ := HI266.out; have hcz35_0 := cellS31_0 HGz35; have hcz35_1 := cellS31_1 HGz35; have hfz35_0 := blk_frozen HGz35 0; have hfz35_1 := blk_frozen HGz35 1; clear HGz35 hgz35; have hnb36 := NB265_266.out; have hnc36 := NB266_265.out; have hcz37_0 : w34.cell? ⟨gb265, 0, none⟩ = some (.int .i64 0) := (blk_cell BK265.out 0).trans rfl; have hcz37_1 : w34.cell? ⟨gb265, 1, none⟩ = some (.int .i64 0) := (blk_cell BK265.out 1).trans rfl; have hcz37_2 : w34.cell? ⟨gb265, 2, none⟩ = some (.int .i64 0) := (blk_cell BK265.out 2).trans rfl; have hcz37_3 : w34.cell? ⟨gb265, 3, none⟩ = some (.slice none 0 0) := (blk_cell BK265.out 3).trans rfl; have hcz37_4 : w34.cell? ⟨gb265, 4, none⟩ = some (.slice none 0 0) := (blk_cell BK265.out 4).trans rfl; have hfz37_0 := blk_frozen BK265.out 0; have hfz37_1 := blk_frozen BK265.out 1; have hfz37_2 := blk_frozen BK265.out 2; have hfz37_3 := blk_frozen BK265.out 3; have hfz37_4 := blk_frozen BK265.out 4))
      refine bodyPost_ret (results_ct rfl _ _ gb265 25 #[.int .i64 0, .int .i64 0, .int .i64 0, .slice none 0 0, .slice none 0 0] (0, 0) _ rfl (by (with_reducible repeat (first | refine blk_drewN ?_ _ | refine blk_drew ?_ | refine blk_alloc ?_ _)); refine blk_put (cs := #[.int .i64 0, .int .i64 0, .int .i64 0, .slice none 0 0, .slice none 0 0]) ?_ 4 _ rfl; (with_reducible repeat (first | refine blk_drewN ?_ _ | refine blk_drew ?_ | refine blk_alloc ?_ _)); refine blk_put (cs := #[.int .i64 0, .int .i64 0, .int .i64 0, .slice none 0 0, .slice none 0 0]) ?_ 3 _ rfl; (with_reducible repeat (first | refine blk_drewN ?_ _ | refine blk_drew ?_ | refine blk_alloc ?_ _)); refine blk_put (cs := #[.int .i64 0, .int .i64 0, .int .i64 0, .slice none 0 0, .slice none 0 0]) ?_ 2 _ rfl; (with_reducible repeat (first | refine blk_drewN ?_ _ | refine blk_drew ?_ | refine blk_alloc ?_ _)); refine blk_put (cs := #[.int .i64 0, .int .i64 0, .int .i64 0, .slice none 0 0, .slice none 0 0]) ?_ 1 _ rfl; (with_reducible repeat (first | refine blk_drewN ?_ _ | refine blk_drew ?_ | refine blk_alloc ?_ _)); refine blk_put (cs := #[.int .i64 0, .int .i64 0, .int .i64 0, .slice none 0 0, .slice none 0 0]) ?_ 0 _ rfl; (with_reducible repeat (first | refine blk_drewN ?_ _ | refine blk_drew ?_ | refine blk_alloc ?_ _)); exact BK265.out) Try.underlying25 rfl (by kernel_rfl)) rfl ?_
      exact ⟨_, _, by first | rfl | (simp [errW_none, errW_some] <;> rfl) | (simp [*, errW_none, errW_some] <;> rfl), by first | exact Kd.R_nil _ _ _ _ _ | exact Kd.N_nil _ _ _ _ _ | exact Kd.V_nil _ _ _ _ _ | exact Kd.Q_nil _ _ _ _ _ | exact Kd.S_nil _ _ _ _ _, by first | exact Kd.R_nil _ _ _ _ _ | exact Kd.N_nil _ _ _ _ _ | exact Kd.V_nil _ _ _ _ _ | exact Kd.Q_nil _ _ _ _ _ | exact Kd.S_nil _ _ _ _ _, by repeat (first | (with_reducible first | exact HB.out | apply below_alloc | apply pw_below_drewN | apply below_drew1 | refine below_set ?_ (IsS31.ge HI266.out) | refine below_set ?_ GE265.out | refine below_set ?_ GE281.out) | exact HB.out)⟩
  · replace c4 := Bool.eq_false_iff.mpr c4
    subst c4
    have H1 : (some (0, 0, 0, ([] : List (S43)), ([] : List (S25)), false)) = some (r1, r2, r3, r4, r5, r6) := by rw [if_neg (show ¬ (false = true) by decide)] at H; exact H
    clear H
    have H := H1
    clear H1
    simp only [Option.some.injEq, Prod.mk.injEq] at H
    obtain ⟨rfl, rfl, rfl, rfl, rfl, rfl⟩ := H
    go_enter Try.func4, Try.ntmps4
    go_wp2_with (first | ((with_reducible refine gate_dst (N := 2) rfl ?_); refine box_event ?hg (N := 2) ?hd (cs := #[.int .i64 0, .int .i64 0, .int .i64 0, .slice none 0 0, .slice none 0 0]) (t := 25) ?hr ?_; (case hd => rfl); (case hg => rfl); (case hr => first | (go_simp; done) | (go_simp; rfl)); intro gb265 hg w38 hbox hb; have n0_ := Aside0.mk (below_step (by repeat (first | (with_reducible first | exact HB.out | apply below_alloc | apply pw_below_drewN | apply below_drew1) | exact HB.out)) hb); have n1_ := Aside0.mk (hbox); have n2_ := Aside0.mk ((by rw [hg]; exact (below_size (by repeat (first | (with_reducible first | exact HB.out | apply below_alloc | apply pw_below_drewN | apply below_drew1) | exact HB.out))) : w.heap.size ≤ gb265)); have n3_ := Aside0.mk ((by rw [hg]; exact (below_size (by repeat (first | (with_reducible first | exact HB.out | apply below_alloc | apply pw_below_drewN | apply below_drew1) | exact HB.out))) : w.heap.size ≤ gb265)); clear HB; have HB := n0_; have BK265 := n1_; have GW265 := n2_; have GE265 := n3_; clear n0_ n1_ n2_ n3_; clear hb hbox hg) | ((with_reducible refine gate_dst (N := 4) rfl ?_); refine box_event ?hg (N := 4) ?hd (cs := #[.string (⟨#[]⟩ : ByteArray), .int .i64 0]) (t := 31) ?hr ?_; (case hd => rfl); (case hg => rfl); (case hr => first | (go_simp; done) | (go_simp; rfl)); intro gb266 hg w39 hbox hb; have n0_ := Aside0.mk (blk_below (g := gb265) (o := .cells #[.int .i64 0, .int .i64 0, .int .i64 0, .slice none 0 0, .slice none 0 0] 25 (0, 0)) (by (with_reducible repeat (first | refine blk_drewN ?_ _ | refine blk_drew ?_ | refine blk_alloc ?_ _)); exact BK265.out) hb); have n1_ := Aside0.mk (below_step (by repeat (first | (with_reducible first | exact HB.out | apply below_alloc | apply pw_below_drewN | apply below_drew1 | refine below_set ?_ GE265.out) | exact HB.out)) hb); have n2_ := Aside0.mk ((by rw [hg]; exact (below_size (by repeat (first | (with_reducible first | exact HB.out | apply below_alloc | apply pw_below_drewN | apply below_drew1 | refine below_set ?_ GE265.out) | exact HB.out))) : w.heap.size ≤ gb266)); have n3_ := Aside0.mk ((by rw [hg]; exact (below_size (by repeat (first | (with_reducible first | exact HB.out | apply below_alloc | apply pw_below_drewN | apply below_drew1 | refine below_set ?_ GE265.out) | exact HB.out))) : w.heap.size ≤ gb266)); have n4_ := Aside0.mk ((by rw [hg]; exact Nat.ne_of_lt (blk_lt (g := gb265) (o := .cells #[.int .i64 0, .int .i64 0, .int .i64 0, .slice none 0 0, .slice none 0 0] 25 (0, 0)) (by (with_reducible repeat (first | refine blk_drewN ?_ _ | refine blk_drew ?_ | refine blk_alloc ?_ _)); exact BK265.out)) : gb265 ≠ gb266)); have n5_ := Aside0.mk ((by rw [hg]; exact Nat.ne_of_gt (blk_lt (g := gb265) (o := .cells #[.int .i64 0, .int .i64 0, .int .i64 0, .slice none 0 0, .slice none 0 0] 25 (0, 0)) (by (with_reducible repeat (first | refine blk_drewN ?_ _ | refine blk_drew ?_ | refine blk_alloc ?_ _)); exact BK265.out)) : gb266 ≠ gb265)); have n6_ := Aside0.mk ((show IsS31 w w39 gb266 (⟨#[]⟩ : ByteArray) 0 from ⟨hbox, (by rw [hg]; exact (below_size (by repeat (first | (with_reducible first | exact HB.out | apply below_alloc | apply pw_below_drewN | apply below_drew1 | refine below_set ?_ GE265.out) | exact HB.out))) : w.heap.size ≤ gb266)⟩)); clear BK265; clear HB; have BK265 := n0_; have HB := n1_; have GW266 := n2_; have GE266 := n3_; have NB265_266 := n4_; have NB266_265 := n5_; have HI266 := n6_; clear n0_ n1_ n2_ n3_ n4_ n5_ n6_; clear hb hbox hg; obtain ⟨HGz40, hgz40⟩ := HI266.out; have hcz40_0 := cellS31_0 HGz40; have hcz40_1 := cellS31_1 HGz40; have hfz40_0 := blk_frozen HGz40 0; have hfz40_1 := blk_frozen HGz40 1; clear HGz40 hgz40) | ((with_reducible refine gate_callee (f := 6) rfl ?_); refine goesL_ (some 9) rfl rfl Try.func6 (by kernel_rfl) rfl #[.pointer (some ⟨gb266, 0, none⟩)] rfl (by (try simp only [List.map_toArray, List.map_cons, List.map_nil]); first | done | rfl | (simp only [List.length_drop, List.length_take]; rfl)) ?_; (with_reducible refine (spec_reader_blanks.calls k gb266 a0 0 t267 t268 w _ ?side1 ?side2 A2.out).mono ?_); (case side1 => repeat (first | (with_reducible first | exact HI266.out | apply IsS31.alloc | apply IsS31.drewN | apply IsS31.drew | apply IsS31.set_0 | apply IsS31.set_1 | refine IsS31.far ?_ NB266_265.out _) | exact HI266.out)); (case side2 => repeat (first | (with_reducible first | exact HB.out | apply below_alloc | apply pw_below_drewN | apply below_drew1 | refine below_set ?_ (IsS31.ge HI266.out) | refine below_set ?_ GE265.out) | exact HB.out)); rintro e w41 ⟨rfl, hi, hb, hk⟩; refine ⟨_, rfl, ?_⟩; have n0_ := Aside0.mk (KeepBut.blk hk (g' := gb265) (o := .cells #[.int .i64 0, .int .i64 0, .int .i64 0, .slice none 0 0, .slice none 0 0] 25 (0, 0)) (by (with_reducible repeat (first | refine blk_drewN ?_ _ | refine blk_drew ?_ | refine blk_alloc ?_ _)); refine blk_far ?_ NB265_266.out _; (with_reducible repeat (first | refine blk_drewN ?_ _ | refine blk_drew ?_ | refine blk_alloc ?_ _)); refine blk_far ?_ NB265_266.out _; (with_reducible repeat (first | refine blk_drewN ?_ _ | refine blk_drew ?_ | refine blk_alloc ?_ _)); exact BK265.out) NB265_266.out (by simp)); have n1_ := Aside0.mk (hb); have n2_ := Aside0.mk (hi); clear BK265; clear HB; clear HI266; have BK265 := n0_; have HB := n1_; have HI266 := n2_; clear n0_ n1_ n2_; (try clear hb); (try clear hb2); (try clear hk); (try clear hi)) | ((with_reducible refine gate_callee (f := 7) rfl ?_); refine goesL_ (some 11) rfl rfl Try.func7 (by kernel_rfl) rfl #[.pointer (some ⟨gb266, 0, none⟩)] rfl (by (try simp only [List.map_toArray, List.map_cons, List.map_nil]); first | done | rfl | (simp only [List.length_drop, List.length_take]; rfl)) ?_; (with_reducible refine (spec_reader_value.calls k gb266 t267 t268 t269 t270 t271 t272 t275 false t279 t280 w _ ?side1 ?side2 A3.out).mono ?_); (case side1 => repeat (first | (with_reducible first | exact HI266.out | apply IsS31.alloc | apply IsS31.drewN | apply IsS31.drew | apply IsS31.set_0 | apply IsS31.set_1 | refine IsS31.far ?_ NB266_265.out _) | exact HI266.out)); (case side2 => repeat (first | (with_reducible first | exact HB.out | apply below_alloc | apply pw_below_drewN | apply below_drew1 | refine below_set ?_ (IsS31.ge HI266.out) | refine below_set ?_ GE265.out) | exact HB.out)); rintro e w42 ⟨v273, v276, rfl, ho0, ho1, hi, hb, hk⟩; refine ⟨_, rfl, ?_⟩; have n0_ := Aside0.mk (KeepBut.blk hk (g' := gb265) (o := .cells #[.int .i64 0, .int .i64 0, .int .i64 0, .slice none 0 0, .slice none 0 0] 25 (0, 0)) (by (with_reducible repeat (first | refine blk_drewN ?_ _ | refine blk_drew ?_ | refine blk_alloc ?_ _)); exact BK265.out) NB265_266.out (by simp)); have n1_ := Aside0.mk (Kd.R_lower ho0 (below_size (by repeat (first | (with_reducible first | exact HB.out | apply below_alloc | apply pw_below_drewN | apply below_drew1 | refine below_set ?_ (IsS31.ge HI266.out) | refine below_set ?_ GE265.out) | exact HB.out)))); have n2_ := Aside0.mk (Kd.R_lower (Kd.R_newB ho1 (g := gb265) (o := .cells #[.int .i64 0, .int .i64 0, .int .i64 0, .slice none 0 0, .slice none 0 0] 25 (0, 0)) (by (with_reducible repeat (first | refine blk_drewN ?_ _ | refine blk_drew ?_ | refine blk_alloc ?_ _)); exact BK265.out)) (below_size (by repeat (first | (with_reducible first | exact HB.out | apply below_alloc | apply pw_below_drewN | apply below_drew1 | refine below_set ?_ (IsS31.ge HI266.out) | refine below_set ?_ GE265.out) | exact HB.out)))); have n3_ := Aside0.mk (hb); have n4_ := Aside0.mk (hi); clear BK265; clear HB; clear HI266; have BK265 := n0_; have HO274 := n1_; have HO277 := n2_; have HB := n3_; have HI266 := n4_; clear n0_ n1_ n2_ n3_ n4_; (try clear hb); (try clear hb2); (try clear hk); (try clear hi); (try clear ho0); (try clear ho1)) | ((with_reducible refine gate_dst (N := 5) rfl ?_); refine box_event ?hg (N := 5) ?hd (cs := #[.int .i64 0, .int .i64 0, .int .i64 0, .slice none 0 0, .slice none 0 0]) (t := 25) ?hr ?_; (case hd => rfl); (case hg => rfl); (case hr => first | (go_simp; done) | (go_simp; rfl)); intro gb281 hg w43 hbox hb; have n0_ := Aside0.mk (Kd.R_below (by (with_reducible repeat (first | apply Kd.R_alloc | apply Kd.R_drewN | apply Kd.R_drew)); exact HO274.out) hb); have n1_ := Aside0.mk (Kd.R_below (Kd.R_elderB (by (with_reducible repeat (first | apply Kd.R_alloc | apply Kd.R_drewN | apply Kd.R_drew)); exact HO277.out) gb281 (Nat.le_of_eq hg.symm)) hb); have n2_ := Aside0.mk (blk_below (g := gb265) (o := .cells #[.int .i64 0, .int .i64 0, .int .i64 0, .slice none 0 0, .slice none 0 0] 25 (0, 0)) (by (with_reducible repeat (first | refine blk_drewN ?_ _ | refine blk_drew ?_ | refine blk_alloc ?_ _)); exact BK265.out) hb); have n3_ := Aside0.mk (IsS31.below (by repeat (first | (with_reducible first | exact HI266.out | apply IsS31.alloc | apply IsS31.drewN | apply IsS31.drew | apply IsS31.set_0 | apply IsS31.set_1 | refine IsS31.far ?_ NB266_265.out _) | exact HI266.out)) hb); have n4_ := Aside0.mk (below_step (by repeat (first | (with_reducible first | exact HB.out | apply below_alloc | apply pw_below_drewN | apply below_drew1 | refine below_set ?_ (IsS31.ge HI266.out) | refine below_set ?_ GE265.out) | exact HB.out)) hb); have n5_ := Aside0.mk (hbox); have n6_ := Aside0.mk ((by rw [hg]; exact (below_size (by repeat (first | (with_reducible first | exact HB.out | apply below_alloc | apply pw_below_drewN | apply below_drew1 | refine below_set ?_ (IsS31.ge HI266.out) | refine below_set ?_ GE265.out) | exact HB.out))) : w.heap.size ≤ gb281)); have n7_ := Aside0.mk ((by rw [hg]; exact (below_size (by repeat (first | (with_reducible first | exact HB.out | apply below_alloc | apply pw_below_drewN | apply below_drew1 | refine below_set ?_ (IsS31.ge HI266.out) | refine below_set ?_ GE265.out) | exact HB.out))) : w.heap.size ≤ gb281)); have n8_ := Aside0.mk ((by rw [hg]; exact Nat.ne_of_lt (blk_lt (g := gb265) (o := .cells #[.int .i64 0, .int .i64 0, .int .i64 0, .slice none 0 0, .slice none 0 0] 25 (0, 0)) (by (with_reducible repeat (first | refine blk_drewN ?_ _ | refine blk_drew ?_ | refine blk_alloc ?_ _)); exact BK265.out)) : gb265 ≠ gb281)); have n9_ := Aside0.mk ((by rw [hg]; exact Nat.ne_of_gt (blk_lt (g := gb265) (o := .cells #[.int .i64 0, .int .i64 0, .int .i64 0, .slice none 0 0, .slice none 0 0] 25 (0, 0)) (by (with_reducible repeat (first | refine blk_drewN ?_ _ | refine blk_drew ?_ | refine blk_alloc ?_ _)); exact BK265.out)) : gb281 ≠ gb265)); have n10_ := Aside0.mk ((by rw [hg]; exact Nat.ne_of_lt (IsS31.lt (show IsS31 w _ gb266 t279 t280 from by repeat (first | (with_reducible first | exact HI266.out | apply IsS31.alloc | apply IsS31.drewN | apply IsS31.drew | apply IsS31.set_0 | apply IsS31.set_1 | refine IsS31.far ?_ NB266_265.out _) | exact HI266.out))) : gb266 ≠ gb281)); have n11_ := Aside0.mk ((by rw [hg]; exact Nat.ne_of_gt (IsS31.lt (show IsS31 w _ gb266 t279 t280 from by repeat (first | (with_reducible first | exact HI266.out | apply IsS31.alloc | apply IsS31.drewN | apply IsS31.drew | apply IsS31.set_0 | apply IsS31.set_1 | refine IsS31.far ?_ NB266_265.out _) | exact HI266.out))) : gb281 ≠ gb266)); clear HO274; clear HO277; clear BK265; clear HI266; clear HB; have HO274 := n0_; have HO277 := n1_; have BK265 := n2_; have HI266 := n3_; have HB := n4_; have BK281 := n5_; have GW281 := n6_; have GE281 := n7_; have NB265_281 := n8_; have NB281_265 := n9_; have NB266_281 := n10_; have NB281_266 := n11_; clear n0_ n1_ n2_ n3_ n4_ n5_ n6_ n7_ n8_ n9_ n10_ n11_; clear hb hbox hg; have hnb44 := NB281_265.out; have hnc44 := NB265_281.out; have hnb45 := NB281_266.out; have hnc45 := NB266_281.out; have hcz46_0 : w43.cell? ⟨gb281, 0, none⟩ = some (.int .i64 0) := (blk_cell BK281.out 0).trans rfl; have hcz46_1 : w43.cell? ⟨gb281, 1, none⟩ = some (.int .i64 0) := (blk_cell BK281.out 1).trans rfl; have hcz46_2 : w43.cell? ⟨gb281, 2, none⟩ = some (.int .i64 0) := (blk_cell BK281.out 2).trans rfl; have hcz46_3 : w43.cell? ⟨gb281, 3, none⟩ = some (.slice none 0 0) := (blk_cell BK281.out 3).trans rfl; have hcz46_4 : w43.cell? ⟨gb281, 4, none⟩ = some (.slice none 0 0) := (blk_cell BK281.out 4).trans rfl; have hfz46_0 := blk_frozen BK281.out 0; have hfz46_1 := blk_frozen BK281.out 1; have hfz46_2 := blk_frozen BK281.out 2; have hfz46_3 := blk_frozen BK281.out 3; have hfz46_4 := blk_frozen BK281.out 4; obtain ⟨Ao47, co47, eo47⟩ := Kd.R_slice HO274.out; subst eo47; obtain ⟨Ao48, co48, eo48⟩ := Kd.R_slice HO277.out; subst eo48; have hnb49 := NB265_266.out; have hnc49 := NB266_265.out; have hcz50_0 : w43.cell? ⟨gb265, 0, none⟩ = some (.int .i64 0) := (blk_cell BK265.out 0).trans rfl; have hcz50_1 : w43.cell? ⟨gb265, 1, none⟩ = some (.int .i64 0) := (blk_cell BK265.out 1).trans rfl; have hcz50_2 : w43.cell? ⟨gb265, 2, none⟩ = some (.int .i64 0) := (blk_cell BK265.out 2).trans rfl; have hcz50_3 : w43.cell? ⟨gb265, 3, none⟩ = some (.slice none 0 0) := (blk_cell BK265.out 3).trans rfl; have hcz50_4 : w43.cell? ⟨gb265, 4, none⟩ = some (.slice none 0 0) := (blk_cell BK265.out 4).trans rfl; have hfz50_0 := blk_frozen BK265.out 0; have hfz50_1 := blk_frozen BK265.out 1; have hfz50_2 := blk_frozen BK265.out 2; have hfz50_3 := blk_frozen BK265.out 3; have hfz50_4 := blk_frozen BK265.out 4))
    refine bodyPost_ret (results_ct rfl _ _ gb265 25 #[.int .i64 0, .int .i64 0, .int .i64 0, .slice none 0 0, .slice none 0 0] (0, 0) _ rfl (by (with_reducible repeat (first | refine blk_drewN ?_ _ | refine blk_drew ?_ | refine blk_alloc ?_ _)); refine blk_put (cs := #[.int .i64 0, .int .i64 0, .int .i64 0, .slice none 0 0, .slice none 0 0]) ?_ 4 _ rfl; (with_reducible repeat (first | refine blk_drewN ?_ _ | refine blk_drew ?_ | refine blk_alloc ?_ _)); refine blk_put (cs := #[.int .i64 0, .int .i64 0, .int .i64 0, .slice none 0 0, .slice none 0 0]) ?_ 3 _ rfl; (with_reducible repeat (first | refine blk_drewN ?_ _ | refine blk_drew ?_ | refine blk_alloc ?_ _)); refine blk_put (cs := #[.int .i64 0, .int .i64 0, .int .i64 0, .slice none 0 0, .slice none 0 0]) ?_ 2 _ rfl; (with_reducible repeat (first | refine blk_drewN ?_ _ | refine blk_drew ?_ | refine blk_alloc ?_ _)); refine blk_put (cs := #[.int .i64 0, .int .i64 0, .int .i64 0, .slice none 0 0, .slice none 0 0]) ?_ 1 _ rfl; (with_reducible repeat (first | refine blk_drewN ?_ _ | refine blk_drew ?_ | refine blk_alloc ?_ _)); refine blk_put (cs := #[.int .i64 0, .int .i64 0, .int .i64 0, .slice none 0 0, .slice none 0 0]) ?_ 0 _ rfl; (with_reducible repeat (first | refine blk_drewN ?_ _ | refine blk_drew ?_ | refine blk_alloc ?_ _)); refine blk_far ?_ NB265_281.out _; (with_reducible repeat (first | refine blk_drewN ?_ _ | refine blk_drew ?_ | refine blk_alloc ?_ _)); refine blk_far ?_ NB265_281.out _; (with_reducible repeat (first | refine blk_drewN ?_ _ | refine blk_drew ?_ | refine blk_alloc ?_ _)); refine blk_far ?_ NB265_281.out _; (with_reducible repeat (first | refine blk_drewN ?_ _ | refine blk_drew ?_ | refine blk_alloc ?_ _)); refine blk_far ?_ NB265_281.out _; (with_reducible repeat (first | refine blk_drewN ?_ _ | refine blk_drew ?_ | refine blk_alloc ?_ _)); refine blk_far ?_ NB265_281.out _; (with_reducible repeat (first | refine blk_drewN ?_ _ | refine blk_drew ?_ | refine blk_alloc ?_ _)); exact BK265.out) Try.underlying25 rfl (by kernel_rfl)) rfl ?_
    exact ⟨_, _, by first | rfl | (simp [errW_none, errW_some] <;> rfl) | (simp [*, errW_none, errW_some] <;> rfl), by first | exact Kd.R_nil _ _ _ _ _ | exact Kd.N_nil _ _ _ _ _ | exact Kd.V_nil _ _ _ _ _ | exact Kd.Q_nil _ _ _ _ _ | exact Kd.S_nil _ _ _ _ _, by first | exact Kd.R_nil _ _ _ _ _ | exact Kd.N_nil _ _ _ _ _ | exact Kd.V_nil _ _ _ _ _ | exact Kd.Q_nil _ _ _ _ _ | exact Kd.S_nil _ _ _ _ _, by repeat (first | (with_reducible first | exact HB.out | apply below_alloc | apply pw_below_drewN | apply below_drew1 | refine below_set ?_ (IsS31.ge HI266.out) | refine below_set ?_ GE265.out | refine below_set ?_ GE281.out) | exact HB.out)⟩

/-! ### gjson_ishex: function 34 -/
def gjson_ishex.f (a0 : Int) : Option (Bool) := if a0 ≥ 48 then (if a0 ≤ 57 then (some true) else (if a0 ≥ 97 then (if a0 ≤ 102 then (some true) else (if a0 ≥ 65 then (some (decide (a0 ≤ 70))) else (some false))) else (if a0 ≥ 65 then (some (decide (a0 ≤ 70))) else (some false)))) else (if a0 ≥ 97 then (if a0 ≤ 102 then (some true) else (if a0 ≥ 65 then (some (decide (a0 ≤ 70))) else (some false))) else (if a0 ≥ 65 then (some (decide (a0 ≤ 70))) else (some false)))
set_option maxHeartbeats 8000000 in
set_option maxRecDepth 100000 in
theorem gjson_ishex.calls (a0 : Int) (r : Bool) (w : World) (h : gjson_ishex.f a0 = some r) :
    Calls Try.prog 34 #[.int .u8 a0] w fun e w' => e = .returned (.bool r) ∧ Drawn0 w w' := by
  have H : (if a0 ≥ 48 then (if a0 ≤ 57 then (some true) else (if a0 ≥ 97 then (if a0 ≤ 102 then (some true) else (if a0 ≥ 65 then (some (decide (a0 ≤ 70))) else (some false))) else (if a0 ≥ 65 then (some (decide (a0 ≤ 70))) else (some false)))) else (if a0 ≥ 97 then (if a0 ≤ 102 then (some true) else (if a0 ≥ 65 then (some (decide (a0 ≤ 70))) else (some false))) else (if a0 ≥ 65 then (some (decide (a0 ≤ 70))) else (some false)))) = some r := h
  clear h
  by_cases c2 : a0 ≥ 48
  · rw [if_pos c2] at H
    have c2b0 : decide (48 ≤ a0) = true := decide_eq_true c2
    clear c2
    by_cases c3 : a0 ≤ 57
    · rw [if_pos c3] at H
      have c3b0 : decide (a0 ≤ 57) = true := decide_eq_true c3
      clear c3
      obtain rfl := Option.some.inj H
      go_enter Try.func34, Try.ntmps34
      go_wp2
      go_ret
      exact ⟨by first | rfl | (simp; done) | (simp [*]; done), by repeat (first | exact Drawn0.refl _ | apply Drawn0.step)⟩
    · rw [if_neg c3] at H
      have c3b0 : decide (a0 ≤ 57) = false := decide_eq_false c3
      clear c3
      by_cases c4 : a0 ≥ 97
      · rw [if_pos c4] at H
        have c4b0 : decide (97 ≤ a0) = true := decide_eq_true c4
        clear c4
        by_cases c5 : a0 ≤ 102
        · rw [if_pos c5] at H
          have c5b0 : decide (a0 ≤ 102) = true := decide_eq_true c5
          clear c5
          obtain rfl := Option.some.inj H
          go_enter Try.func34, Try.ntmps34
          go_wp2
          go_ret
          exact ⟨by first | rfl | (simp; done) | (simp [*]; done), by repeat (first | exact Drawn0.refl _ | apply Drawn0.step)⟩
        · rw [if_neg c5] at H
          have c5b0 : decide (a0 ≤ 102) = false := decide_eq_false c5
          clear c5
          by_cases c6 : a0 ≥ 65
          · rw [if_pos c6] at H
            have c6b0 : decide (65 ≤ a0) = true := decide_eq_true c6
            clear c6
            obtain rfl := Option.some.inj H
            go_enter Try.func34, Try.ntmps34
            go_wp2
            go_ret
            exact ⟨by first | rfl | (simp; done) | (simp [*]; done), by repeat (first | exact Drawn0.refl _ | apply Drawn0.step)⟩
          · rw [if_neg c6] at H
            have c6b0 : decide (65 ≤ a0) = false := decide_eq_false c6
            clear c6
            obtain rfl := Option.some.inj H
            go_enter Try.func34, Try.ntmps34
            go_wp2
            go_ret
            exact ⟨by first | rfl | (simp; done) | (simp [*]; done), by repeat (first | exact Drawn0.refl _ | apply Drawn0.step)⟩
      · rw [if_neg c4] at H
        have c4b0 : decide (97 ≤ a0) = false := decide_eq_false c4
        clear c4
        by_cases c7 : a0 ≥ 65
        · rw [if_pos c7] at H
          have c7b0 : decide (65 ≤ a0) = true := decide_eq_true c7
          clear c7
          obtain rfl := Option.some.inj H
          go_enter Try.func34, Try.ntmps34
          go_wp2
          go_ret
          exact ⟨by first | rfl | (simp; done) | (simp [*]; done), by repeat (first | exact Drawn0.refl _ | apply Drawn0.step)⟩
        · rw [if_neg c7] at H
          have c7b0 : decide (65 ≤ a0) = false := decide_eq_false c7
          clear c7
          obtain rfl := Option.some.inj H
          go_enter Try.func34, Try.ntmps34
          go_wp2
          go_ret
          exact ⟨by first | rfl | (simp; done) | (simp [*]; done), by repeat (first | exact Drawn0.refl _ | apply Drawn0.step)⟩
  · rw [if_neg c2] at H
    have c2b0 : decide (48 ≤ a0) = false := decide_eq_false c2
    clear c2
    by_cases c8 : a0 ≥ 97
    · rw [if_pos c8] at H
      have c8b0 : decide (97 ≤ a0) = true := decide_eq_true c8
      clear c8
      by_cases c9 : a0 ≤ 102
      · rw [if_pos c9] at H
        have c9b0 : decide (a0 ≤ 102) = true := decide_eq_true c9
        clear c9
        obtain rfl := Option.some.inj H
        go_enter Try.func34, Try.ntmps34
        go_wp2
        go_ret
        exact ⟨by first | rfl | (simp; done) | (simp [*]; done), by repeat (first | exact Drawn0.refl _ | apply Drawn0.step)⟩
      · rw [if_neg c9] at H
        have c9b0 : decide (a0 ≤ 102) = false := decide_eq_false c9
        clear c9
        by_cases c10 : a0 ≥ 65
        · rw [if_pos c10] at H
          have c10b0 : decide (65 ≤ a0) = true := decide_eq_true c10
          clear c10
          obtain rfl := Option.some.inj H
          go_enter Try.func34, Try.ntmps34
          go_wp2
          go_ret
          exact ⟨by first | rfl | (simp; done) | (simp [*]; done), by repeat (first | exact Drawn0.refl _ | apply Drawn0.step)⟩
        · rw [if_neg c10] at H
          have c10b0 : decide (65 ≤ a0) = false := decide_eq_false c10
          clear c10
          obtain rfl := Option.some.inj H
          go_enter Try.func34, Try.ntmps34
          go_wp2
          go_ret
          exact ⟨by first | rfl | (simp; done) | (simp [*]; done), by repeat (first | exact Drawn0.refl _ | apply Drawn0.step)⟩
    · rw [if_neg c8] at H
      have c8b0 : decide (97 ≤ a0) = false := decide_eq_false c8
      clear c8
      by_cases c11 : a0 ≥ 65
      · rw [if_pos c11] at H
        have c11b0 : decide (65 ≤ a0) = true := decide_eq_true c11
        clear c11
        obtain rfl := Option.some.inj H
        go_enter Try.func34, Try.ntmps34
        go_wp2
        go_ret
        exact ⟨by first | rfl | (simp; done) | (simp [*]; done), by repeat (first | exact Drawn0.refl _ | apply Drawn0.step)⟩
      · rw [if_neg c11] at H
        have c11b0 : decide (65 ≤ a0) = false := decide_eq_false c11
        clear c11
        obtain rfl := Option.some.inj H
        go_enter Try.func34, Try.ntmps34
        go_wp2
        go_ret
        exact ⟨by first | rfl | (simp; done) | (simp [*]; done), by repeat (first | exact Drawn0.refl _ | apply Drawn0.step)⟩

/-! ### gjson_validstring: function 27 -/
mutual
def gjson_validstring.l0 : Nat → List Int → Int → Option (Int × Bool)
  | 0, _, _ => none
  | k + 1, x0, x1 => if x1 < (x0.length : Int) then (if 0 ≤ x1 then (if (rd x0 x1) < 32 then (some (x1, false)) else (if (rd x0 x1) = 92 then (if (wrap64 (x1 + 1)) = (x0.length : Int) then (some (wrap64 (x1 + 1), false)) else (if 0 ≤ (wrap64 (x1 + 1)) then (if (wrap64 (x1 + 1)) < (x0.length : Int) then (if (rd x0 (wrap64 (x1 + 1))) = 34 then (gjson_validstring.j1 k x0 (wrap64 (x1 + 1)) (rd x0 (wrap64 (x1 + 1))) ((rd x0 (wrap64 (x1 + 1))) == 34)) else (if (rd x0 (wrap64 (x1 + 1))) = 92 then (gjson_validstring.j1 k x0 (wrap64 (x1 + 1)) (rd x0 (wrap64 (x1 + 1))) ((rd x0 (wrap64 (x1 + 1))) == 92)) else (if (rd x0 (wrap64 (x1 + 1))) = 47 then (gjson_validstring.j1 k x0 (wrap64 (x1 + 1)) (rd x0 (wrap64 (x1 + 1))) ((rd x0 (wrap64 (x1 + 1))) == 47)) else (if (rd x0 (wrap64 (x1 + 1))) = 98 then (gjson_validstring.j1 k x0 (wrap64 (x1 + 1)) (rd x0 (wrap64 (x1 + 1))) ((rd x0 (wrap64 (x1 + 1))) == 98)) else (if (rd x0 (wrap64 (x1 + 1))) = 102 then (gjson_validstring.j1 k x0 (wrap64 (x1 + 1)) (rd x0 (wrap64 (x1 + 1))) ((rd x0 (wrap64 (x1 + 1))) == 102)) else (if (rd x0 (wrap64 (x1 + 1))) = 110 then (gjson_validstring.j1 k x0 (wrap64 (x1 + 1)) (rd x0 (wrap64 (x1 + 1))) ((rd x0 (wrap64 (x1 + 1))) == 110)) else (if (rd x0 (wrap64 (x1 + 1))) = 114 then (gjson_validstring.j1 k x0 (wrap64 (x1 + 1)) (rd x0 (wrap64 (x1 + 1))) ((rd x0 (wrap64 (x1 + 1))) == 114)) else (gjson_validstring.j1 k x0 (wrap64 (x1 + 1)) (rd x0 (wrap64 (x1 + 1))) ((rd x0 (wrap64 (x1 + 1))) == 116))))))))) else (none)) else (none))) else (if (rd x0 x1) = 34 then (some (wrap64 (x1 + 1), true)) else (gjson_validstring.l0 k x0 (wrap64 (x1 + 1)))))) else (none)) else (some (x1, false))
def gjson_validstring.j1 : Nat → List Int → Int → Int → Bool → Option (Int × Bool)
  | 0, _, _, _, _ => none
  | k + 1, x0, x1, x33, x35 => if x35 = true then (gjson_validstring.l0 k x0 (wrap64 (x1 + 1))) else (if x33 = 117 then (gjson_validstring.l1 k x0 x1 0) else (some (x1, false)))
def gjson_validstring.l1 : Nat → List Int → Int → Int → Option (Int × Bool)
  | 0, _, _, _ => none
  | k + 1, x0, x1, x46 => if x46 < 4 then (if (wrap64 (x1 + 1)) ≥ (x0.length : Int) then (some (wrap64 (x1 + 1), false)) else (if 0 ≤ (wrap64 (x1 + 1)) then (if (wrap64 (x1 + 1)) < (x0.length : Int) then ((gjson_ishex.f (rd x0 (wrap64 (x1 + 1)))).bind fun t288 => (if t288 = true then (gjson_validstring.l1 k x0 (wrap64 (x1 + 1)) (wrap64 (x46 + 1))) else (some (wrap64 (x1 + 1), false)))) else (none)) else (none))) else (gjson_validstring.l0 k x0 (wrap64 (x1 + 1)))
end
def gjson_validstring.f (k : Nat) (l0 : List Int) (a1 : Int) : Option (Int × Bool) := gjson_validstring.l0 k l0 a1
theorem gjson_validstring.mono_l : ∀ k, (∀ y0 y1, LeO (gjson_validstring.l0 k y0 y1) (gjson_validstring.l0 (k + 1) y0 y1)) ∧ (∀ y0 y1 y2 y3, LeO (gjson_validstring.j1 k y0 y1 y2 y3) (gjson_validstring.j1 (k + 1) y0 y1 y2 y3)) ∧ (∀ y0 y1 y2, LeO (gjson_validstring.l1 k y0 y1 y2) (gjson_validstring.l1 (k + 1) y0 y1 y2))
  | 0 => ⟨fun _ _ r h => by simp [gjson_validstring.l0] at h, fun _ _ _ _ r h => by simp [gjson_validstring.j1] at h, fun _ _ _ r h => by simp [gjson_validstring.l1] at h⟩
  | k + 1 => by
    obtain ⟨ih0, ih1, ih2⟩ := gjson_validstring.mono_l k
    refine ⟨?_, ?_, ?_⟩
    · intro y0 y1
      unfold gjson_validstring.l0
      repeat' first
      | (with_reducible exact ih0 _ _)
      | (with_reducible exact ih1 _ _ _ _)
      | (with_reducible exact ih2 _ _ _)
      | (with_reducible exact LeO.refl _)
      | (with_reducible exact LeO.none _)
      | (with_reducible refine LeO.ite ?_ ?_)
      | (with_reducible refine LeO.bind ?_ (fun _ => ?_))
      | exact ih0 _ _
      | exact ih1 _ _ _ _
      | exact ih2 _ _ _
      | exact LeO.none _
      | refine LeO.ite ?_ ?_
      | refine LeO.bind ?_ (fun _ => ?_)
    · intro y0 y1 y2 y3
      unfold gjson_validstring.j1
      repeat' first
      | (with_reducible exact ih0 _ _)
      | (with_reducible exact ih1 _ _ _ _)
      | (with_reducible exact ih2 _ _ _)
      | (with_reducible exact LeO.refl _)
      | (with_reducible exact LeO.none _)
      | (with_reducible refine LeO.ite ?_ ?_)
      | (with_reducible refine LeO.bind ?_ (fun _ => ?_))
      | exact ih0 _ _
      | exact ih1 _ _ _ _
      | exact ih2 _ _ _
      | exact LeO.none _
      | refine LeO.ite ?_ ?_
      | refine LeO.bind ?_ (fun _ => ?_)
    · intro y0 y1 y2
      unfold gjson_validstring.l1
      repeat' first
      | (with_reducible exact ih0 _ _)
      | (with_reducible exact ih1 _ _ _ _)
      | (with_reducible exact ih2 _ _ _)
      | (with_reducible exact LeO.refl _)
      | (with_reducible exact LeO.none _)
      | (with_reducible refine LeO.ite ?_ ?_)
      | (with_reducible refine LeO.bind ?_ (fun _ => ?_))
      | exact ih0 _ _
      | exact ih1 _ _ _ _
      | exact ih2 _ _ _
      | exact LeO.none _
      | refine LeO.ite ?_ ?_
      | refine LeO.bind ?_ (fun _ => ?_)
theorem gjson_validstring.mono : ∀ a0 a1 k, LeO (gjson_validstring.f k a0 a1) (gjson_validstring.f (k + 1) a0 a1) := by
  intro a0 a1 k
  obtain ⟨ih0, ih1, ih2⟩ := gjson_validstring.mono_l k
  unfold gjson_validstring.f
  repeat' first
      | (with_reducible exact ih0 _ _)
      | (with_reducible exact ih1 _ _ _ _)
      | (with_reducible exact ih2 _ _ _)
      | (with_reducible exact LeO.refl _)
      | (with_reducible exact LeO.none _)
      | (with_reducible refine LeO.ite ?_ ?_)
      | (with_reducible refine LeO.bind ?_ (fun _ => ?_))
      | exact ih0 _ _
      | exact ih1 _ _ _ _
      | exact ih2 _ _ _
      | exact LeO.none _
      | refine LeO.ite ?_ ?_
      | refine LeO.bind ?_ (fun _ => ?_)
set_option maxHeartbeats 8000000 in
set_option maxRecDepth 100000 in
theorem gjson_validstring.calls (k : Nat) (A0 : Option Addr) (c0 : Nat) (l0 : List Int) (a1 : Int) (r1 : Int) (r2 : Bool) (w : World) (hr0 : Kd.C (Kd.int .u8) w A0 l0.length l0) (hc0 : l0.length ≤ c0) (h : gjson_validstring.f k l0 a1 = some (r1, r2)) :
    Calls Try.prog 27 #[.slice A0 l0.length c0, .int .i64 a1] w fun e w' => e = .returned (.tuple #[.int .i64 r1, .bool r2]) ∧ Drawn0 w w' := by
  have HR0 := Aside0.mk hr0
  have HC0 := Aside0.mk hc0
  clear hr0 hc0
  have H : (gjson_validstring.l0 k l0 a1) = some (r1, r2) := h
  clear h
  have H' := Aside0.mk H
  clear H
  go_enter Try.func27, Try.ntmps27
  go_wp2
  (try simp only [Act.put, List.setIfInBounds_toArray, List.set_cons_zero, List.set_cons_succ])
  go_loopg [1] k (fun kq v1 w' => ∃ (x1_1 : Int), v1 = .int .i64 x1_1 ∧ Aside0 (gjson_validstring.l0 kq l0 x1_1 = some (r1, r2)) ∧ Aside0 (kq ≤ k) ∧ Drawn0 w w')
  case atStart => exact ⟨(a1), (by first | rfl | (simp; done) | (simp [*]; done)), H', ⟨Nat.le_refl _⟩, by repeat (first | exact Drawn0.refl _ | apply Drawn0.step)⟩
  case round =>
    clear H'
    try clear c2
    try clear p2
    obtain ⟨x1_1, rfl, HA, HK1, ⟨m1, rfl⟩⟩ := hrel
    cases gk with
    | zero => exact absurd HA.out (by simp [gjson_validstring.l0])
    | succ k1 =>
      have H := HA.out
      clear HA
      simp only [gjson_validstring.l0] at H
      by_cases c3 : x1_1 < (l0.length : Int)
      · rw [if_pos c3] at H
        have c3b0 : decide (x1_1 < (l0.length : Int)) = true := decide_eq_true c3
        clear c3
        by_cases c4 : 0 ≤ x1_1
        · rw [if_pos c4] at H
          have c4b0 : decide (0 ≤ x1_1) = true := decide_eq_true c4
          clear c4
          by_cases c5 : (rd l0 x1_1) < 32
          · rw [if_pos c5] at H
            have c5b0 : decide ((rd l0 x1_1) < 32) = true := decide_eq_true c5
            clear c5
            simp only [Option.some.injEq, Prod.mk.injEq] at H
            obtain ⟨rfl, rfl⟩ := H
            have p284 : 0 ≤ (x1_1 : Int) := of_decide_eq_true (by first | (with_reducible assumption) | assumption)
            have q284 : x1_1 < (l0.length : Int) := of_decide_eq_true (by first | (with_reducible assumption) | assumption)
            obtain ⟨ad284, e284, hx284_0⟩ := Kd.at_int HR0.out x1_1 p284 q284
            cases e284
            replace p284 := eq_true p284
            replace q284 := eq_true q284
            go_wp2
            go_ret2
            exact ⟨by first | rfl | (simp; done) | (simp [*]; done), by repeat (first | exact Drawn0.refl _ | apply Drawn0.step)⟩
          · rw [if_neg c5] at H
            have c5b0 : decide ((rd l0 x1_1) < 32) = false := decide_eq_false c5
            clear c5
            by_cases c6 : (rd l0 x1_1) = 92
            · rw [if_pos c6] at H
              have c6b0 : ((rd l0 x1_1) == 92) = true := beq_iff_eq.mpr c6
              have c6b1 : ((rd l0 x1_1) != 92) = false := bne_eq_false_iff_eq.mpr c6
              clear c6
              by_cases c7 : (wrap64 (x1_1 + 1)) = (l0.length : Int)
              · rw [if_pos c7] at H
                have c7b0 : ((wrap64 (x1_1 + 1)) == (l0.length : Int)) = true := beq_iff_eq.mpr c7
                have c7b1 : ((wrap64 (x1_1 + 1)) != (l0.length : Int)) = false := bne_eq_false_iff_eq.mpr c7
                clear c7
                simp only [Option.some.injEq, Prod.mk.injEq] at H
                obtain ⟨rfl, rfl⟩ := H
                have p284 : 0 ≤ (x1_1 : Int) := of_decide_eq_true (by first | (with_reducible assumption) | assumption)
                have q284 : x1_1 < (l0.length : Int) := of_decide_eq_true (by first | (with_reducible assumption) | assumption)
                obtain ⟨ad284, e284, hx284_0⟩ := Kd.at_int HR0.out x1_1 p284 q284
                cases e284
                replace p284 := eq_true p284
                replace q284 := eq_true q284
                have p285 : 0 ≤ (x1_1 : Int) := of_decide_eq_true (by first | (with_reducible assumption) | assumption)
                have q285 : x1_1 < (l0.length : Int) := of_decide_eq_true (by first | (with_reducible assumption) | assumption)
                obtain ⟨ad285, e285, hx285_0⟩ := Kd.at_int HR0.out x1_1 p285 q285
                obtain rfl : ad284 = ad285 := (by injection e285)
                replace p285 := eq_true p285
                replace q285 := eq_true q285
                go_wp2
                go_ret2
                exact ⟨by first | rfl | (simp; done) | (simp [*]; done), by repeat (first | exact Drawn0.refl _ | apply Drawn0.step)⟩
              · rw [if_neg c7] at H
                have c7b0 : ((wrap64 (x1_1 + 1)) == (l0.length : Int)) = false := beq_eq_false_iff_ne.mpr c7
                have c7b1 : ((wrap64 (x1_1 + 1)) != (l0.length : Int)) = true := bne_iff_ne.mpr c7
                obtain ⟨ji8, hji8⟩ : ∃ j_ : Int, (wrap64 (x1_1 + 1)) = j_ := ⟨_, rfl⟩
                replace H : (if 0 ≤ (ji8) then (if (ji8) < (l0.length : Int) then (if (rd l0 (ji8)) = 34 then (gjson_validstring.j1 k1 l0 ji8 (rd l0 (ji8)) ((rd l0 (ji8)) == 34)) else (if (rd l0 (ji8)) = 92 then (gjson_validstring.j1 k1 l0 ji8 (rd l0 (ji8)) ((rd l0 (ji8)) == 92)) else (if (rd l0 (ji8)) = 47 then (gjson_validstring.j1 k1 l0 ji8 (rd l0 (ji8)) ((rd l0 (ji8)) == 47)) else (if (rd l0 (ji8)) = 98 then (gjson_validstring.j1 k1 l0 ji8 (rd l0 (ji8)) ((rd l0 (ji8)) == 98)) else (if (rd l0 (ji8)) = 102 then (gjson_validstring.j1 k1 l0 ji8 (rd l0 (ji8)) ((rd l0 (ji8)) == 102)) else (if (rd l0 (ji8)) = 110 then (gjson_validstring.j1 k1 l0 ji8 (rd l0 (ji8)) ((rd l0 (ji8)) == 110)) else (if (rd l0 (ji8)) = 114 then (gjson_validstring.j1 k1 l0 ji8 (rd l0 (ji8)) ((rd l0 (ji8)) == 114)) else (gjson_validstring.j1 k1 l0 ji8 (rd l0 (ji8)) ((rd l0 (ji8)) == 116))))))))) else (none)) else (none)) = some (r1, r2) := by first | (rw [hji8] at H; exact H) | (simp only [hji8] at H ⊢; exact H)
                (try rw [hji8] at c7b0)
                (try rw [hji8] at c7b1)
                have hji8w : (IntKind.i64.wrap (x1_1 + 1)) = ji8 := (i64_w _).trans hji8
                by_cases c9 : 0 ≤ (ji8)
                · rw [if_pos c9] at H
                  have c9b0 : decide (0 ≤ (ji8)) = true := decide_eq_true c9
                  clear c9
                  by_cases c10 : (ji8) < (l0.length : Int)
                  · rw [if_pos c10] at H
                    have c10b0 : decide ((ji8) < (l0.length : Int)) = true := decide_eq_true c10
                    clear c10
                    have HC11 := Aside0.mk H
                    clear H
                    have p284 : 0 ≤ (x1_1 : Int) := of_decide_eq_true (by first | (with_reducible assumption) | assumption)
                    have q284 : x1_1 < (l0.length : Int) := of_decide_eq_true (by first | (with_reducible assumption) | assumption)
                    obtain ⟨ad284, e284, hx284_0⟩ := Kd.at_int HR0.out x1_1 p284 q284
                    cases e284
                    replace p284 := eq_true p284
                    replace q284 := eq_true q284
                    have p285 : 0 ≤ (x1_1 : Int) := of_decide_eq_true (by first | (with_reducible assumption) | assumption)
                    have q285 : x1_1 < (l0.length : Int) := of_decide_eq_true (by first | (with_reducible assumption) | assumption)
                    obtain ⟨ad285, e285, hx285_0⟩ := Kd.at_int HR0.out x1_1 p285 q285
                    obtain rfl : ad284 = ad285 := (by injection e285)
                    replace p285 := eq_true p285
                    replace q285 := eq_true q285
                    have p286 : 0 ≤ ((ji8) : Int) := of_decide_eq_true (by first | (with_reducible assumption) | assumption)
                    have q286 : (ji8) < (l0.length : Int) := of_decide_eq_true (by first | (with_reducible assumption) | assumption)
                    obtain ⟨ad286, e286, hx286_0⟩ := Kd.at_int HR0.out (ji8) p286 q286
                    obtain rfl : ad284 = ad286 := (by injection e286)
                    replace p286 := eq_true p286
                    replace q286 := eq_true q286
                    go_upto_if 35 with (fail)
                    go_cut [35] (fun v35 wc => ∃ (kq : Nat) (x35_10 : Bool), v35 = .bool x35_10 ∧ Aside0 (gjson_validstring.j1 kq l0 ji8 (rd l0 (ji8)) x35_10 = some (r1, r2)) ∧ Aside0 (kq ≤ k1) ∧ Drawn0 w wc)
                    case first =>
                      have H := HC11.out
                      clear HC11
                      by_cases c12 : (rd l0 (ji8)) = 34
                      · rw [if_pos c12] at H
                        have c12b0 : ((rd l0 (ji8)) == 34) = true := beq_iff_eq.mpr c12
                        have c12b1 : ((rd l0 (ji8)) != 34) = false := bne_eq_false_iff_eq.mpr c12
                        clear c12
                        (first | rw [c12b0] | (simp only [i64_w, i32_w]; rw [c12b0]) | skip)
                        have H' := Aside0.mk H
                        clear H
                        go_wp2
                        go_meet
                        case rel => exact ⟨_, (((rd l0 (ji8)) == 34)), (by first | rfl | (simp; done) | (simp only [← hji8] <;> (first | rfl | (simp; done))) | (simp [*]; done) | (simp only [*]; done)), H', ⟨by have := HK1.out; first | omega | exact Nat.le_refl _⟩, by repeat (first | exact Drawn0.refl _ | apply Drawn0.step)⟩
                      · rw [if_neg c12] at H
                        have c12b0 : ((rd l0 (ji8)) == 34) = false := beq_eq_false_iff_ne.mpr c12
                        have c12b1 : ((rd l0 (ji8)) != 34) = true := bne_iff_ne.mpr c12
                        (first | rw [c12b0] | (simp only [i64_w, i32_w]; rw [c12b0]) | skip)
                        by_cases c13 : (rd l0 (ji8)) = 92
                        · rw [if_pos c13] at H
                          have c13b0 : ((rd l0 (ji8)) == 92) = true := beq_iff_eq.mpr c13
                          have c13b1 : ((rd l0 (ji8)) != 92) = false := bne_eq_false_iff_eq.mpr c13
                          clear c13
                          have H' := Aside0.mk H
                          clear H
                          go_wp2
                          go_meet
                          case rel => exact ⟨_, (((rd l0 (ji8)) == 92)), (by first | rfl | (simp; done) | (simp only [← hji8] <;> (first | rfl | (simp; done))) | (simp [*]; done) | (simp only [*]; done)), H', ⟨by have := HK1.out; first | omega | exact Nat.le_refl _⟩, by repeat (first | exact Drawn0.refl _ | apply Drawn0.step)⟩
                        · rw [if_neg c13] at H
                          have c13b0 : ((rd l0 (ji8)) == 92) = false := beq_eq_false_iff_ne.mpr c13
                          have c13b1 : ((rd l0 (ji8)) != 92) = true := bne_iff_ne.mpr c13
                          by_cases c14 : (rd l0 (ji8)) = 47
                          · rw [if_pos c14] at H
                            have c14b0 : ((rd l0 (ji8)) == 47) = true := beq_iff_eq.mpr c14
                            have c14b1 : ((rd l0 (ji8)) != 47) = false := bne_eq_false_iff_eq.mpr c14
                            clear c14
                            have H' := Aside0.mk H
                            clear H
                            go_wp2
                            go_meet
                            case rel => exact ⟨_, (((rd l0 (ji8)) == 47)), (by first | rfl | (simp; done) | (simp only [← hji8] <;> (first | rfl | (simp; done))) | (simp [*]; done) | (simp only [*]; done)), H', ⟨by have := HK1.out; first | omega | exact Nat.le_refl _⟩, by repeat (first | exact Drawn0.refl _ | apply Drawn0.step)⟩
                          · rw [if_neg c14] at H
                            have c14b0 : ((rd l0 (ji8)) == 47) = false := beq_eq_false_iff_ne.mpr c14
                            have c14b1 : ((rd l0 (ji8)) != 47) = true := bne_iff_ne.mpr c14
                            by_cases c15 : (rd l0 (ji8)) = 98
                            · rw [if_pos c15] at H
                              have c15b0 : ((rd l0 (ji8)) == 98) = true := beq_iff_eq.mpr c15
                              have c15b1 : ((rd l0 (ji8)) != 98) = false := bne_eq_false_iff_eq.mpr c15
                              clear c15
                              have H' := Aside0.mk H
                              clear H
                              go_wp2
                              go_meet
                              case rel => exact ⟨_, (((rd l0 (ji8)) == 98)), (by first | rfl | (simp; done) | (simp only [← hji8] <;> (first | rfl | (simp; done))) | (simp [*]; done) | (simp only [*]; done)), H', ⟨by have := HK1.out; first | omega | exact Nat.le_refl _⟩, by repeat (first | exact Drawn0.refl _ | apply Drawn0.step)⟩
                            · rw [if_neg c15] at H
                              have c15b0 : ((rd l0 (ji8)) == 98) = false := beq_eq_false_iff_ne.mpr c15
                              have c15b1 : ((rd l0 (ji8)) != 98) = true := bne_iff_ne.mpr c15
                              by_cases c16 : (rd l0 (ji8)) = 102
                              · rw [if_pos c16] at H
                                have c16b0 : ((rd l0 (ji8)) == 102) = true := beq_iff_eq.mpr c16
                                have c16b1 : ((rd l0 (ji8)) != 102) = false := bne_eq_false_iff_eq.mpr c16
                                clear c16
                                have H' := Aside0.mk H
                                clear H
                                go_wp2
                                go_meet
                                case rel => exact ⟨_, (((rd l0 (ji8)) == 102)), (by first | rfl | (simp; done) | (simp only [← hji8] <;> (first | rfl | (simp; done))) | (simp [*]; done) | (simp only [*]; done)), H', ⟨by have := HK1.out; first | omega | exact Nat.le_refl _⟩, by repeat (first | exact Drawn0.refl _ | apply Drawn0.step)⟩
                              · rw [if_neg c16] at H
                                have c16b0 : ((rd l0 (ji8)) == 102) = false := beq_eq_false_iff_ne.mpr c16
                                have c16b1 : ((rd l0 (ji8)) != 102) = true := bne_iff_ne.mpr c16
                                by_cases c17 : (rd l0 (ji8)) = 110
                                · rw [if_pos c17] at H
                                  have c17b0 : ((rd l0 (ji8)) == 110) = true := beq_iff_eq.mpr c17
                                  have c17b1 : ((rd l0 (ji8)) != 110) = false := bne_eq_false_iff_eq.mpr c17
                                  clear c17
                                  have H' := Aside0.mk H
                                  clear H
                                  go_wp2
                                  go_meet
                                  case rel => exact ⟨_, (((rd l0 (ji8)) == 110)), (by first | rfl | (simp; done) | (simp only [← hji8] <;> (first | rfl | (simp; done))) | (simp [*]; done) | (simp only [*]; done)), H', ⟨by have := HK1.out; first | omega | exact Nat.le_refl _⟩, by repeat (first | exact Drawn0.refl _ | apply Drawn0.step)⟩
                                · rw [if_neg c17] at H
                                  have c17b0 : ((rd l0 (ji8)) == 110) = false := beq_eq_false_iff_ne.mpr c17
                                  have c17b1 : ((rd l0 (ji8)) != 110) = true := bne_iff_ne.mpr c17
                                  by_cases c18 : (rd l0 (ji8)) = 114
                                  · rw [if_pos c18] at H
                                    have c18b0 : ((rd l0 (ji8)) == 114) = true := beq_iff_eq.mpr c18
                                    have c18b1 : ((rd l0 (ji8)) != 114) = false := bne_eq_false_iff_eq.mpr c18
                                    clear c18
                                    have H' := Aside0.mk H
                                    clear H
                                    go_wp2
                                    go_meet
                                    case rel => exact ⟨_, (((rd l0 (ji8)) == 114)), (by first | rfl | (simp; done) | (simp only [← hji8] <;> (first | rfl | (simp; done))) | (simp [*]; done) | (simp only [*]; done)), H', ⟨by have := HK1.out; first | omega | exact Nat.le_refl _⟩, by repeat (first | exact Drawn0.refl _ | apply Drawn0.step)⟩
                                  · rw [if_neg c18] at H
                                    have c18b0 : ((rd l0 (ji8)) == 114) = false := beq_eq_false_iff_ne.mpr c18
                                    have c18b1 : ((rd l0 (ji8)) != 114) = true := bne_iff_ne.mpr c18
                                    have H' := Aside0.mk H
                                    clear H
                                    go_wp2
                                    go_meet
                                    case rel => exact ⟨_, (((rd l0 (ji8)) == 116)), (by first | rfl | (simp; done) | (simp only [← hji8] <;> (first | rfl | (simp; done))) | (simp [*]; done) | (simp only [*]; done)), H', ⟨by have := HK1.out; first | omega | exact Nat.le_refl _⟩, by repeat (first | exact Drawn0.refl _ | apply Drawn0.step)⟩
                    case rest =>
                      clear HC11
                      try clear c1
                      try clear c2
                      try clear p2
                      try clear q2
                      try clear hx2
                      try clear c3
                      try clear c3b0
                      try clear c4
                      try clear c4b0
                      try clear c5
                      try clear c5b0
                      try clear c6
                      try clear c6b0
                      try clear c6b1
                      try clear p6
                      try clear c7
                      try clear c7b0
                      try clear c7b1
                      try clear c9
                      try clear c9b0
                      try clear c10
                      try clear c10b0
                      try clear c12
                      try clear c12b0
                      try clear c12b1
                      try clear c13
                      try clear c13b0
                      try clear c13b1
                      try clear c14
                      try clear c14b0
                      try clear c14b1
                      try clear c15
                      try clear c15b0
                      try clear c15b1
                      try clear c16
                      try clear c16b0
                      try clear c16b1
                      try clear c17
                      try clear c17b0
                      try clear c17b1
                      try clear c18
                      try clear c18b0
                      try clear c18b1
                      try clear hx284_0
                      try clear hx285_0
                      try clear hx286_0
                      try clear p2
                      try clear p284
                      try clear p285
                      try clear p286
                      try clear q284
                      try clear q285
                      try clear q286
                      obtain ⟨kq, x35_10, rfl, HA, HJ10, ⟨mc10, rfl⟩⟩ := hcut
                      cases kq with
                      | zero => exact absurd HA.out (by simp [gjson_validstring.j1])
                      | succ kj10 =>
                        have H := HA.out
                        clear HA
                        simp only [gjson_validstring.j1] at H
                        by_cases c19 : x35_10 = true
                        · subst c19
                          have H1 : (gjson_validstring.l0 kj10 l0 (wrap64 (ji8 + 1))) = some (r1, r2) := by rw [if_pos rfl] at H; exact H
                          clear H
                          have H := H1
                          clear H1
                          have H' := Aside0.mk H
                          clear H
                          go_wp2
                          go_roundg kj10
                          case measure => have := HK1.out; have := HJ10.out; omega
                          case rel => exact ⟨(wrap64 (ji8 + 1)), (by first | rfl | (simp; done) | (simp only [← hji8] <;> (first | rfl | (simp; done))) | (simp [*]; done) | (simp only [*]; done)), H', ⟨by have := HK1.out; have := HJ10.out; omega⟩, by repeat (first | exact Drawn0.refl _ | apply Drawn0.step)⟩
                        · replace c19 := Bool.eq_false_iff.mpr c19
                          subst c19
                          have H1 : (if (rd l0 (ji8)) = 117 then (gjson_validstring.l1 kj10 l0 ji8 0) else (some (ji8, false))) = some (r1, r2) := by rw [if_neg (show ¬ (false = true) by decide)] at H; exact H
                          clear H
                          have H := H1
                          clear H1
                          by_cases c20 : (rd l0 (ji8)) = 117
                          · rw [if_pos c20] at H
                            have c20b0 : ((rd l0 (ji8)) == 117) = true := beq_iff_eq.mpr c20
                            have c20b1 : ((rd l0 (ji8)) != 117) = false := bne_eq_false_iff_eq.mpr c20
                            clear c20
                            have H' := Aside0.mk H
                            clear H
                            go_wp2
                            (try simp only [Act.put, List.setIfInBounds_toArray, List.set_cons_zero, List.set_cons_succ])
                            go_loopg [1, 46] kj10 (fun kq v1 v46 w' => ∃ (x1_3 : Int) (x46_3 : Int), v1 = .int .i64 x1_3 ∧ v46 = .int .i64 x46_3 ∧ Aside0 (gjson_validstring.l1 kq l0 x1_3 x46_3 = some (r1, r2)) ∧ Aside0 (kq ≤ kj10) ∧ Drawn0 w w')
                            case atStart => exact ⟨(ji8), (0), (by first | rfl | (simp; done) | (simp only [← hji8] <;> (first | rfl | (simp; done))) | (simp [*]; done) | (simp only [*]; done)), (by first | rfl | (simp; done) | (simp [*]; done)), H', ⟨Nat.le_refl _⟩, by repeat (first | exact Drawn0.refl _ | apply Drawn0.step)⟩
                            case round =>
                              clear H'
                              try clear c1
                              try clear c2
                              try clear p2
                              try clear q2
                              try clear hx2
                              try clear c3
                              try clear c3b0
                              try clear c4
                              try clear c4b0
                              try clear c5
                              try clear c5b0
                              try clear c6
                              try clear c6b0
                              try clear c6b1
                              try clear p6
                              try clear c7
                              try clear c7b0
                              try clear c7b1
                              try clear c9
                              try clear c9b0
                              try clear c10
                              try clear c10b0
                              try clear c12
                              try clear c12b0
                              try clear c12b1
                              try clear c13
                              try clear c13b0
                              try clear c13b1
                              try clear c14
                              try clear c14b0
                              try clear c14b1
                              try clear c15
                              try clear c15b0
                              try clear c15b1
                              try clear c16
                              try clear c16b0
                              try clear c16b1
                              try clear c17
                              try clear c17b0
                              try clear c17b1
                              try clear c18
                              try clear c18b0
                              try clear c18b1
                              try clear c19
                              try clear c20
                              try clear c20b0
                              try clear c20b1
                              try clear hx284_0
                              try clear hx285_0
                              try clear hx286_0
                              try clear p2
                              try clear p284
                              try clear p285
                              try clear p286
                              try clear p6
                              try clear q2
                              try clear q284
                              try clear q285
                              try clear q286
                              obtain ⟨x1_3, x46_3, rfl, rfl, HA, HK3, ⟨m3, rfl⟩⟩ := hrel
                              cases gk with
                              | zero => exact absurd HA.out (by simp [gjson_validstring.l1])
                              | succ k3 =>
                                have H := HA.out
                                clear HA
                                simp only [gjson_validstring.l1] at H
                                by_cases c21 : x46_3 < 4
                                · rw [if_pos c21] at H
                                  have c21b0 : decide (x46_3 < 4) = true := decide_eq_true c21
                                  clear c21
                                  by_cases c22 : (wrap64 (x1_3 + 1)) ≥ (l0.length : Int)
                                  · rw [if_pos c22] at H
                                    have c22b0 : decide ((l0.length : Int) ≤ (wrap64 (x1_3 + 1))) = true := decide_eq_true c22
                                    clear c22
                                    simp only [Option.some.injEq, Prod.mk.injEq] at H
                                    obtain ⟨rfl, rfl⟩ := H
                                    go_wp2
                                    go_ret2
                                    exact ⟨by first | rfl | (simp; done) | (simp only [← hji8] <;> (first | rfl | (simp; done))) | (simp [*]; done) | (simp only [*]; done), by repeat (first | exact Drawn0.refl _ | apply Drawn0.step)⟩
                                  · rw [if_neg c22] at H
                                    have c22b0 : decide ((l0.length : Int) ≤ (wrap64 (x1_3 + 1))) = false := decide_eq_false c22
                                    clear c22
                                    obtain ⟨ji23, hji23⟩ : ∃ j_ : Int, (wrap64 (x1_3 + 1)) = j_ := ⟨_, rfl⟩
                                    replace H : (if 0 ≤ (ji23) then (if (ji23) < (l0.length : Int) then ((gjson_ishex.f (rd l0 (ji23))).bind fun t288 => (if t288 = true then (gjson_validstring.l1 k3 l0 ji23 (wrap64 (x46_3 + 1))) else (some (ji23, false)))) else (none)) else (none)) = some (r1, r2) := by first | (rw [hji23] at H; exact H) | (simp only [hji23] at H ⊢; exact H)
                                    (try rw [hji23] at c22b0)
                                    have hji23w : (IntKind.i64.wrap (x1_3 + 1)) = ji23 := (i64_w _).trans hji23
                                    by_cases c24 : 0 ≤ (ji23)
                                    · rw [if_pos c24] at H
                                      have c24b0 : decide (0 ≤ (ji23)) = true := decide_eq_true c24
                                      clear c24
                                      by_cases c25 : (ji23) < (l0.length : Int)
                                      · rw [if_pos c25] at H
                                        have c25b0 : decide ((ji23) < (l0.length : Int)) = true := decide_eq_true c25
                                        clear c25
                                        replace H := Option.bind_eq_some_iff.mp H
                                        obtain ⟨t288, A260, H⟩ := H
                                        replace H : (if t288 = true then (gjson_validstring.l1 k3 l0 ji23 (wrap64 (x46_3 + 1))) else (some (ji23, false))) = some (r1, r2) := H
                                        have A26 := Aside0.mk A260
                                        clear A260
                                        by_cases c27 : t288 = true
                                        · subst c27
                                          have H1 : (gjson_validstring.l1 k3 l0 ji23 (wrap64 (x46_3 + 1))) = some (r1, r2) := by rw [if_pos rfl] at H; exact H
                                          clear H
                                          have H := H1
                                          clear H1
                                          have H' := Aside0.mk H
                                          clear H
                                          have p287 : 0 ≤ ((ji23) : Int) := of_decide_eq_true (by first | (with_reducible assumption) | assumption)
                                          have q287 : (ji23) < (l0.length : Int) := of_decide_eq_true (by first | (with_reducible assumption) | assumption)
                                          obtain ⟨ad287, e287, hx287_0⟩ := Kd.at_int HR0.out (ji23) p287 q287
                                          obtain rfl : ad284 = ad287 := (by injection e287)
                                          replace p287 := eq_true p287
                                          replace q287 := eq_true q287
                                          go_wp2_with (first | (go_at_call 34; (with_reducible refine (gjson_ishex.calls (rd l0 (ji23)) true _ A26.out).mono ?_); rintro e w' ⟨rfl, ⟨nd, rfl⟩⟩))
                                          go_roundg k3
                                          case measure => have := HK1.out; have := HJ10.out; have := HK3.out; omega
                                          case rel => exact ⟨(ji23), (wrap64 (x46_3 + 1)), (by first | rfl | (simp; done) | (simp only [← hji23] <;> (first | rfl | (simp; done))) | (simp [*]; done) | (simp only [*]; done)), (by first | rfl | (simp; done) | (simp [*]; done)), H', ⟨by have := HK1.out; have := HJ10.out; have := HK3.out; omega⟩, by repeat (first | exact Drawn0.refl _ | apply Drawn0.step)⟩
                                        · replace c27 := Bool.eq_false_iff.mpr c27
                                          subst c27
                                          have H1 : (some (ji23, false)) = some (r1, r2) := by rw [if_neg (show ¬ (false = true) by decide)] at H; exact H
                                          clear H
                                          have H := H1
                                          clear H1
                                          simp only [Option.some.injEq, Prod.mk.injEq] at H
                                          obtain ⟨rfl, rfl⟩ := H
                                          have p287 : 0 ≤ ((ji23) : Int) := of_decide_eq_true (by first | (with_reducible assumption) | assumption)
                                          have q287 : (ji23) < (l0.length : Int) := of_decide_eq_true (by first | (with_reducible assumption) | assumption)
                                          obtain ⟨ad287, e287, hx287_0⟩ := Kd.at_int HR0.out (ji23) p287 q287
                                          obtain rfl : ad284 = ad287 := (by injection e287)
                                          replace p287 := eq_true p287
                                          replace q287 := eq_true q287
                                          go_wp2_with (first | (go_at_call 34; (with_reducible refine (gjson_ishex.calls (rd l0 (ji23)) false _ A26.out).mono ?_); rintro e w' ⟨rfl, ⟨nd, rfl⟩⟩))
                                          go_ret2
                                          exact ⟨by first | rfl | (simp; done) | (simp only [← hji8, ← hji23] <;> (first | rfl | (simp; done))) | (simp [*]; done) | (simp only [*]; done), by repeat (first | exact Drawn0.refl _ | apply Drawn0.step)⟩
                                      · rw [if_neg c25] at H
                                        exact absurd H (by simp)
                                    · rw [if_neg c24] at H
                                      exact absurd H (by simp)
                                · rw [if_neg c21] at H
                                  have c21b0 : decide (x46_3 < 4) = false := decide_eq_false c21
                                  clear c21
                                  have H' := Aside0.mk H
                                  clear H
                                  go_wp2
                                  go_roundg k3
                                  case measure => have := HK1.out; have := HJ10.out; have := HK3.out; omega
                                  case rel => exact ⟨(wrap64 (x1_3 + 1)), (by first | rfl | (simp; done) | (simp [*]; done)), H', ⟨by have := HK1.out; have := HJ10.out; have := HK3.out; omega⟩, by repeat (first | exact Drawn0.refl _ | apply Drawn0.step)⟩
                          · rw [if_neg c20] at H
                            have c20b0 : ((rd l0 (ji8)) == 117) = false := beq_eq_false_iff_ne.mpr c20
                            have c20b1 : ((rd l0 (ji8)) != 117) = true := bne_iff_ne.mpr c20
                            simp only [Option.some.injEq, Prod.mk.injEq] at H
                            obtain ⟨rfl, rfl⟩ := H
                            go_wp2
                            go_ret2
                            exact ⟨by first | rfl | (simp; done) | (simp only [← hji8] <;> (first | rfl | (simp; done))) | (simp [*]; done) | (simp only [*]; done), by repeat (first | exact Drawn0.refl _ | apply Drawn0.step)⟩
                  · rw [if_neg c10] at H
                    exact absurd H (by simp)
                · rw [if_neg c9] at H
                  exact absurd H (by simp)
            · rw [if_neg c6] at H
              have c6b0 : ((rd l0 x1_1) == 92) = false := beq_eq_false_iff_ne.mpr c6
              have c6b1 : ((rd l0 x1_1) != 92) = true := bne_iff_ne.mpr c6
              by_cases c28 : (rd l0 x1_1) = 34
              · rw [if_pos c28] at H
                have c28b0 : ((rd l0 x1_1) == 34) = true := beq_iff_eq.mpr c28
                have c28b1 : ((rd l0 x1_1) != 34) = false := bne_eq_false_iff_eq.mpr c28
                clear c28
                simp only [Option.some.injEq, Prod.mk.injEq] at H
                obtain ⟨rfl, rfl⟩ := H
                have p284 : 0 ≤ (x1_1 : Int) := of_decide_eq_true (by first | (with_reducible assumption) | assumption)
                have q284 : x1_1 < (l0.length : Int) := of_decide_eq_true (by first | (with_reducible assumption) | assumption)
                obtain ⟨ad284, e284, hx284_0⟩ := Kd.at_int HR0.out x1_1 p284 q284
                cases e284
                replace p284 := eq_true p284
                replace q284 := eq_true q284
                have p285 : 0 ≤ (x1_1 : Int) := of_decide_eq_true (by first | (with_reducible assumption) | assumption)
                have q285 : x1_1 < (l0.length : Int) := of_decide_eq_true (by first | (with_reducible assumption) | assumption)
                obtain ⟨ad285, e285, hx285_0⟩ := Kd.at_int HR0.out x1_1 p285 q285
                obtain rfl : ad284 = ad285 := (by injection e285)
                replace p285 := eq_true p285
                replace q285 := eq_true q285
                have p289 : 0 ≤ (x1_1 : Int) := of_decide_eq_true (by first | (with_reducible assumption) | assumption)
                have q289 : x1_1 < (l0.length : Int) := of_decide_eq_true (by first | (with_reducible assumption) | assumption)
                obtain ⟨ad289, e289, hx289_0⟩ := Kd.at_int HR0.out x1_1 p289 q289
                obtain rfl : ad284 = ad289 := (by injection e289)
                replace p289 := eq_true p289
                replace q289 := eq_true q289
                go_wp2
                go_ret2
                exact ⟨by first | rfl | (simp; done) | (simp [*]; done), by repeat (first | exact Drawn0.refl _ | apply Drawn0.step)⟩
              · rw [if_neg c28] at H
                have c28b0 : ((rd l0 x1_1) == 34) = false := beq_eq_false_iff_ne.mpr c28
                have c28b1 : ((rd l0 x1_1) != 34) = true := bne_iff_ne.mpr c28
                have H' := Aside0.mk H
                clear H
                have p284 : 0 ≤ (x1_1 : Int) := of_decide_eq_true (by first | (with_reducible assumption) | assumption)
                have q284 : x1_1 < (l0.length : Int) := of_decide_eq_true (by first | (with_reducible assumption) | assumption)
                obtain ⟨ad284, e284, hx284_0⟩ := Kd.at_int HR0.out x1_1 p284 q284
                cases e284
                replace p284 := eq_true p284
                replace q284 := eq_true q284
                have p285 : 0 ≤ (x1_1 : Int) := of_decide_eq_true (by first | (with_reducible assumption) | assumption)
                have q285 : x1_1 < (l0.length : Int) := of_decide_eq_true (by first | (with_reducible assumption) | assumption)
                obtain ⟨ad285, e285, hx285_0⟩ := Kd.at_int HR0.out x1_1 p285 q285
                obtain rfl : ad284 = ad285 := (by injection e285)
                replace p285 := eq_true p285
                replace q285 := eq_true q285
                have p289 : 0 ≤ (x1_1 : Int) := of_decide_eq_true (by first | (with_reducible assumption) | assumption)
                have q289 : x1_1 < (l0.length : Int) := of_decide_eq_true (by first | (with_reducible assumption) | assumption)
                obtain ⟨ad289, e289, hx289_0⟩ := Kd.at_int HR0.out x1_1 p289 q289
                obtain rfl : ad284 = ad289 := (by injection e289)
                replace p289 := eq_true p289
                replace q289 := eq_true q289
                go_wp2
                go_roundg k1
                case measure => have := HK1.out; omega
                case rel => exact ⟨(wrap64 (x1_1 + 1)), (by first | rfl | (simp; done) | (simp [*]; done)), H', ⟨by have := HK1.out; omega⟩, by repeat (first | exact Drawn0.refl _ | apply Drawn0.step)⟩
        · rw [if_neg c4] at H
          exact absurd H (by simp)
      · rw [if_neg c3] at H
        have c3b0 : decide (x1_1 < (l0.length : Int)) = false := decide_eq_false c3
        clear c3
        simp only [Option.some.injEq, Prod.mk.injEq] at H
        obtain ⟨rfl, rfl⟩ := H
        go_wp2
        go_ret2
        exact ⟨by first | rfl | (simp; done) | (simp [*]; done), by repeat (first | exact Drawn0.refl _ | apply Drawn0.step)⟩

end Go.Proofs.Ytmbengbkeelpaaa.PFnGjIfValid
