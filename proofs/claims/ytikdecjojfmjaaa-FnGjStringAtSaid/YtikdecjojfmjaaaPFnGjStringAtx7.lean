-- Written for this claim by this session's own program (wip/xprint).
import Derived.Test.YtikdecjojfmjaaaPFnGjStringAtx0
import Derived.Test.YtikdecjojfmjaaaPFnGjStringAtx5
import Derived.Test.YtikdecjojfmjaaaPFnGjStringAtx6
namespace Go.Proofs.Ytikdecjojfmjaaa.PFnGjStringAt
open Go.RowKit Go.Proofs.YtikdecjojfmjaaaW.PrintWords Go.Proofs.YtikdecjojfmjaaaW.PrintLast Go.Proofs.YtikdecjojfmjaaaW.PrintMore
attribute [local go_sem] max2_int min2_int max_two min_two max_three min_three max_four min_four   -- for this text's walks alone
set_option linter.unusedVariables false
set_option linter.unusedSimpArgs false

/-! ### laws_FnGjStringAt: function 5 -/
mutual
def laws_FnGjStringAt.j0 : Nat → ByteArray → Bool → Int → Int → Int → List (S37) → List (S32) → Option (Bool)
  | 0, _, _, _, _, _, _, _ => none
  | k + 1, x0, x28, x315000, x315001, x315002, x315003, x315004 => if x28 = true then (some true) else ((spec_All.f k x315000 x315001 x315002 x315003 x315004).bind fun t315 => (laws_FnGjStringAt.l0 k x0 ([] : List (S37)) t315 (t315.length : Int) 0))
def laws_FnGjStringAt.l0 : Nat → ByteArray → List (S37) → List (S32) → Int → Int → Option (Bool)
  | 0, _, _, _, _, _ => none
  | k + 1, x0, x5, x30, x31, x32 => if x32 < x31 then (if 0 ≤ x32 then (if x32 < (x30.length : Int) then (if x5.length + ((rd_T32 x30 x32).f3).length < 8796093022208 then ((some (x5 ++ ((rd_T32 x30 x32).f3) : List (S37))).bind fun y320 => (if ((rd_T32 x30 x32).f0) = 4 then (if y320.length < 8796093022208 then (laws_FnGjStringAt.l0 k x0 (y320 ++ [(⟨(rd_T32 x30 x32).f1, (rd_T32 x30 x32).f2⟩ : S37)]) x30 x31 (wrap64 (x32 + 1))) else (none)) else (laws_FnGjStringAt.l0 k x0 y320 x30 x31 (wrap64 (x32 + 1))))) else (none)) else (none)) else (none)) else (laws_FnGjStringAt.l1 k x0 x5 (x5.length : Int) 0)
def laws_FnGjStringAt.l1 : Nat → ByteArray → List (S37) → Int → Int → Option (Bool)
  | 0, _, _, _, _ => none
  | k + 1, x0, x52, x53, x54 => if x54 < x53 then (if 0 ≤ x54 then (if x54 < (x52.length : Int) then ((impl_GjStringAt.f k x0 (wrap64 (((rd_T37 x52 x54).f0) + 1))).bind fun bt328 => (if bt328.2.2.2 = true then (if bt328.1 = ((rd_T37 x52 x54).f1) then (if 0 ≤ ((rd_T37 x52 x54).f0) then (if ((rd_T37 x52 x54).f0) ≤ ((rd_T37 x52 x54).f1) then (if ((rd_T37 x52 x54).f1) ≤ (x0.size : Int) then (if bt328.2.1.toList = (x0.extract (((rd_T37 x52 x54).f0) : Int).toNat (((rd_T37 x52 x54).f1) : Int).toNat).toList then ((spec_Escaped.f k bt328.2.1).bind fun t332 => (if (bt328.2.2.1 != t332) = true then (some false) else (laws_FnGjStringAt.l1 k x0 x52 x53 (wrap64 (x54 + 1))))) else (some false)) else (none)) else (none)) else (none)) else (some false)) else (some false))) else (none)) else (none)) else (some true)
end
def laws_FnGjStringAt.f (k : Nat) (a0 : ByteArray) : Option (Bool) := if (a0.size : Int) > 2147483647 then (some true) else ((spec_Places.f k a0).bind fun bt304 => (if bt304.2.2.2.2.2 = true then (laws_FnGjStringAt.j0 k a0 (decide ((a0.size : Int) > 4096)) bt304.1 bt304.2.1 bt304.2.2.1 bt304.2.2.2.1 bt304.2.2.2.2.1) else (laws_FnGjStringAt.j0 k a0 true bt304.1 bt304.2.1 bt304.2.2.1 bt304.2.2.2.1 bt304.2.2.2.2.1)))
theorem laws_FnGjStringAt.mono_l : ∀ k, (∀ y0 y1 y2 y3 y4 y5 y6, LeO (laws_FnGjStringAt.j0 k y0 y1 y2 y3 y4 y5 y6) (laws_FnGjStringAt.j0 (k + 1) y0 y1 y2 y3 y4 y5 y6)) ∧ (∀ y0 y1 y2 y3 y4, LeO (laws_FnGjStringAt.l0 k y0 y1 y2 y3 y4) (laws_FnGjStringAt.l0 (k + 1) y0 y1 y2 y3 y4)) ∧ (∀ y0 y1 y2 y3, LeO (laws_FnGjStringAt.l1 k y0 y1 y2 y3) (laws_FnGjStringAt.l1 (k + 1) y0 y1 y2 y3))
  | 0 => ⟨fun _ _ _ _ _ _ _ r h => by simp [laws_FnGjStringAt.j0] at h, fun _ _ _ _ _ r h => by simp [laws_FnGjStringAt.l0] at h, fun _ _ _ _ r h => by simp [laws_FnGjStringAt.l1] at h⟩
  | k + 1 => by
    obtain ⟨ih0, ih1, ih2⟩ := laws_FnGjStringAt.mono_l k
    refine ⟨?_, ?_, ?_⟩
    · intro y0 y1 y2 y3 y4 y5 y6
      unfold laws_FnGjStringAt.j0
      repeat' first
      | (with_reducible exact ih0 _ _ _ _ _ _ _)
      | (with_reducible exact ih1 _ _ _ _ _)
      | (with_reducible exact ih2 _ _ _ _)
      | (with_reducible exact impl_GjStringAt.mono _ _ _)
      | (with_reducible exact spec_All.mono _ _ _ _ _ _)
      | (with_reducible exact spec_Escaped.mono _ _)
      | (with_reducible exact spec_Places.mono _ _)
      | (with_reducible exact LeO.refl _)
      | (with_reducible exact LeO.none _)
      | (with_reducible refine LeO.ite ?_ ?_)
      | (with_reducible refine LeO.bind ?_ (fun _ => ?_))
      | exact ih0 _ _ _ _ _ _ _
      | exact ih1 _ _ _ _ _
      | exact ih2 _ _ _ _
      | exact impl_GjStringAt.mono _ _ _
      | exact spec_All.mono _ _ _ _ _ _
      | exact spec_Escaped.mono _ _
      | exact spec_Places.mono _ _
      | exact LeO.none _
      | refine LeO.ite ?_ ?_
      | refine LeO.bind ?_ (fun _ => ?_)
    · intro y0 y1 y2 y3 y4
      unfold laws_FnGjStringAt.l0
      repeat' first
      | (with_reducible exact ih0 _ _ _ _ _ _ _)
      | (with_reducible exact ih1 _ _ _ _ _)
      | (with_reducible exact ih2 _ _ _ _)
      | (with_reducible exact impl_GjStringAt.mono _ _ _)
      | (with_reducible exact spec_All.mono _ _ _ _ _ _)
      | (with_reducible exact spec_Escaped.mono _ _)
      | (with_reducible exact spec_Places.mono _ _)
      | (with_reducible exact LeO.refl _)
      | (with_reducible exact LeO.none _)
      | (with_reducible refine LeO.ite ?_ ?_)
      | (with_reducible refine LeO.bind ?_ (fun _ => ?_))
      | exact ih0 _ _ _ _ _ _ _
      | exact ih1 _ _ _ _ _
      | exact ih2 _ _ _ _
      | exact impl_GjStringAt.mono _ _ _
      | exact spec_All.mono _ _ _ _ _ _
      | exact spec_Escaped.mono _ _
      | exact spec_Places.mono _ _
      | exact LeO.none _
      | refine LeO.ite ?_ ?_
      | refine LeO.bind ?_ (fun _ => ?_)
    · intro y0 y1 y2 y3
      unfold laws_FnGjStringAt.l1
      repeat' first
      | (with_reducible exact ih0 _ _ _ _ _ _ _)
      | (with_reducible exact ih1 _ _ _ _ _)
      | (with_reducible exact ih2 _ _ _ _)
      | (with_reducible exact impl_GjStringAt.mono _ _ _)
      | (with_reducible exact spec_All.mono _ _ _ _ _ _)
      | (with_reducible exact spec_Escaped.mono _ _)
      | (with_reducible exact spec_Places.mono _ _)
      | (with_reducible exact LeO.refl _)
      | (with_reducible exact LeO.none _)
      | (with_reducible refine LeO.ite ?_ ?_)
      | (with_reducible refine LeO.bind ?_ (fun _ => ?_))
      | exact ih0 _ _ _ _ _ _ _
      | exact ih1 _ _ _ _ _
      | exact ih2 _ _ _ _
      | exact impl_GjStringAt.mono _ _ _
      | exact spec_All.mono _ _ _ _ _ _
      | exact spec_Escaped.mono _ _
      | exact spec_Places.mono _ _
      | exact LeO.none _
      | refine LeO.ite ?_ ?_
      | refine LeO.bind ?_ (fun _ => ?_)
theorem laws_FnGjStringAt.mono : ∀ a0 k, LeO (laws_FnGjStringAt.f k a0) (laws_FnGjStringAt.f (k + 1) a0) := by
  intro a0 k
  obtain ⟨ih0, ih1, ih2⟩ := laws_FnGjStringAt.mono_l k
  unfold laws_FnGjStringAt.f
  repeat' first
      | (with_reducible exact ih0 _ _ _ _ _ _ _)
      | (with_reducible exact ih1 _ _ _ _ _)
      | (with_reducible exact ih2 _ _ _ _)
      | (with_reducible exact impl_GjStringAt.mono _ _ _)
      | (with_reducible exact spec_All.mono _ _ _ _ _ _)
      | (with_reducible exact spec_Escaped.mono _ _)
      | (with_reducible exact spec_Places.mono _ _)
      | (with_reducible exact LeO.refl _)
      | (with_reducible exact LeO.none _)
      | (with_reducible refine LeO.ite ?_ ?_)
      | (with_reducible refine LeO.bind ?_ (fun _ => ?_))
      | exact ih0 _ _ _ _ _ _ _
      | exact ih1 _ _ _ _ _
      | exact ih2 _ _ _ _
      | exact impl_GjStringAt.mono _ _ _
      | exact spec_All.mono _ _ _ _ _ _
      | exact spec_Escaped.mono _ _
      | exact spec_Places.mono _ _
      | exact LeO.none _
      | refine LeO.ite ?_ ?_
      | refine LeO.bind ?_ (fun _ => ?_)
set_option maxHeartbeats 8000000 in
set_option maxRecDepth 100000 in
theorem laws_FnGjStringAt.calls (k : Nat) (a0 : ByteArray) (r : Bool) (w : World) (h : laws_FnGjStringAt.f k a0 = some r) :
    Calls Try.prog 5 #[.string a0] w fun e w' => e = .returned (.bool r) ∧ Below w.heap.size w w' := by
  have hu32 := Try.underlying32
  have hu37 := Try.underlying37
  have HB := Aside0.mk (Below.refl w.heap.size w)
  have H : (if (a0.size : Int) > 2147483647 then (some true) else ((spec_Places.f k a0).bind fun bt304 => (if bt304.2.2.2.2.2 = true then (laws_FnGjStringAt.j0 k a0 (decide ((a0.size : Int) > 4096)) bt304.1 bt304.2.1 bt304.2.2.1 bt304.2.2.2.1 bt304.2.2.2.2.1) else (laws_FnGjStringAt.j0 k a0 true bt304.1 bt304.2.1 bt304.2.2.1 bt304.2.2.2.1 bt304.2.2.2.2.1)))) = some r := h
  clear h
  by_cases c2 : (a0.size : Int) > 2147483647
  · rw [if_pos c2] at H
    have c2b0 : decide (2147483647 < (a0.size : Int)) = true := decide_eq_true c2
    have c2b1 : decide (2147483647 < a0.size) = true := decide_eq_true (by omega)
    clear c2
    obtain rfl := Option.some.inj H
    go_enter Try.func5, Try.ntmps5
    go_wp2
    go_ret
    exact ⟨by first | rfl | (simp [errW_none, errW_some] <;> rfl) | (simp [*, errW_none, errW_some] <;> rfl), by repeat (first | (with_reducible first | exact HB.out | apply below_alloc | apply pw_below_drewN | apply below_drew1) | exact HB.out)⟩
  · rw [if_neg c2] at H
    have c2b0 : decide (2147483647 < (a0.size : Int)) = false := decide_eq_false c2
    have c2b1 : decide (2147483647 < a0.size) = false := decide_eq_false (by omega)
    clear c2
    replace H := Option.bind_eq_some_iff.mp H
    obtain ⟨⟨t304, t305, t306, t307, t310, t313⟩, A30, H⟩ := H
    replace H : (if t313 = true then (laws_FnGjStringAt.j0 k a0 (decide ((a0.size : Int) > 4096)) t304 t305 t306 t307 t310) else (laws_FnGjStringAt.j0 k a0 true t304 t305 t306 t307 t310)) = some r := H
    have A3 := Aside0.mk A30
    clear A30
    have HC4 := Aside0.mk H
    clear H
    go_enter Try.func5, Try.ntmps5
    go_upto_region 4 with (first | ((with_reducible refine gate_callee (f := 12) rfl ?_); refine goesL_ (some 19) rfl rfl Try.func12 (by kernel_rfl) rfl #[.string a0] rfl (by (try simp only [List.map_toArray, List.map_cons, List.map_nil]); first | done | rfl | (simp only [List.length_drop, List.length_take]; rfl)) ?_; (with_reducible refine (spec_Places.calls k a0 t304 t305 t306 t307 t310 t313 _ A3.out).mono ?_); rintro e w5 ⟨v308, v311, rfl, ho0, ho1, hb⟩; refine ⟨_, rfl, ?_⟩; have n0_ := Aside0.mk (Kd.R_lower ho0 (below_size (by repeat (first | (with_reducible first | exact HB.out | apply below_alloc | apply pw_below_drewN | apply below_drew1) | exact HB.out)))); have n1_ := Aside0.mk (Kd.N_lower (Kd.N_mono (ok' := fun k_ => some k_ ≠ (v308 : Value).ownBlock) (Kd.R_N (Kd.R_bound ho1)) (fun k_ hk_ => hk_.1)) (below_size (by repeat (first | (with_reducible first | exact HB.out | apply below_alloc | apply pw_below_drewN | apply below_drew1) | exact HB.out)))); have n2_ := Aside0.mk (below_step (by repeat (first | (with_reducible first | exact HB.out | apply below_alloc | apply pw_below_drewN | apply below_drew1) | exact HB.out)) hb); clear HB; have HO309 := n0_; have HO312 := n1_; have HB := n2_; clear n0_ n1_ n2_; (try clear hb); (try clear hb2); (try clear hk); (try clear hi); (try clear ho0); (try clear ho1)) | ((with_reducible refine gate_dst (N := 3) rfl ?_); (try (refine gate_guard (by rfl) ?_; dsimp only)); refine box_event ?hg (N := 3) ?hd (cs := #[.int .i64 0, .int .i64 0, .int .i64 0, .slice none 0 0, .slice none 0 0]) (t := 32) ?hr ?_; (case hd => rfl); (case hg => rfl); (case hr => first | (go_simp; done) | (go_simp; rfl)); intro gb314 hg w6 hbox hb; have n0_ := Aside0.mk (Kd.R_below (by (with_reducible repeat (first | apply Kd.R_alloc | apply Kd.R_drewN | apply Kd.R_drew)); exact HO309.out) hb); have n1_ := Aside0.mk (Kd.N_below (Kd.N_elderB (by (with_reducible repeat (first | apply Kd.N_alloc | apply Kd.N_drewN | apply Kd.N_drew)); exact HO312.out) gb314 (Nat.le_of_eq hg.symm)) hb); have n2_ := Aside0.mk (below_step (by repeat (first | (with_reducible first | exact HB.out | apply below_alloc | apply pw_below_drewN | apply below_drew1) | exact HB.out)) hb); have n3_ := Aside0.mk (hbox); have n4_ := Aside0.mk ((by rw [hg]; exact (below_size (by repeat (first | (with_reducible first | exact HB.out | apply below_alloc | apply pw_below_drewN | apply below_drew1) | exact HB.out))) : w.heap.size ≤ gb314)); have n5_ := Aside0.mk ((by rw [hg]; exact (below_size (by repeat (first | (with_reducible first | exact HB.out | apply below_alloc | apply pw_below_drewN | apply below_drew1) | exact HB.out))) : w.heap.size ≤ gb314)); clear HO309; clear HO312; clear HB; have HO309 := n0_; have HO312 := n1_; have HB := n2_; have BK314 := n3_; have GW314 := n4_; have GE314 := n5_; clear n0_ n1_ n2_ n3_ n4_ n5_; clear hb hbox hg; have hcz7_0 : w6.cell? ⟨gb314, 0, none⟩ = some (.int .i64 0) := (blk_cell BK314.out 0).trans rfl; have hcz7_1 : w6.cell? ⟨gb314, 1, none⟩ = some (.int .i64 0) := (blk_cell BK314.out 1).trans rfl; have hcz7_2 : w6.cell? ⟨gb314, 2, none⟩ = some (.int .i64 0) := (blk_cell BK314.out 2).trans rfl; have hcz7_3 : w6.cell? ⟨gb314, 3, none⟩ = some (.slice none 0 0) := (blk_cell BK314.out 3).trans rfl; have hcz7_4 : w6.cell? ⟨gb314, 4, none⟩ = some (.slice none 0 0) := (blk_cell BK314.out 4).trans rfl; have hfz7_0 := blk_frozen BK314.out 0; have hfz7_1 := blk_frozen BK314.out 1; have hfz7_2 := blk_frozen BK314.out 2; have hfz7_3 := blk_frozen BK314.out 3; have hfz7_4 := blk_frozen BK314.out 4; obtain ⟨Ao8, co8, eo8⟩ := Kd.R_slice HO309.out; subst eo8; obtain ⟨Ao9, co9, eo9⟩ := Kd.N_slice HO312.out; subst eo9))
    (try simp only [Act.put, List.setIfInBounds_toArray, List.set_cons_zero, List.set_cons_succ])
    go_cut [28] (fun v28 wc => ∃ (kq : Nat) (x28_3 : Bool), v28 = .bool x28_3 ∧ Aside0 (laws_FnGjStringAt.j0 kq a0 x28_3 t304 t305 t306 t307 t310 = some r) ∧ Aside0 (kq ≤ k) ∧ Aside0 (Kd.R k37 37 wc w.heap.size (fun _ => True) (.slice Ao8 t307.length co8) t307) ∧ Aside0 (Kd.N k32 32 wc w.heap.size (fun k_ => some k_ ≠ ((.slice Ao8 t307.length co8) : Value).ownBlock ∧ k_ ≠ gb314) (.slice Ao9 t310.length co9) t310) ∧ Aside0 (wc.heap[gb314]? = some (.cells #[.int .i64 t304, .int .i64 t305, .int .i64 t306, (.slice Ao8 t307.length co8), (.slice Ao9 t310.length co9)] 32 (0, 0))) ∧ Aside0 (Below w.heap.size w wc))
    case first =>
      have H := HC4.out
      clear HC4
      by_cases c10 : t313 = true
      · subst c10
        have H1 : (laws_FnGjStringAt.j0 k a0 (decide ((a0.size : Int) > 4096)) t304 t305 t306 t307 t310) = some r := by rw [if_pos rfl] at H; exact H
        clear H
        have H := H1
        clear H1
        have H' := Aside0.mk H
        clear H
        go_wp2
        go_meet
        case rel => exact ⟨_, (decide ((a0.size : Int) > 4096)), (by first | rfl | (simp; done) | (simp [*]; done)), H', ⟨by first | omega | exact Nat.le_refl _⟩, ⟨by (with_reducible repeat (first | apply Kd.R_alloc | apply Kd.R_drewN | apply Kd.R_drew)); exact Kd.R_mono (Kd.R_far (p := ⟨gb314, 4, none⟩) (Kd.R_far (p := ⟨gb314, 3, none⟩) (Kd.R_far (p := ⟨gb314, 2, none⟩) (Kd.R_far (p := ⟨gb314, 1, none⟩) (Kd.R_far (p := ⟨gb314, 0, none⟩) (Kd.R_types HO309.out BK314.out (by decide)) (fun _ hk => hk.2) (.int .i64 t304)) (fun _ hk => hk.2) (.int .i64 t305)) (fun _ hk => hk.2) (.int .i64 t306)) (fun _ hk => hk.2) (.slice Ao8 t307.length co8)) (fun _ hk => hk.2) (.slice Ao9 t310.length co9)) (fun _ hk => trivial)⟩, ⟨by (with_reducible repeat (first | apply Kd.N_alloc | apply Kd.N_drewN | apply Kd.N_drew)); exact Kd.N_mono (Kd.N_far (p := ⟨gb314, 4, none⟩) (Kd.N_far (p := ⟨gb314, 3, none⟩) (Kd.N_far (p := ⟨gb314, 2, none⟩) (Kd.N_far (p := ⟨gb314, 1, none⟩) (Kd.N_far (p := ⟨gb314, 0, none⟩) (Kd.N_mono HO312.out (fun k_ hk => (⟨hk, hk.2⟩ : _ ∧ k_ ≠ gb314))) (fun _ hk => hk.2) (.int .i64 t304)) (fun _ hk => hk.2) (.int .i64 t305)) (fun _ hk => hk.2) (.int .i64 t306)) (fun _ hk => hk.2) (.slice Ao8 t307.length co8)) (fun _ hk => hk.2) (.slice Ao9 t310.length co9)) (fun _ hk => ⟨hk.1.1, hk.1.2⟩)⟩, ⟨by (with_reducible repeat (first | refine blk_drewN ?_ _ | refine blk_drew ?_ | refine blk_alloc ?_ _)); refine blk_put (cs := #[.int .i64 t304, .int .i64 t305, .int .i64 t306, .slice Ao8 t307.length co8, .slice none 0 0]) ?_ 4 _ rfl; (with_reducible repeat (first | refine blk_drewN ?_ _ | refine blk_drew ?_ | refine blk_alloc ?_ _)); refine blk_put (cs := #[.int .i64 t304, .int .i64 t305, .int .i64 t306, .slice none 0 0, .slice none 0 0]) ?_ 3 _ rfl; (with_reducible repeat (first | refine blk_drewN ?_ _ | refine blk_drew ?_ | refine blk_alloc ?_ _)); refine blk_put (cs := #[.int .i64 t304, .int .i64 t305, .int .i64 0, .slice none 0 0, .slice none 0 0]) ?_ 2 _ rfl; (with_reducible repeat (first | refine blk_drewN ?_ _ | refine blk_drew ?_ | refine blk_alloc ?_ _)); refine blk_put (cs := #[.int .i64 t304, .int .i64 0, .int .i64 0, .slice none 0 0, .slice none 0 0]) ?_ 1 _ rfl; (with_reducible repeat (first | refine blk_drewN ?_ _ | refine blk_drew ?_ | refine blk_alloc ?_ _)); refine blk_put (cs := #[.int .i64 0, .int .i64 0, .int .i64 0, .slice none 0 0, .slice none 0 0]) ?_ 0 _ rfl; (with_reducible repeat (first | refine blk_drewN ?_ _ | refine blk_drew ?_ | refine blk_alloc ?_ _)); exact BK314.out⟩, ⟨by repeat (first | (with_reducible first | exact HB.out | apply below_alloc | apply pw_below_drewN | apply below_drew1 | refine below_set ?_ GE314.out) | exact HB.out)⟩⟩
      · replace c10 := Bool.eq_false_iff.mpr c10
        subst c10
        have H1 : (laws_FnGjStringAt.j0 k a0 true t304 t305 t306 t307 t310) = some r := by rw [if_neg (show ¬ (false = true) by decide)] at H; exact H
        clear H
        have H := H1
        clear H1
        have H' := Aside0.mk H
        clear H
        go_wp2
        go_meet
        case rel => exact ⟨_, (true), (by first | rfl | (simp; done) | (simp [*]; done)), H', ⟨by first | omega | exact Nat.le_refl _⟩, ⟨by (with_reducible repeat (first | apply Kd.R_alloc | apply Kd.R_drewN | apply Kd.R_drew)); exact Kd.R_mono (Kd.R_far (p := ⟨gb314, 4, none⟩) (Kd.R_far (p := ⟨gb314, 3, none⟩) (Kd.R_far (p := ⟨gb314, 2, none⟩) (Kd.R_far (p := ⟨gb314, 1, none⟩) (Kd.R_far (p := ⟨gb314, 0, none⟩) (Kd.R_types HO309.out BK314.out (by decide)) (fun _ hk => hk.2) (.int .i64 t304)) (fun _ hk => hk.2) (.int .i64 t305)) (fun _ hk => hk.2) (.int .i64 t306)) (fun _ hk => hk.2) (.slice Ao8 t307.length co8)) (fun _ hk => hk.2) (.slice Ao9 t310.length co9)) (fun _ hk => trivial)⟩, ⟨by (with_reducible repeat (first | apply Kd.N_alloc | apply Kd.N_drewN | apply Kd.N_drew)); exact Kd.N_mono (Kd.N_far (p := ⟨gb314, 4, none⟩) (Kd.N_far (p := ⟨gb314, 3, none⟩) (Kd.N_far (p := ⟨gb314, 2, none⟩) (Kd.N_far (p := ⟨gb314, 1, none⟩) (Kd.N_far (p := ⟨gb314, 0, none⟩) (Kd.N_mono HO312.out (fun k_ hk => (⟨hk, hk.2⟩ : _ ∧ k_ ≠ gb314))) (fun _ hk => hk.2) (.int .i64 t304)) (fun _ hk => hk.2) (.int .i64 t305)) (fun _ hk => hk.2) (.int .i64 t306)) (fun _ hk => hk.2) (.slice Ao8 t307.length co8)) (fun _ hk => hk.2) (.slice Ao9 t310.length co9)) (fun _ hk => ⟨hk.1.1, hk.1.2⟩)⟩, ⟨by (with_reducible repeat (first | refine blk_drewN ?_ _ | refine blk_drew ?_ | refine blk_alloc ?_ _)); refine blk_put (cs := #[.int .i64 t304, .int .i64 t305, .int .i64 t306, .slice Ao8 t307.length co8, .slice none 0 0]) ?_ 4 _ rfl; (with_reducible repeat (first | refine blk_drewN ?_ _ | refine blk_drew ?_ | refine blk_alloc ?_ _)); refine blk_put (cs := #[.int .i64 t304, .int .i64 t305, .int .i64 t306, .slice none 0 0, .slice none 0 0]) ?_ 3 _ rfl; (with_reducible repeat (first | refine blk_drewN ?_ _ | refine blk_drew ?_ | refine blk_alloc ?_ _)); refine blk_put (cs := #[.int .i64 t304, .int .i64 t305, .int .i64 0, .slice none 0 0, .slice none 0 0]) ?_ 2 _ rfl; (with_reducible repeat (first | refine blk_drewN ?_ _ | refine blk_drew ?_ | refine blk_alloc ?_ _)); refine blk_put (cs := #[.int .i64 t304, .int .i64 0, .int .i64 0, .slice none 0 0, .slice none 0 0]) ?_ 1 _ rfl; (with_reducible repeat (first | refine blk_drewN ?_ _ | refine blk_drew ?_ | refine blk_alloc ?_ _)); refine blk_put (cs := #[.int .i64 0, .int .i64 0, .int .i64 0, .slice none 0 0, .slice none 0 0]) ?_ 0 _ rfl; (with_reducible repeat (first | refine blk_drewN ?_ _ | refine blk_drew ?_ | refine blk_alloc ?_ _)); exact BK314.out⟩, ⟨by repeat (first | (with_reducible first | exact HB.out | apply below_alloc | apply pw_below_drewN | apply below_drew1 | refine below_set ?_ GE314.out) | exact HB.out)⟩⟩
    case rest =>
      clear HC4
      try clear c1
      try clear c2
      try clear c2b0
      try clear c2b1
      try clear p2
      try clear c5
      try clear c10
      try clear hcz7_0
      try clear hcz7_1
      try clear hcz7_2
      try clear hcz7_3
      try clear hcz7_4
      try clear hfz7_0
      try clear hfz7_1
      try clear hfz7_2
      try clear hfz7_3
      try clear hfz7_4
      obtain ⟨kq, x28_3, rfl, HA, HJ3, HO_315003, HO_315004, BK314, HB⟩ := hcut
      cases kq with
      | zero => exact absurd HA.out (by simp [laws_FnGjStringAt.j0])
      | succ kj3 =>
        have H := HA.out
        clear HA
        simp only [laws_FnGjStringAt.j0] at H
        by_cases c11 : x28_3 = true
        · subst c11
          have H1 : (some true) = some r := by rw [if_pos rfl] at H; exact H
          clear H
          have H := H1
          clear H1
          obtain rfl := Option.some.inj H
          go_wp2
          go_ret
          exact ⟨by first | rfl | (simp [errW_none, errW_some] <;> rfl) | (simp [*, errW_none, errW_some] <;> rfl), by repeat (first | (with_reducible first | exact HB.out | apply below_alloc | apply pw_below_drewN | apply below_drew1 | refine below_set ?_ GE314.out) | exact HB.out)⟩
        · replace c11 := Bool.eq_false_iff.mpr c11
          subst c11
          have H1 : ((spec_All.f kj3 t304 t305 t306 t307 t310).bind fun t315 => (laws_FnGjStringAt.l0 kj3 a0 ([] : List (S37)) t315 (t315.length : Int) 0)) = some r := by rw [if_neg (show ¬ (false = true) by decide)] at H; exact H
          clear H
          have H := H1
          clear H1
          replace H := Option.bind_eq_some_iff.mp H
          obtain ⟨t315, A120, H⟩ := H
          replace H : (laws_FnGjStringAt.l0 kj3 a0 ([] : List (S37)) t315 (t315.length : Int) 0) = some r := H
          have A12 := Aside0.mk A120
          clear A120
          have H' := Aside0.mk H
          clear H
          have hcz13_0 : wc.cell? ⟨gb314, 0, none⟩ = some (.int .i64 t304) := (blk_cell BK314.out 0).trans rfl
          have hcz13_1 : wc.cell? ⟨gb314, 1, none⟩ = some (.int .i64 t305) := (blk_cell BK314.out 1).trans rfl
          have hcz13_2 : wc.cell? ⟨gb314, 2, none⟩ = some (.int .i64 t306) := (blk_cell BK314.out 2).trans rfl
          have hcz13_3 : wc.cell? ⟨gb314, 3, none⟩ = some (.slice Ao8 t307.length co8) := (blk_cell BK314.out 3).trans rfl
          have hcz13_4 : wc.cell? ⟨gb314, 4, none⟩ = some (.slice Ao9 t310.length co9) := (blk_cell BK314.out 4).trans rfl
          have hfz13_0 := blk_frozen BK314.out 0
          have hfz13_1 := blk_frozen BK314.out 1
          have hfz13_2 := blk_frozen BK314.out 2
          have hfz13_3 := blk_frozen BK314.out 3
          have hfz13_4 := blk_frozen BK314.out 4
          go_wp2_with (first | ((with_reducible refine gate_callee (f := 13) rfl ?_); refine goesL_ (some 30) rfl rfl Try.func13 (by kernel_rfl) rfl #[.agg #[.int .i64 t304, .int .i64 t305, .int .i64 t306, .slice Ao8 t307.length co8, .slice Ao9 t310.length co9]] rfl (by (try simp only [List.map_toArray, List.map_cons, List.map_nil]); first | done | rfl | (simp only [List.length_drop, List.length_take]; rfl)) ?_; (with_reducible refine (spec_All.calls kj3 t304 t305 t306 (fun k_ => some k_ = (.slice Ao8 t307.length co8 : Value).ownBlock) _ _ t307 (fun k_ => (some k_ ≠ (.slice Ao8 t307.length co8 : Value).ownBlock ∧ k_ ≠ gb314)) _ _ t310 t315 _ ?side1 ?side2 A12.out).mono ?_); (case side1 => exact Kd.R_V (Kd.R_tight rfl (Kd.R_types (Kd.R_apart' (HO_315003.out) (Kd.N_typed HO_315004.out) (by decide)) BK314.out (by decide)))); (case side2 => exact Kd.N_V (HO_315004.out)); rintro e w14 ⟨v316, rfl, ho0, hb⟩; refine ⟨_, rfl, ?_⟩; have n0_ := Aside0.mk (Kd.R_below (by (with_reducible repeat (first | apply Kd.R_alloc | apply Kd.R_drewN | apply Kd.R_drew)); exact HO_315003.out) hb); have n1_ := Aside0.mk (Kd.N_elder' (by (with_reducible repeat (first | apply Kd.N_alloc | apply Kd.N_drewN | apply Kd.N_drew)); exact HO_315004.out) (Kd.N_base ho0) hb); have n2_ := Aside0.mk (Kd.N_lower (Kd.N_mono (ok' := fun k_ => k_ ≠ gb314) ho0 (fun k_ hk_ => Or.elim hk_ (fun hs_ => Or.elim hs_ (fun hs_ => ((Kd.R_types (Kd.R_apart' (HO_315003.out) (Kd.N_typed HO_315004.out) (by decide)) BK314.out (by decide)).1 k_ hs_.symm).2) (fun hs_ => hs_.2)) (fun hn_ => (Kd.freshB (g := gb314) (o := .cells #[.int .i64 t304, .int .i64 t305, .int .i64 t306, .slice Ao8 t307.length co8, .slice Ao9 t310.length co9] 32 (0, 0)) (by (with_reducible repeat (first | refine blk_drewN ?_ _ | refine blk_drew ?_ | refine blk_alloc ?_ _)); exact BK314.out) k_ hn_)))) (below_size (by repeat (first | (with_reducible first | exact HB.out | apply below_alloc | apply pw_below_drewN | apply below_drew1 | refine below_set ?_ GE314.out) | exact HB.out)))); have n3_ := Aside0.mk (blk_below (g := gb314) (o := .cells #[.int .i64 t304, .int .i64 t305, .int .i64 t306, .slice Ao8 t307.length co8, .slice Ao9 t310.length co9] 32 (0, 0)) (by (with_reducible repeat (first | refine blk_drewN ?_ _ | refine blk_drew ?_ | refine blk_alloc ?_ _)); exact BK314.out) hb); have n4_ := Aside0.mk (below_step (by repeat (first | (with_reducible first | exact HB.out | apply below_alloc | apply pw_below_drewN | apply below_drew1 | refine below_set ?_ GE314.out) | exact HB.out)) hb); clear HO_315003; clear HO_315004; clear BK314; clear HB; have HO_315003 := n0_; have HO_315004 := n1_; have HO317 := n2_; have BK314 := n3_; have HB := n4_; clear n0_ n1_ n2_ n3_ n4_; (try clear hb); (try clear hb2); (try clear hk); (try clear hi); (try clear ho0); obtain ⟨Ao15, co15, eo15⟩ := Kd.N_slice HO317.out; subst eo15))
          (try simp only [Act.put, List.setIfInBounds_toArray, List.set_cons_zero, List.set_cons_succ])
          go_loopg [5, 32] kj3 (fun kq v5 v32 w' => ∃ (x5_2 : List (S37)) (x32_2 : Int), v32 = .int .i64 x32_2 ∧ Aside0 (laws_FnGjStringAt.l0 kq a0 x5_2 t315 (t315.length : Int) x32_2 = some r) ∧ Aside0 (kq ≤ kj3) ∧ Aside0 (Kd.R k37 37 w' w.heap.size (fun k_ => some k_ ≠ ((.slice Ao8 t307.length co8) : Value).ownBlock) v5 x5_2) ∧ Aside0 (Kd.N k32 32 w' w.heap.size (fun k_ => some k_ ≠ (v5 : Value).ownBlock ∧ k_ ≠ gb314) (.slice Ao15 t315.length co15) t315) ∧ Aside0 (Kd.R k37 37 w' w.heap.size (fun k_ => some k_ ≠ (v5 : Value).ownBlock) (.slice Ao8 t307.length co8) t307) ∧ Aside0 (Kd.N k32 32 w' w.heap.size (fun k_ => some k_ ≠ (v5 : Value).ownBlock ∧ some k_ ≠ ((.slice Ao15 t315.length co15) : Value).ownBlock ∧ some k_ ≠ ((.slice Ao8 t307.length co8) : Value).ownBlock ∧ k_ ≠ gb314) (.slice Ao9 t310.length co9) t310) ∧ Aside0 (w'.heap[gb314]? = some (.cells #[.int .i64 t304, .int .i64 t305, .int .i64 t306, (.slice Ao8 t307.length co8), (.slice Ao9 t310.length co9)] 32 (0, 0))) ∧ Aside0 (Below w.heap.size w w'))
          case atStart => exact ⟨(([] : List (S37))), (0), (by first | rfl | (simp; done) | (simp [*]; done)), H', ⟨Nat.le_refl _⟩, ⟨by first | exact Kd.R_nil _ _ _ _ _ | exact Kd.N_nil _ _ _ _ _ | exact Kd.V_nil _ _ _ _ _ | exact Kd.Q_nil _ _ _ _ _ | exact Kd.S_nil _ _ _ _ _⟩, ⟨by (with_reducible repeat (first | apply Kd.N_alloc | apply Kd.N_drewN | apply Kd.N_drew)); exact Kd.N_mono HO317.out (fun _ hk => ⟨(by simp [Value.ownBlock]), hk⟩)⟩, ⟨by (with_reducible repeat (first | apply Kd.R_alloc | apply Kd.R_drewN | apply Kd.R_drew)); exact Kd.R_mono HO_315003.out (fun _ hk => (by simp [Value.ownBlock]))⟩, ⟨by (with_reducible repeat (first | apply Kd.N_alloc | apply Kd.N_drewN | apply Kd.N_drew)); exact Kd.N_mono HO_315004.out (fun _ hk => ⟨(by simp [Value.ownBlock]), ⟨hk.2, ⟨hk.1.1, hk.1.2⟩⟩⟩)⟩, ⟨by (with_reducible repeat (first | refine blk_drewN ?_ _ | refine blk_drew ?_ | refine blk_alloc ?_ _)); exact BK314.out⟩, ⟨by repeat (first | (with_reducible first | exact HB.out | apply below_alloc | apply pw_below_drewN | apply below_drew1 | refine below_set ?_ GE314.out) | exact HB.out)⟩⟩
          case round =>
            clear H'
            try clear c1
            try clear c2
            try clear c2b0
            try clear c2b1
            try clear p2
            try clear c5
            try clear c10
            try clear c11
            try clear c12
            try clear c13
            try clear hcz13_0
            try clear hcz13_1
            try clear hcz13_2
            try clear hcz13_3
            try clear hcz13_4
            try clear hcz7_0
            try clear hcz7_1
            try clear hcz7_2
            try clear hcz7_3
            try clear hcz7_4
            try clear hfz13_0
            try clear hfz13_1
            try clear hfz13_2
            try clear hfz13_3
            try clear hfz13_4
            try clear hfz7_0
            try clear hfz7_1
            try clear hfz7_2
            try clear hfz7_3
            try clear hfz7_4
            try clear p2
            obtain ⟨x5_2, x32_2, rfl, HA, HK2, HO_5, HO_30, HO_315003, HO_315004, BK314, HB⟩ := hrel
            cases gk with
            | zero => exact absurd HA.out (by simp [laws_FnGjStringAt.l0])
            | succ k2 =>
              have H := HA.out
              clear HA
              simp only [laws_FnGjStringAt.l0] at H
              by_cases c16 : x32_2 < (t315.length : Int)
              · rw [if_pos c16] at H
                have c16b0 : decide (x32_2 < (t315.length : Int)) = true := decide_eq_true c16
                clear c16
                by_cases c17 : 0 ≤ x32_2
                · rw [if_pos c17] at H
                  have c17b0 : decide (0 ≤ x32_2) = true := decide_eq_true c17
                  clear c17
                  by_cases c18 : x32_2 < (t315.length : Int)
                  · rw [if_pos c18] at H
                    have c18b0 : decide (x32_2 < (t315.length : Int)) = true := decide_eq_true c18
                    clear c18
                    by_cases c19 : x5_2.length + ((rd_T32 t315 x32_2).f3).length < 8796093022208
                    · rw [if_pos c19] at H
                      have LMc19 := Aside0.mk c19
                      clear c19
                      obtain ⟨y320, hy320⟩ : ∃ y_ : List (S37), y_ = (x5_2 ++ ((rd_T32 t315 x32_2).f3)) := ⟨_, rfl⟩
                      replace H : (if ((rd_T32 t315 x32_2).f0) = 4 then (if y320.length < 8796093022208 then (laws_FnGjStringAt.l0 k2 a0 (y320 ++ [(⟨(rd_T32 t315 x32_2).f1, (rd_T32 t315 x32_2).f2⟩ : S37)]) t315 (t315.length : Int) (wrap64 (x32_2 + 1))) else (none)) else (laws_FnGjStringAt.l0 k2 a0 y320 t315 (t315.length : Int) (wrap64 (x32_2 + 1)))) = some r := by first | (rw [hy320]; with_reducible exact H) | (have H2_ := (Option.bind_some _ _).symm.trans H; rw [hy320]; with_reducible exact H2_) | (have H2_ := (Option.bind_some _ _).symm.trans H; with_reducible exact H2_) | with_reducible exact H | (rw [hy320]; exact H) | exact H
                      have Ny320 := Aside0.mk hy320
                      clear hy320
                      by_cases c20 : ((rd_T32 t315 x32_2).f0) = 4
                      · rw [if_pos c20] at H
                        have c20b0 : (((rd_T32 t315 x32_2).f0) == 4) = true := beq_iff_eq.mpr c20
                        have c20b1 : (((rd_T32 t315 x32_2).f0) != 4) = false := bne_eq_false_iff_eq.mpr c20
                        clear c20
                        by_cases c21 : y320.length < 8796093022208
                        · rw [if_pos c21] at H
                          have LMc21 := Aside0.mk c21
                          clear c21
                          obtain ⟨y323, hy323⟩ : ∃ y_ : List (S37), y_ = (y320 ++ [(⟨(rd_T32 t315 x32_2).f1, (rd_T32 t315 x32_2).f2⟩ : S37)]) := ⟨_, rfl⟩
                          replace H : (laws_FnGjStringAt.l0 k2 a0 y323 t315 (t315.length : Int) (wrap64 (x32_2 + 1))) = some r := by first | (rw [hy323]; with_reducible exact H) | (have H2_ := (Option.bind_some _ _).symm.trans H; rw [hy323]; with_reducible exact H2_) | (have H2_ := (Option.bind_some _ _).symm.trans H; with_reducible exact H2_) | with_reducible exact H | (rw [hy323]; exact H) | exact H
                          have Ny323 := Aside0.mk hy323
                          clear hy323
                          have H' := Aside0.mk H
                          clear H
                          have p318 : 0 ≤ (x32_2 : Int) := of_decide_eq_true (by first | (with_reducible assumption) | assumption)
                          have q318 : x32_2 < (t315.length : Int) := of_decide_eq_true (by first | (with_reducible assumption) | assumption)
                          obtain ⟨ad318, A318_3, c318_3, A318_4, c318_4, e318, hx318_0, hx318_1, hx318_2, hx318_3, hx318_4, hl318_3, hi318_3, hl318_4, hi318_4⟩ := at_T32 (Kd.N_reads' HO_30.out).2.2 x32_2 p318 q318
                          cases e318
                          obtain ⟨ce318, hce318, hMe318, hcc318⟩ := Kd.N_get HO_30.out z32 x32_2 p318 (by first | exact q318 | exact of_decide_eq_true (by first | (with_reducible assumption) | assumption) | (have e_ := (Kd.N_reads' HO_30.out).1; omega))
                          obtain ⟨ua318_3, uc318_3, ua318_4, uc318_4, rfl, ul318_3, ge318_3, ul318_4, ge318_4⟩ := k32_openF hMe318
                          have hv318_3 := hcc318 3 _ rfl
                          rw [add_field _ _ 3 (by omega)] at hv318_3
                          replace hv318_3 := Option.some.inj (hv318_3.symm.trans hx318_3)
                          injection hv318_3 with hva_ hvn_ hvc_
                          rw [hva_] at ge318_3
                          rw [hvc_] at ul318_3
                          have HL318_3 := Aside0.mk (show Kd.V k37 37 _ w.heap.size _ _ ((rd_T32 t315 x32_2).f3) from Kd.V_mk ul318_3 ge318_3)
                          clear hva_ hvn_ hvc_ ge318_3 ul318_3
                          have hv318_4 := hcc318 4 _ rfl
                          rw [add_field _ _ 4 (by omega)] at hv318_4
                          replace hv318_4 := Option.some.inj (hv318_4.symm.trans hx318_4)
                          injection hv318_4 with hva_ hvn_ hvc_
                          rw [hva_] at ge318_4
                          rw [hvc_] at ul318_4
                          have HL318_4 := Aside0.mk (show Kd.V k32 32 _ w.heap.size _ _ ((rd_T32 t315 x32_2).f4) from Kd.V_mk ul318_4 ge318_4)
                          clear hva_ hvn_ hvc_ ge318_4 ul318_4
                          clear hcc318 hce318
                          have HR318_3 := Aside0.mk hi318_3
                          have HC318_3 := Aside0.mk hl318_3
                          clear hi318_3 hl318_3
                          have HR318_4 := Aside0.mk hi318_4
                          have HC318_4 := Aside0.mk hl318_4
                          clear hi318_4 hl318_4
                          replace p318 := eq_true p318
                          replace q318 := eq_true q318
                          go_wp2_with (first | ((with_reducible refine gate_dst (N := 7) rfl ?_); (try (refine gate_guard (by rfl) ?_; dsimp only)); refine box_event ?hg (N := 7) ?hd (cs := #[.int .i64 0, .int .i64 0, .int .i64 0, .slice none 0 0, .slice none 0 0]) (t := 32) ?hr ?_; (case hd => rfl); (case hg => rfl); (case hr => first | (go_simp; done) | (go_simp; rfl)); intro gb319 hg w22 hbox hb; have n0_ := Aside0.mk (Kd.R_below (by (with_reducible repeat (first | apply Kd.R_alloc | apply Kd.R_drewN | apply Kd.R_drew)); exact HO_5.out) hb); have n1_ := Aside0.mk (Kd.N_below (Kd.N_elderB (by (with_reducible repeat (first | apply Kd.N_alloc | apply Kd.N_drewN | apply Kd.N_drew)); exact HO_30.out) gb319 (Nat.le_of_eq hg.symm)) hb); have n2_ := Aside0.mk (Kd.R_below (by (with_reducible repeat (first | apply Kd.R_alloc | apply Kd.R_drewN | apply Kd.R_drew)); exact HO_315003.out) hb); have n3_ := Aside0.mk (Kd.N_below (Kd.N_elderB (by (with_reducible repeat (first | apply Kd.N_alloc | apply Kd.N_drewN | apply Kd.N_drew)); exact HO_315004.out) gb319 (Nat.le_of_eq hg.symm)) hb); have n4_ := Aside0.mk (Kd.V_below (Kd.V_elderB (by (with_reducible repeat (first | apply Kd.V_alloc | apply Kd.V_drewN | apply Kd.V_drew)); exact HL318_3.out) gb319 (Nat.le_of_eq hg.symm)) hb); have n5_ := Aside0.mk (Kd.V_below (Kd.V_elderB (by (with_reducible repeat (first | apply Kd.V_alloc | apply Kd.V_drewN | apply Kd.V_drew)); exact HL318_4.out) gb319 (Nat.le_of_eq hg.symm)) hb); have n6_ := Aside0.mk (blk_below (g := gb314) (o := .cells #[.int .i64 t304, .int .i64 t305, .int .i64 t306, .slice Ao8 t307.length co8, .slice Ao9 t310.length co9] 32 (0, 0)) (by (with_reducible repeat (first | refine blk_drewN ?_ _ | refine blk_drew ?_ | refine blk_alloc ?_ _)); exact BK314.out) hb); have n7_ := Aside0.mk (Kd.C_below (by repeat (first | (with_reducible exact HR318_3.out) | (with_reducible refine Kd.C_alloc ?_ _) | (with_reducible refine Kd.C_drewN ?_ _) | (with_reducible refine Kd.C_drew ?_) | exact HR318_3.out)) hb); have n8_ := Aside0.mk (Kd.C_below (by repeat (first | (with_reducible exact HR318_4.out) | (with_reducible refine Kd.C_alloc ?_ _) | (with_reducible refine Kd.C_drewN ?_ _) | (with_reducible refine Kd.C_drew ?_) | exact HR318_4.out)) hb); have n9_ := Aside0.mk (below_step (by repeat (first | (with_reducible first | exact HB.out | apply below_alloc | apply pw_below_drewN | apply below_drew1 | refine below_set ?_ GE314.out) | exact HB.out)) hb); have n10_ := Aside0.mk (hbox); have n11_ := Aside0.mk ((by rw [hg]; exact (below_size (by repeat (first | (with_reducible first | exact HB.out | apply below_alloc | apply pw_below_drewN | apply below_drew1 | refine below_set ?_ GE314.out) | exact HB.out))) : w.heap.size ≤ gb319)); have n12_ := Aside0.mk ((by rw [hg]; exact (below_size (by repeat (first | (with_reducible first | exact HB.out | apply below_alloc | apply pw_below_drewN | apply below_drew1 | refine below_set ?_ GE314.out) | exact HB.out))) : w.heap.size ≤ gb319)); have n13_ := Aside0.mk ((by rw [hg]; exact Nat.ne_of_lt (blk_lt (g := gb314) (o := .cells #[.int .i64 t304, .int .i64 t305, .int .i64 t306, .slice Ao8 t307.length co8, .slice Ao9 t310.length co9] 32 (0, 0)) (by (with_reducible repeat (first | refine blk_drewN ?_ _ | refine blk_drew ?_ | refine blk_alloc ?_ _)); exact BK314.out)) : gb314 ≠ gb319)); have n14_ := Aside0.mk ((by rw [hg]; exact Nat.ne_of_gt (blk_lt (g := gb314) (o := .cells #[.int .i64 t304, .int .i64 t305, .int .i64 t306, .slice Ao8 t307.length co8, .slice Ao9 t310.length co9] 32 (0, 0)) (by (with_reducible repeat (first | refine blk_drewN ?_ _ | refine blk_drew ?_ | refine blk_alloc ?_ _)); exact BK314.out)) : gb319 ≠ gb314)); clear HO_5; clear HO_30; clear HO_315003; clear HO_315004; clear HL318_3; clear HL318_4; clear BK314; clear HR318_3; clear HR318_4; clear HB; have HO_5 := n0_; have HO_30 := n1_; have HO_315003 := n2_; have HO_315004 := n3_; have HL318_3 := n4_; have HL318_4 := n5_; have BK314 := n6_; have HR318_3 := n7_; have HR318_4 := n8_; have HB := n9_; have BK319 := n10_; have GW319 := n11_; have GE319 := n12_; have NB314_319 := n13_; have NB319_314 := n14_; clear n0_ n1_ n2_ n3_ n4_ n5_ n6_ n7_ n8_ n9_ n10_ n11_ n12_ n13_ n14_; clear hb hbox hg; have hnb23 := NB319_314.out; have hnc23 := NB314_319.out; have hcz24_0 : w22.cell? ⟨gb319, 0, none⟩ = some (.int .i64 0) := (blk_cell BK319.out 0).trans rfl; have hcz24_1 : w22.cell? ⟨gb319, 1, none⟩ = some (.int .i64 0) := (blk_cell BK319.out 1).trans rfl; have hcz24_2 : w22.cell? ⟨gb319, 2, none⟩ = some (.int .i64 0) := (blk_cell BK319.out 2).trans rfl; have hcz24_3 : w22.cell? ⟨gb319, 3, none⟩ = some (.slice none 0 0) := (blk_cell BK319.out 3).trans rfl; have hcz24_4 : w22.cell? ⟨gb319, 4, none⟩ = some (.slice none 0 0) := (blk_cell BK319.out 4).trans rfl; have hfz24_0 := blk_frozen BK319.out 0; have hfz24_1 := blk_frozen BK319.out 1; have hfz24_2 := blk_frozen BK319.out 2; have hfz24_3 := blk_frozen BK319.out 3; have hfz24_4 := blk_frozen BK319.out 4) | ((with_reducible refine gate_builtin (b := .append) (xs := #[.tmp 36, .tmp 38]) rfl ?_); (try (refine gate_guard (by rfl) ?_; dsimp only)); at_builtin; refine Kd.R_append_rows k37 (w0 := w) w.heap.size rfl (.tmp 36) (.tmp 38) 29 37 (.agg #[(.int .i64 0), (.int .i64 0)]) 16 rfl Try.underlying29 info37 rfl (by decide) (by omega) u5 x5_2 ((rd_T32 t315 x32_2).f3) _ _ _ (fun k_ => some k_ ≠ (.slice Ao8 t307.length co8 : Value).ownBlock) (fun _ => False) rfl rfl ?aO ?aR (fun _ _ h => h) (fun _ h => h.elim) ?aF ?aB ?aS ?aL ?_; (case aR => repeat (first | exact ((Kd.V_reads' (by (with_reducible repeat (first | apply Kd.V_alloc | apply Kd.V_drewN | apply Kd.V_drew)); exact (Kd.V_mono (Kd.V_far (p := ⟨gb319, 4, none⟩) (Kd.V_far (p := ⟨gb319, 3, none⟩) (Kd.V_far (p := ⟨gb319, 2, none⟩) (Kd.V_far (p := ⟨gb319, 1, none⟩) (Kd.V_far (p := ⟨gb319, 0, none⟩) (Kd.V_mono HL318_3.out (fun k_ hk => (⟨hk, hk.2⟩ : _ ∧ k_ ≠ gb319))) (fun _ hk => hk.2) (.int .i64 ((rd_T32 t315 x32_2).f0))) (fun _ hk => hk.2) (.int .i64 ((rd_T32 t315 x32_2).f1))) (fun _ hk => hk.2) (.int .i64 ((rd_T32 t315 x32_2).f2))) (fun _ hk => hk.2) (.slice A318_3 ((rd_T32 t315 x32_2).f3).length c318_3)) (fun _ hk => hk.2) (.slice A318_4 ((rd_T32 t315 x32_2).f4).length c318_4)) (fun _ h_ => h_.1)))).2.2) | (with_reducible refine Kd.C_alloc ?_ _) | (with_reducible refine Kd.C_drewN ?_ _) | (with_reducible refine Kd.C_drew ?_))); (case aB => exact (by repeat (first | (with_reducible first | exact HB.out | apply below_alloc | apply pw_below_drewN | apply below_drew1 | refine below_set ?_ GE314.out | refine below_set ?_ GE319.out) | exact HB.out))); (case aF => exact (fun k_ hk => Kd.fresh' (Kd.R_lt (by (with_reducible repeat (first | apply Kd.R_alloc | apply Kd.R_drewN | apply Kd.R_drew)); exact (Kd.R_mono (Kd.R_far (p := ⟨gb319, 4, none⟩) (Kd.R_far (p := ⟨gb319, 3, none⟩) (Kd.R_far (p := ⟨gb319, 2, none⟩) (Kd.R_far (p := ⟨gb319, 1, none⟩) (Kd.R_far (p := ⟨gb319, 0, none⟩) (Kd.R_types HO_315003.out BK319.out (by decide)) (fun _ hk => hk.2) (.int .i64 ((rd_T32 t315 x32_2).f0))) (fun _ hk => hk.2) (.int .i64 ((rd_T32 t315 x32_2).f1))) (fun _ hk => hk.2) (.int .i64 ((rd_T32 t315 x32_2).f2))) (fun _ hk => hk.2) (.slice A318_3 ((rd_T32 t315 x32_2).f3).length c318_3)) (fun _ hk => hk.2) (.slice A318_4 ((rd_T32 t315 x32_2).f4).length c318_4)) (fun _ h_ => h_.1)))) k_ hk)); (case aO => exact (by (with_reducible repeat (first | apply Kd.R_alloc | apply Kd.R_drewN | apply Kd.R_drew)); exact Kd.R_mono (Kd.R_far (p := ⟨gb319, 4, none⟩) (Kd.R_far (p := ⟨gb319, 3, none⟩) (Kd.R_far (p := ⟨gb319, 2, none⟩) (Kd.R_far (p := ⟨gb319, 1, none⟩) (Kd.R_far (p := ⟨gb319, 0, none⟩) (Kd.R_types HO_5.out BK319.out (by decide)) (fun _ hk => hk.2) (.int .i64 ((rd_T32 t315 x32_2).f0))) (fun _ hk => hk.2) (.int .i64 ((rd_T32 t315 x32_2).f1))) (fun _ hk => hk.2) (.int .i64 ((rd_T32 t315 x32_2).f2))) (fun _ hk => hk.2) (.slice A318_3 ((rd_T32 t315 x32_2).f3).length c318_3)) (fun _ hk => hk.2) (.slice A318_4 ((rd_T32 t315 x32_2).f4).length c318_4)) (fun _ hk => hk.1))); (case aS => exact (below_size (by repeat (first | (with_reducible first | exact HB.out | apply below_alloc | apply pw_below_drewN | apply below_drew1 | refine below_set ?_ GE314.out | refine below_set ?_ GE319.out) | exact HB.out)))); (case aL => have := LMc19.out; omega); intro v321 w25 ho hb hg hat; rw [← Ny320.out] at ho; have n0_ := Aside0.mk (Kd.N_afterv (ok := (fun k_ => k_ ≠ gb314 ∧ k_ ≠ gb319)) (by (with_reducible repeat (first | apply Kd.N_alloc | apply Kd.N_drewN | apply Kd.N_drew)); exact Kd.N_mono (Kd.N_far (p := ⟨gb319, 4, none⟩) (Kd.N_far (p := ⟨gb319, 3, none⟩) (Kd.N_far (p := ⟨gb319, 2, none⟩) (Kd.N_far (p := ⟨gb319, 1, none⟩) (Kd.N_far (p := ⟨gb319, 0, none⟩) (Kd.N_mono HO_30.out (fun k_ hk => (⟨hk, hk.2⟩ : _ ∧ k_ ≠ gb319))) (fun _ hk => hk.2) (.int .i64 ((rd_T32 t315 x32_2).f0))) (fun _ hk => hk.2) (.int .i64 ((rd_T32 t315 x32_2).f1))) (fun _ hk => hk.2) (.int .i64 ((rd_T32 t315 x32_2).f2))) (fun _ hk => hk.2) (.slice A318_3 ((rd_T32 t315 x32_2).f3).length c318_3)) (fun _ hk => hk.2) (.slice A318_4 ((rd_T32 t315 x32_2).f4).length c318_4)) (fun _ hk => ⟨⟨hk.1.1.2, hk.1.2⟩, hk.1.1.1⟩)) hg hat); have n1_ := Aside0.mk (Kd.R_after (ok := (fun _ => True)) (by (with_reducible repeat (first | apply Kd.R_alloc | apply Kd.R_drewN | apply Kd.R_drew)); exact Kd.R_mono (Kd.R_far (p := ⟨gb319, 4, none⟩) (Kd.R_far (p := ⟨gb319, 3, none⟩) (Kd.R_far (p := ⟨gb319, 2, none⟩) (Kd.R_far (p := ⟨gb319, 1, none⟩) (Kd.R_far (p := ⟨gb319, 0, none⟩) (Kd.R_types HO_315003.out BK319.out (by decide)) (fun _ hk => hk.2) (.int .i64 ((rd_T32 t315 x32_2).f0))) (fun _ hk => hk.2) (.int .i64 ((rd_T32 t315 x32_2).f1))) (fun _ hk => hk.2) (.int .i64 ((rd_T32 t315 x32_2).f2))) (fun _ hk => hk.2) (.slice A318_3 ((rd_T32 t315 x32_2).f3).length c318_3)) (fun _ hk => hk.2) (.slice A318_4 ((rd_T32 t315 x32_2).f4).length c318_4)) (fun _ hk => ⟨trivial, hk.1⟩)) hg hat); have n2_ := Aside0.mk (Kd.N_afterv (ok := (fun k_ => some k_ ≠ (.slice (some ad318) t315.length co15 : Value).ownBlock ∧ some k_ ≠ (.slice Ao8 t307.length co8 : Value).ownBlock ∧ k_ ≠ gb314 ∧ k_ ≠ gb319)) (by (with_reducible repeat (first | apply Kd.N_alloc | apply Kd.N_drewN | apply Kd.N_drew)); exact Kd.N_mono (Kd.N_far (p := ⟨gb319, 4, none⟩) (Kd.N_far (p := ⟨gb319, 3, none⟩) (Kd.N_far (p := ⟨gb319, 2, none⟩) (Kd.N_far (p := ⟨gb319, 1, none⟩) (Kd.N_far (p := ⟨gb319, 0, none⟩) (Kd.N_mono HO_315004.out (fun k_ hk => (⟨hk, hk.2⟩ : _ ∧ k_ ≠ gb319))) (fun _ hk => hk.2) (.int .i64 ((rd_T32 t315 x32_2).f0))) (fun _ hk => hk.2) (.int .i64 ((rd_T32 t315 x32_2).f1))) (fun _ hk => hk.2) (.int .i64 ((rd_T32 t315 x32_2).f2))) (fun _ hk => hk.2) (.slice A318_3 ((rd_T32 t315 x32_2).f3).length c318_3)) (fun _ hk => hk.2) (.slice A318_4 ((rd_T32 t315 x32_2).f4).length c318_4)) (fun _ hk => ⟨⟨hk.1.1.2.1, ⟨hk.1.1.2.2.1, ⟨hk.1.1.2.2.2, hk.1.2⟩⟩⟩, hk.1.1.1⟩)) hg hat); have n3_ := Aside0.mk (blk_grown (g := gb314) (o := .cells #[.int .i64 t304, .int .i64 t305, .int .i64 t306, .slice Ao8 t307.length co8, .slice Ao9 t310.length co9] 32 (0, 0)) (by (with_reducible repeat (first | refine blk_drewN ?_ _ | refine blk_drew ?_ | refine blk_alloc ?_ _)); refine blk_far ?_ NB314_319.out _; (with_reducible repeat (first | refine blk_drewN ?_ _ | refine blk_drew ?_ | refine blk_alloc ?_ _)); refine blk_far ?_ NB314_319.out _; (with_reducible repeat (first | refine blk_drewN ?_ _ | refine blk_drew ?_ | refine blk_alloc ?_ _)); refine blk_far ?_ NB314_319.out _; (with_reducible repeat (first | refine blk_drewN ?_ _ | refine blk_drew ?_ | refine blk_alloc ?_ _)); refine blk_far ?_ NB314_319.out _; (with_reducible repeat (first | refine blk_drewN ?_ _ | refine blk_drew ?_ | refine blk_alloc ?_ _)); refine blk_far ?_ NB314_319.out _; (with_reducible repeat (first | refine blk_drewN ?_ _ | refine blk_drew ?_ | refine blk_alloc ?_ _)); exact BK314.out) hg (Kd.R_ne HO_5.out BK314.out (by decide))); have n4_ := Aside0.mk (Kd.V_afterv (ok := (fun k_ => some k_ ≠ (.slice (some ad318) t315.length co15 : Value).ownBlock ∧ k_ ≠ gb314 ∧ k_ ≠ gb319)) (by (with_reducible repeat (first | apply Kd.V_alloc | apply Kd.V_drewN | apply Kd.V_drew)); exact Kd.V_mono (Kd.V_far (p := ⟨gb319, 4, none⟩) (Kd.V_far (p := ⟨gb319, 3, none⟩) (Kd.V_far (p := ⟨gb319, 2, none⟩) (Kd.V_far (p := ⟨gb319, 1, none⟩) (Kd.V_far (p := ⟨gb319, 0, none⟩) (Kd.V_mono HL318_3.out (fun k_ hk => (⟨hk, hk.2⟩ : _ ∧ k_ ≠ gb319))) (fun _ hk => hk.2) (.int .i64 ((rd_T32 t315 x32_2).f0))) (fun _ hk => hk.2) (.int .i64 ((rd_T32 t315 x32_2).f1))) (fun _ hk => hk.2) (.int .i64 ((rd_T32 t315 x32_2).f2))) (fun _ hk => hk.2) (.slice A318_3 ((rd_T32 t315 x32_2).f3).length c318_3)) (fun _ hk => hk.2) (.slice A318_4 ((rd_T32 t315 x32_2).f4).length c318_4)) (fun _ hk => ⟨⟨hk.1.1.2, ⟨hk.1.1.1.2, hk.1.2⟩⟩, hk.1.1.1.1⟩)) hg hat); have n5_ := Aside0.mk (Kd.V_afterv (ok := (fun k_ => some k_ ≠ (.slice (some ad318) t315.length co15 : Value).ownBlock ∧ k_ ≠ gb314 ∧ k_ ≠ gb319)) (by (with_reducible repeat (first | apply Kd.V_alloc | apply Kd.V_drewN | apply Kd.V_drew)); exact Kd.V_mono (Kd.V_far (p := ⟨gb319, 4, none⟩) (Kd.V_far (p := ⟨gb319, 3, none⟩) (Kd.V_far (p := ⟨gb319, 2, none⟩) (Kd.V_far (p := ⟨gb319, 1, none⟩) (Kd.V_far (p := ⟨gb319, 0, none⟩) (Kd.V_mono HL318_4.out (fun k_ hk => (⟨hk, hk.2⟩ : _ ∧ k_ ≠ gb319))) (fun _ hk => hk.2) (.int .i64 ((rd_T32 t315 x32_2).f0))) (fun _ hk => hk.2) (.int .i64 ((rd_T32 t315 x32_2).f1))) (fun _ hk => hk.2) (.int .i64 ((rd_T32 t315 x32_2).f2))) (fun _ hk => hk.2) (.slice A318_3 ((rd_T32 t315 x32_2).f3).length c318_3)) (fun _ hk => hk.2) (.slice A318_4 ((rd_T32 t315 x32_2).f4).length c318_4)) (fun _ hk => ⟨⟨hk.1.1.2, ⟨hk.1.1.1.2, hk.1.2⟩⟩, hk.1.1.1.1⟩)) hg hat); have n6_ := Aside0.mk (blk_grown (g := gb319) (o := .cells #[.int .i64 ((rd_T32 t315 x32_2).f0), .int .i64 ((rd_T32 t315 x32_2).f1), .int .i64 ((rd_T32 t315 x32_2).f2), .slice A318_3 ((rd_T32 t315 x32_2).f3).length c318_3, .slice A318_4 ((rd_T32 t315 x32_2).f4).length c318_4] 32 (0, 0)) (by (with_reducible repeat (first | refine blk_drewN ?_ _ | refine blk_drew ?_ | refine blk_alloc ?_ _)); refine blk_put (cs := #[.int .i64 ((rd_T32 t315 x32_2).f0), .int .i64 ((rd_T32 t315 x32_2).f1), .int .i64 ((rd_T32 t315 x32_2).f2), .slice A318_3 ((rd_T32 t315 x32_2).f3).length c318_3, .slice none 0 0]) ?_ 4 _ rfl; (with_reducible repeat (first | refine blk_drewN ?_ _ | refine blk_drew ?_ | refine blk_alloc ?_ _)); refine blk_put (cs := #[.int .i64 ((rd_T32 t315 x32_2).f0), .int .i64 ((rd_T32 t315 x32_2).f1), .int .i64 ((rd_T32 t315 x32_2).f2), .slice none 0 0, .slice none 0 0]) ?_ 3 _ rfl; (with_reducible repeat (first | refine blk_drewN ?_ _ | refine blk_drew ?_ | refine blk_alloc ?_ _)); refine blk_put (cs := #[.int .i64 ((rd_T32 t315 x32_2).f0), .int .i64 ((rd_T32 t315 x32_2).f1), .int .i64 0, .slice none 0 0, .slice none 0 0]) ?_ 2 _ rfl; (with_reducible repeat (first | refine blk_drewN ?_ _ | refine blk_drew ?_ | refine blk_alloc ?_ _)); refine blk_put (cs := #[.int .i64 ((rd_T32 t315 x32_2).f0), .int .i64 0, .int .i64 0, .slice none 0 0, .slice none 0 0]) ?_ 1 _ rfl; (with_reducible repeat (first | refine blk_drewN ?_ _ | refine blk_drew ?_ | refine blk_alloc ?_ _)); refine blk_put (cs := #[.int .i64 0, .int .i64 0, .int .i64 0, .slice none 0 0, .slice none 0 0]) ?_ 0 _ rfl; (with_reducible repeat (first | refine blk_drewN ?_ _ | refine blk_drew ?_ | refine blk_alloc ?_ _)); exact BK319.out) hg (Kd.R_ne HO_5.out BK319.out (by decide))); have n7_ := Aside0.mk (hb); have n8_ := Aside0.mk (ho); clear HO_30; clear HO_315003; clear HO_315004; clear BK314; clear HL318_3; clear HL318_4; clear BK319; clear HB; clear HO_5; have HO_30 := n0_; have HO_315003 := n1_; have HO_315004 := n2_; have BK314 := n3_; have HL318_3 := n4_; have HL318_4 := n5_; have BK319 := n6_; have HB := n7_; have HO322 := n8_; clear n0_ n1_ n2_ n3_ n4_ n5_ n6_ n7_ n8_; clear ho hb hg hat; have hcz26_0 : w25.cell? ⟨gb319, 0, none⟩ = some (.int .i64 ((rd_T32 t315 x32_2).f0)) := (blk_cell BK319.out 0).trans rfl; have hcz26_1 : w25.cell? ⟨gb319, 1, none⟩ = some (.int .i64 ((rd_T32 t315 x32_2).f1)) := (blk_cell BK319.out 1).trans rfl; have hcz26_2 : w25.cell? ⟨gb319, 2, none⟩ = some (.int .i64 ((rd_T32 t315 x32_2).f2)) := (blk_cell BK319.out 2).trans rfl; have hcz26_3 : w25.cell? ⟨gb319, 3, none⟩ = some (.slice A318_3 ((rd_T32 t315 x32_2).f3).length c318_3) := (blk_cell BK319.out 3).trans rfl; have hcz26_4 : w25.cell? ⟨gb319, 4, none⟩ = some (.slice A318_4 ((rd_T32 t315 x32_2).f4).length c318_4) := (blk_cell BK319.out 4).trans rfl; have hfz26_0 := blk_frozen BK319.out 0; have hfz26_1 := blk_frozen BK319.out 1; have hfz26_2 := blk_frozen BK319.out 2; have hfz26_3 := blk_frozen BK319.out 3; have hfz26_4 := blk_frozen BK319.out 4) | ((with_reducible refine gate_builtin (b := .append) (xs := #[.tmp 43, .tmp 49]) rfl ?_); (try (refine gate_guard (by rfl) ?_; dsimp only)); at_builtin; refine Kd.R_append k37 (w0 := w) w.heap.size rfl (.tmp 43) (.tmp 49) 29 37 (.agg #[(.int .i64 0), (.int .i64 0)]) 16 rfl Try.underlying29 info37 rfl (by decide) (by omega) v321 y320 (⟨(rd_T32 t315 x32_2).f1, (rd_T32 t315 x32_2).f2⟩ : S37) [.int .i64 ((rd_T32 t315 x32_2).f1), .int .i64 ((rd_T32 t315 x32_2).f2)] (fun k_ => some k_ ≠ (.slice Ao8 t307.length co8 : Value).ownBlock) (fun _ => False) rfl rfl ?aP (fun _ hk => hk.elim) ?aF ?aO ?aB ?aS ?aL ?_; (case aP => exact k37_mkM _ _ _ (⟨(rd_T32 t315 x32_2).f1, (rd_T32 t315 x32_2).f2⟩ : S37)); (case aB => exact (by repeat (first | (with_reducible first | exact HB.out | apply below_alloc | apply pw_below_drewN | apply below_drew1 | refine below_set ?_ GE314.out | refine below_set ?_ GE319.out) | exact HB.out))); (case aF => exact (fun k_ hk => Kd.fresh' (Kd.R_lt (by (with_reducible repeat (first | apply Kd.R_alloc | apply Kd.R_drewN | apply Kd.R_drew)); exact HO_315003.out)) k_ hk)); (case aO => exact (by (with_reducible repeat (first | apply Kd.R_alloc | apply Kd.R_drewN | apply Kd.R_drew)); exact HO322.out)); (case aS => exact (below_size (by repeat (first | (with_reducible first | exact HB.out | apply below_alloc | apply pw_below_drewN | apply below_drew1 | refine below_set ?_ GE314.out | refine below_set ?_ GE319.out) | exact HB.out)))); (case aL => have := LMc21.out; omega); intro v324 w27 ho hb hg hat; rw [← Ny323.out] at ho; have n0_ := Aside0.mk (Kd.N_afterv (ok := (fun k_ => k_ ≠ gb314 ∧ k_ ≠ gb319)) (by (with_reducible repeat (first | apply Kd.N_alloc | apply Kd.N_drewN | apply Kd.N_drew)); exact HO_30.out) hg hat); have n1_ := Aside0.mk (Kd.R_after (ok := (fun _ => True)) (by (with_reducible repeat (first | apply Kd.R_alloc | apply Kd.R_drewN | apply Kd.R_drew)); exact HO_315003.out) hg hat); have n2_ := Aside0.mk (Kd.N_afterv (ok := (fun k_ => some k_ ≠ (.slice (some ad318) t315.length co15 : Value).ownBlock ∧ some k_ ≠ (.slice Ao8 t307.length co8 : Value).ownBlock ∧ k_ ≠ gb314 ∧ k_ ≠ gb319)) (by (with_reducible repeat (first | apply Kd.N_alloc | apply Kd.N_drewN | apply Kd.N_drew)); exact HO_315004.out) hg hat); have n3_ := Aside0.mk (blk_grown (g := gb314) (o := .cells #[.int .i64 t304, .int .i64 t305, .int .i64 t306, .slice Ao8 t307.length co8, .slice Ao9 t310.length co9] 32 (0, 0)) (by (with_reducible repeat (first | refine blk_drewN ?_ _ | refine blk_drew ?_ | refine blk_alloc ?_ _)); exact BK314.out) hg (Kd.R_ne HO322.out BK314.out (by decide))); have n4_ := Aside0.mk (Kd.V_afterv (ok := (fun k_ => some k_ ≠ (.slice (some ad318) t315.length co15 : Value).ownBlock ∧ k_ ≠ gb314 ∧ k_ ≠ gb319)) (by (with_reducible repeat (first | apply Kd.V_alloc | apply Kd.V_drewN | apply Kd.V_drew)); exact HL318_3.out) hg hat); have n5_ := Aside0.mk (Kd.V_afterv (ok := (fun k_ => some k_ ≠ (.slice (some ad318) t315.length co15 : Value).ownBlock ∧ k_ ≠ gb314 ∧ k_ ≠ gb319)) (by (with_reducible repeat (first | apply Kd.V_alloc | apply Kd.V_drewN | apply Kd.V_drew)); exact HL318_4.out) hg hat); have n6_ := Aside0.mk (blk_grown (g := gb319) (o := .cells #[.int .i64 ((rd_T32 t315 x32_2).f0), .int .i64 ((rd_T32 t315 x32_2).f1), .int .i64 ((rd_T32 t315 x32_2).f2), .slice A318_3 ((rd_T32 t315 x32_2).f3).length c318_3, .slice A318_4 ((rd_T32 t315 x32_2).f4).length c318_4] 32 (0, 0)) (by (with_reducible repeat (first | refine blk_drewN ?_ _ | refine blk_drew ?_ | refine blk_alloc ?_ _)); exact BK319.out) hg (Kd.R_ne HO322.out BK319.out (by decide))); have n7_ := Aside0.mk (hb); have n8_ := Aside0.mk (ho); clear HO_30; clear HO_315003; clear HO_315004; clear BK314; clear HL318_3; clear HL318_4; clear BK319; clear HB; clear HO322; have HO_30 := n0_; have HO_315003 := n1_; have HO_315004 := n2_; have BK314 := n3_; have HL318_3 := n4_; have HL318_4 := n5_; have BK319 := n6_; have HB := n7_; have HO325 := n8_; clear n0_ n1_ n2_ n3_ n4_ n5_ n6_ n7_ n8_; clear ho hb hg hat))
                          go_roundg k2
                          case measure => have := HJ3.out; have := HK2.out; omega
                          case rel => exact ⟨(y323), (wrap64 (x32_2 + 1)), (by first | rfl | (simp; done) | (simp [*]; done)), H', ⟨by have := HJ3.out; have := HK2.out; omega⟩, ⟨by (with_reducible repeat (first | apply Kd.R_alloc | apply Kd.R_drewN | apply Kd.R_drew)); exact HO325.out⟩, ⟨by (with_reducible repeat (first | apply Kd.N_alloc | apply Kd.N_drewN | apply Kd.N_drew)); exact Kd.N_mono HO_30.out (fun _ hk => ⟨hk.2, hk.1.1⟩)⟩, ⟨by (with_reducible repeat (first | apply Kd.R_alloc | apply Kd.R_drewN | apply Kd.R_drew)); exact Kd.R_mono HO_315003.out (fun _ hk => hk.2)⟩, ⟨by (with_reducible repeat (first | apply Kd.N_alloc | apply Kd.N_drewN | apply Kd.N_drew)); exact Kd.N_mono HO_315004.out (fun _ hk => ⟨hk.2, ⟨hk.1.1, ⟨hk.1.2.1, hk.1.2.2.1⟩⟩⟩)⟩, ⟨by (with_reducible repeat (first | refine blk_drewN ?_ _ | refine blk_drew ?_ | refine blk_alloc ?_ _)); exact BK314.out⟩, ⟨by repeat (first | (with_reducible first | exact HB.out | apply below_alloc | apply pw_below_drewN | apply below_drew1 | refine below_set ?_ GE314.out | refine below_set ?_ GE319.out) | exact HB.out)⟩⟩
                        · rw [if_neg c21] at H
                          exact absurd H (by simp)
                      · rw [if_neg c20] at H
                        have c20b0 : (((rd_T32 t315 x32_2).f0) == 4) = false := beq_eq_false_iff_ne.mpr c20
                        have c20b1 : (((rd_T32 t315 x32_2).f0) != 4) = true := bne_iff_ne.mpr c20
                        have H' := Aside0.mk H
                        clear H
                        have p318 : 0 ≤ (x32_2 : Int) := of_decide_eq_true (by first | (with_reducible assumption) | assumption)
                        have q318 : x32_2 < (t315.length : Int) := of_decide_eq_true (by first | (with_reducible assumption) | assumption)
                        obtain ⟨ad318, A318_3, c318_3, A318_4, c318_4, e318, hx318_0, hx318_1, hx318_2, hx318_3, hx318_4, hl318_3, hi318_3, hl318_4, hi318_4⟩ := at_T32 (Kd.N_reads' HO_30.out).2.2 x32_2 p318 q318
                        cases e318
                        obtain ⟨ce318, hce318, hMe318, hcc318⟩ := Kd.N_get HO_30.out z32 x32_2 p318 (by first | exact q318 | exact of_decide_eq_true (by first | (with_reducible assumption) | assumption) | (have e_ := (Kd.N_reads' HO_30.out).1; omega))
                        obtain ⟨ua318_3, uc318_3, ua318_4, uc318_4, rfl, ul318_3, ge318_3, ul318_4, ge318_4⟩ := k32_openF hMe318
                        have hv318_3 := hcc318 3 _ rfl
                        rw [add_field _ _ 3 (by omega)] at hv318_3
                        replace hv318_3 := Option.some.inj (hv318_3.symm.trans hx318_3)
                        injection hv318_3 with hva_ hvn_ hvc_
                        rw [hva_] at ge318_3
                        rw [hvc_] at ul318_3
                        have HL318_3 := Aside0.mk (show Kd.V k37 37 _ w.heap.size _ _ ((rd_T32 t315 x32_2).f3) from Kd.V_mk ul318_3 ge318_3)
                        clear hva_ hvn_ hvc_ ge318_3 ul318_3
                        have hv318_4 := hcc318 4 _ rfl
                        rw [add_field _ _ 4 (by omega)] at hv318_4
                        replace hv318_4 := Option.some.inj (hv318_4.symm.trans hx318_4)
                        injection hv318_4 with hva_ hvn_ hvc_
                        rw [hva_] at ge318_4
                        rw [hvc_] at ul318_4
                        have HL318_4 := Aside0.mk (show Kd.V k32 32 _ w.heap.size _ _ ((rd_T32 t315 x32_2).f4) from Kd.V_mk ul318_4 ge318_4)
                        clear hva_ hvn_ hvc_ ge318_4 ul318_4
                        clear hcc318 hce318
                        have HR318_3 := Aside0.mk hi318_3
                        have HC318_3 := Aside0.mk hl318_3
                        clear hi318_3 hl318_3
                        have HR318_4 := Aside0.mk hi318_4
                        have HC318_4 := Aside0.mk hl318_4
                        clear hi318_4 hl318_4
                        replace p318 := eq_true p318
                        replace q318 := eq_true q318
                        go_wp2_with (first | ((with_reducible refine gate_dst (N := 7) rfl ?_); (try (refine gate_guard (by rfl) ?_; dsimp only)); refine box_event ?hg (N := 7) ?hd (cs := #[.int .i64 0, .int .i64 0, .int .i64 0, .slice none 0 0, .slice none 0 0]) (t := 32) ?hr ?_; (case hd => rfl); (case hg => rfl); (case hr => first | (go_simp; done) | (go_simp; rfl)); intro gb319 hg w28 hbox hb; have n0_ := Aside0.mk (Kd.R_below (by (with_reducible repeat (first | apply Kd.R_alloc | apply Kd.R_drewN | apply Kd.R_drew)); exact HO_5.out) hb); have n1_ := Aside0.mk (Kd.N_below (Kd.N_elderB (by (with_reducible repeat (first | apply Kd.N_alloc | apply Kd.N_drewN | apply Kd.N_drew)); exact HO_30.out) gb319 (Nat.le_of_eq hg.symm)) hb); have n2_ := Aside0.mk (Kd.R_below (by (with_reducible repeat (first | apply Kd.R_alloc | apply Kd.R_drewN | apply Kd.R_drew)); exact HO_315003.out) hb); have n3_ := Aside0.mk (Kd.N_below (Kd.N_elderB (by (with_reducible repeat (first | apply Kd.N_alloc | apply Kd.N_drewN | apply Kd.N_drew)); exact HO_315004.out) gb319 (Nat.le_of_eq hg.symm)) hb); have n4_ := Aside0.mk (Kd.V_below (Kd.V_elderB (by (with_reducible repeat (first | apply Kd.V_alloc | apply Kd.V_drewN | apply Kd.V_drew)); exact HL318_3.out) gb319 (Nat.le_of_eq hg.symm)) hb); have n5_ := Aside0.mk (Kd.V_below (Kd.V_elderB (by (with_reducible repeat (first | apply Kd.V_alloc | apply Kd.V_drewN | apply Kd.V_drew)); exact HL318_4.out) gb319 (Nat.le_of_eq hg.symm)) hb); have n6_ := Aside0.mk (blk_below (g := gb314) (o := .cells #[.int .i64 t304, .int .i64 t305, .int .i64 t306, .slice Ao8 t307.length co8, .slice Ao9 t310.length co9] 32 (0, 0)) (by (with_reducible repeat (first | refine blk_drewN ?_ _ | refine blk_drew ?_ | refine blk_alloc ?_ _)); exact BK314.out) hb); have n7_ := Aside0.mk (Kd.C_below (by repeat (first | (with_reducible exact HR318_3.out) | (with_reducible refine Kd.C_alloc ?_ _) | (with_reducible refine Kd.C_drewN ?_ _) | (with_reducible refine Kd.C_drew ?_) | exact HR318_3.out)) hb); have n8_ := Aside0.mk (Kd.C_below (by repeat (first | (with_reducible exact HR318_4.out) | (with_reducible refine Kd.C_alloc ?_ _) | (with_reducible refine Kd.C_drewN ?_ _) | (with_reducible refine Kd.C_drew ?_) | exact HR318_4.out)) hb); have n9_ := Aside0.mk (below_step (by repeat (first | (with_reducible first | exact HB.out | apply below_alloc | apply pw_below_drewN | apply below_drew1 | refine below_set ?_ GE314.out) | exact HB.out)) hb); have n10_ := Aside0.mk (hbox); have n11_ := Aside0.mk ((by rw [hg]; exact (below_size (by repeat (first | (with_reducible first | exact HB.out | apply below_alloc | apply pw_below_drewN | apply below_drew1 | refine below_set ?_ GE314.out) | exact HB.out))) : w.heap.size ≤ gb319)); have n12_ := Aside0.mk ((by rw [hg]; exact (below_size (by repeat (first | (with_reducible first | exact HB.out | apply below_alloc | apply pw_below_drewN | apply below_drew1 | refine below_set ?_ GE314.out) | exact HB.out))) : w.heap.size ≤ gb319)); have n13_ := Aside0.mk ((by rw [hg]; exact Nat.ne_of_lt (blk_lt (g := gb314) (o := .cells #[.int .i64 t304, .int .i64 t305, .int .i64 t306, .slice Ao8 t307.length co8, .slice Ao9 t310.length co9] 32 (0, 0)) (by (with_reducible repeat (first | refine blk_drewN ?_ _ | refine blk_drew ?_ | refine blk_alloc ?_ _)); exact BK314.out)) : gb314 ≠ gb319)); have n14_ := Aside0.mk ((by rw [hg]; exact Nat.ne_of_gt (blk_lt (g := gb314) (o := .cells #[.int .i64 t304, .int .i64 t305, .int .i64 t306, .slice Ao8 t307.length co8, .slice Ao9 t310.length co9] 32 (0, 0)) (by (with_reducible repeat (first | refine blk_drewN ?_ _ | refine blk_drew ?_ | refine blk_alloc ?_ _)); exact BK314.out)) : gb319 ≠ gb314)); clear HO_5; clear HO_30; clear HO_315003; clear HO_315004; clear HL318_3; clear HL318_4; clear BK314; clear HR318_3; clear HR318_4; clear HB; have HO_5 := n0_; have HO_30 := n1_; have HO_315003 := n2_; have HO_315004 := n3_; have HL318_3 := n4_; have HL318_4 := n5_; have BK314 := n6_; have HR318_3 := n7_; have HR318_4 := n8_; have HB := n9_; have BK319 := n10_; have GW319 := n11_; have GE319 := n12_; have NB314_319 := n13_; have NB319_314 := n14_; clear n0_ n1_ n2_ n3_ n4_ n5_ n6_ n7_ n8_ n9_ n10_ n11_ n12_ n13_ n14_; clear hb hbox hg; have hnb29 := NB319_314.out; have hnc29 := NB314_319.out; have hcz30_0 : w28.cell? ⟨gb319, 0, none⟩ = some (.int .i64 0) := (blk_cell BK319.out 0).trans rfl; have hcz30_1 : w28.cell? ⟨gb319, 1, none⟩ = some (.int .i64 0) := (blk_cell BK319.out 1).trans rfl; have hcz30_2 : w28.cell? ⟨gb319, 2, none⟩ = some (.int .i64 0) := (blk_cell BK319.out 2).trans rfl; have hcz30_3 : w28.cell? ⟨gb319, 3, none⟩ = some (.slice none 0 0) := (blk_cell BK319.out 3).trans rfl; have hcz30_4 : w28.cell? ⟨gb319, 4, none⟩ = some (.slice none 0 0) := (blk_cell BK319.out 4).trans rfl; have hfz30_0 := blk_frozen BK319.out 0; have hfz30_1 := blk_frozen BK319.out 1; have hfz30_2 := blk_frozen BK319.out 2; have hfz30_3 := blk_frozen BK319.out 3; have hfz30_4 := blk_frozen BK319.out 4) | ((with_reducible refine gate_builtin (b := .append) (xs := #[.tmp 36, .tmp 38]) rfl ?_); (try (refine gate_guard (by rfl) ?_; dsimp only)); at_builtin; refine Kd.R_append_rows k37 (w0 := w) w.heap.size rfl (.tmp 36) (.tmp 38) 29 37 (.agg #[(.int .i64 0), (.int .i64 0)]) 16 rfl Try.underlying29 info37 rfl (by decide) (by omega) u5 x5_2 ((rd_T32 t315 x32_2).f3) _ _ _ (fun k_ => some k_ ≠ (.slice Ao8 t307.length co8 : Value).ownBlock) (fun _ => False) rfl rfl ?aO ?aR (fun _ _ h => h) (fun _ h => h.elim) ?aF ?aB ?aS ?aL ?_; (case aR => repeat (first | exact ((Kd.V_reads' (by (with_reducible repeat (first | apply Kd.V_alloc | apply Kd.V_drewN | apply Kd.V_drew)); exact (Kd.V_mono (Kd.V_far (p := ⟨gb319, 4, none⟩) (Kd.V_far (p := ⟨gb319, 3, none⟩) (Kd.V_far (p := ⟨gb319, 2, none⟩) (Kd.V_far (p := ⟨gb319, 1, none⟩) (Kd.V_far (p := ⟨gb319, 0, none⟩) (Kd.V_mono HL318_3.out (fun k_ hk => (⟨hk, hk.2⟩ : _ ∧ k_ ≠ gb319))) (fun _ hk => hk.2) (.int .i64 ((rd_T32 t315 x32_2).f0))) (fun _ hk => hk.2) (.int .i64 ((rd_T32 t315 x32_2).f1))) (fun _ hk => hk.2) (.int .i64 ((rd_T32 t315 x32_2).f2))) (fun _ hk => hk.2) (.slice A318_3 ((rd_T32 t315 x32_2).f3).length c318_3)) (fun _ hk => hk.2) (.slice A318_4 ((rd_T32 t315 x32_2).f4).length c318_4)) (fun _ h_ => h_.1)))).2.2) | (with_reducible refine Kd.C_alloc ?_ _) | (with_reducible refine Kd.C_drewN ?_ _) | (with_reducible refine Kd.C_drew ?_))); (case aB => exact (by repeat (first | (with_reducible first | exact HB.out | apply below_alloc | apply pw_below_drewN | apply below_drew1 | refine below_set ?_ GE314.out | refine below_set ?_ GE319.out) | exact HB.out))); (case aF => exact (fun k_ hk => Kd.fresh' (Kd.R_lt (by (with_reducible repeat (first | apply Kd.R_alloc | apply Kd.R_drewN | apply Kd.R_drew)); exact (Kd.R_mono (Kd.R_far (p := ⟨gb319, 4, none⟩) (Kd.R_far (p := ⟨gb319, 3, none⟩) (Kd.R_far (p := ⟨gb319, 2, none⟩) (Kd.R_far (p := ⟨gb319, 1, none⟩) (Kd.R_far (p := ⟨gb319, 0, none⟩) (Kd.R_types HO_315003.out BK319.out (by decide)) (fun _ hk => hk.2) (.int .i64 ((rd_T32 t315 x32_2).f0))) (fun _ hk => hk.2) (.int .i64 ((rd_T32 t315 x32_2).f1))) (fun _ hk => hk.2) (.int .i64 ((rd_T32 t315 x32_2).f2))) (fun _ hk => hk.2) (.slice A318_3 ((rd_T32 t315 x32_2).f3).length c318_3)) (fun _ hk => hk.2) (.slice A318_4 ((rd_T32 t315 x32_2).f4).length c318_4)) (fun _ h_ => h_.1)))) k_ hk)); (case aO => exact (by (with_reducible repeat (first | apply Kd.R_alloc | apply Kd.R_drewN | apply Kd.R_drew)); exact Kd.R_mono (Kd.R_far (p := ⟨gb319, 4, none⟩) (Kd.R_far (p := ⟨gb319, 3, none⟩) (Kd.R_far (p := ⟨gb319, 2, none⟩) (Kd.R_far (p := ⟨gb319, 1, none⟩) (Kd.R_far (p := ⟨gb319, 0, none⟩) (Kd.R_types HO_5.out BK319.out (by decide)) (fun _ hk => hk.2) (.int .i64 ((rd_T32 t315 x32_2).f0))) (fun _ hk => hk.2) (.int .i64 ((rd_T32 t315 x32_2).f1))) (fun _ hk => hk.2) (.int .i64 ((rd_T32 t315 x32_2).f2))) (fun _ hk => hk.2) (.slice A318_3 ((rd_T32 t315 x32_2).f3).length c318_3)) (fun _ hk => hk.2) (.slice A318_4 ((rd_T32 t315 x32_2).f4).length c318_4)) (fun _ hk => hk.1))); (case aS => exact (below_size (by repeat (first | (with_reducible first | exact HB.out | apply below_alloc | apply pw_below_drewN | apply below_drew1 | refine below_set ?_ GE314.out | refine below_set ?_ GE319.out) | exact HB.out)))); (case aL => have := LMc19.out; omega); intro v321 w31 ho hb hg hat; rw [← Ny320.out] at ho; have n0_ := Aside0.mk (Kd.N_afterv (ok := (fun k_ => k_ ≠ gb314 ∧ k_ ≠ gb319)) (by (with_reducible repeat (first | apply Kd.N_alloc | apply Kd.N_drewN | apply Kd.N_drew)); exact Kd.N_mono (Kd.N_far (p := ⟨gb319, 4, none⟩) (Kd.N_far (p := ⟨gb319, 3, none⟩) (Kd.N_far (p := ⟨gb319, 2, none⟩) (Kd.N_far (p := ⟨gb319, 1, none⟩) (Kd.N_far (p := ⟨gb319, 0, none⟩) (Kd.N_mono HO_30.out (fun k_ hk => (⟨hk, hk.2⟩ : _ ∧ k_ ≠ gb319))) (fun _ hk => hk.2) (.int .i64 ((rd_T32 t315 x32_2).f0))) (fun _ hk => hk.2) (.int .i64 ((rd_T32 t315 x32_2).f1))) (fun _ hk => hk.2) (.int .i64 ((rd_T32 t315 x32_2).f2))) (fun _ hk => hk.2) (.slice A318_3 ((rd_T32 t315 x32_2).f3).length c318_3)) (fun _ hk => hk.2) (.slice A318_4 ((rd_T32 t315 x32_2).f4).length c318_4)) (fun _ hk => ⟨⟨hk.1.1.2, hk.1.2⟩, hk.1.1.1⟩)) hg hat); have n1_ := Aside0.mk (Kd.R_after (ok := (fun _ => True)) (by (with_reducible repeat (first | apply Kd.R_alloc | apply Kd.R_drewN | apply Kd.R_drew)); exact Kd.R_mono (Kd.R_far (p := ⟨gb319, 4, none⟩) (Kd.R_far (p := ⟨gb319, 3, none⟩) (Kd.R_far (p := ⟨gb319, 2, none⟩) (Kd.R_far (p := ⟨gb319, 1, none⟩) (Kd.R_far (p := ⟨gb319, 0, none⟩) (Kd.R_types HO_315003.out BK319.out (by decide)) (fun _ hk => hk.2) (.int .i64 ((rd_T32 t315 x32_2).f0))) (fun _ hk => hk.2) (.int .i64 ((rd_T32 t315 x32_2).f1))) (fun _ hk => hk.2) (.int .i64 ((rd_T32 t315 x32_2).f2))) (fun _ hk => hk.2) (.slice A318_3 ((rd_T32 t315 x32_2).f3).length c318_3)) (fun _ hk => hk.2) (.slice A318_4 ((rd_T32 t315 x32_2).f4).length c318_4)) (fun _ hk => ⟨trivial, hk.1⟩)) hg hat); have n2_ := Aside0.mk (Kd.N_afterv (ok := (fun k_ => some k_ ≠ (.slice (some ad318) t315.length co15 : Value).ownBlock ∧ some k_ ≠ (.slice Ao8 t307.length co8 : Value).ownBlock ∧ k_ ≠ gb314 ∧ k_ ≠ gb319)) (by (with_reducible repeat (first | apply Kd.N_alloc | apply Kd.N_drewN | apply Kd.N_drew)); exact Kd.N_mono (Kd.N_far (p := ⟨gb319, 4, none⟩) (Kd.N_far (p := ⟨gb319, 3, none⟩) (Kd.N_far (p := ⟨gb319, 2, none⟩) (Kd.N_far (p := ⟨gb319, 1, none⟩) (Kd.N_far (p := ⟨gb319, 0, none⟩) (Kd.N_mono HO_315004.out (fun k_ hk => (⟨hk, hk.2⟩ : _ ∧ k_ ≠ gb319))) (fun _ hk => hk.2) (.int .i64 ((rd_T32 t315 x32_2).f0))) (fun _ hk => hk.2) (.int .i64 ((rd_T32 t315 x32_2).f1))) (fun _ hk => hk.2) (.int .i64 ((rd_T32 t315 x32_2).f2))) (fun _ hk => hk.2) (.slice A318_3 ((rd_T32 t315 x32_2).f3).length c318_3)) (fun _ hk => hk.2) (.slice A318_4 ((rd_T32 t315 x32_2).f4).length c318_4)) (fun _ hk => ⟨⟨hk.1.1.2.1, ⟨hk.1.1.2.2.1, ⟨hk.1.1.2.2.2, hk.1.2⟩⟩⟩, hk.1.1.1⟩)) hg hat); have n3_ := Aside0.mk (blk_grown (g := gb314) (o := .cells #[.int .i64 t304, .int .i64 t305, .int .i64 t306, .slice Ao8 t307.length co8, .slice Ao9 t310.length co9] 32 (0, 0)) (by (with_reducible repeat (first | refine blk_drewN ?_ _ | refine blk_drew ?_ | refine blk_alloc ?_ _)); refine blk_far ?_ NB314_319.out _; (with_reducible repeat (first | refine blk_drewN ?_ _ | refine blk_drew ?_ | refine blk_alloc ?_ _)); refine blk_far ?_ NB314_319.out _; (with_reducible repeat (first | refine blk_drewN ?_ _ | refine blk_drew ?_ | refine blk_alloc ?_ _)); refine blk_far ?_ NB314_319.out _; (with_reducible repeat (first | refine blk_drewN ?_ _ | refine blk_drew ?_ | refine blk_alloc ?_ _)); refine blk_far ?_ NB314_319.out _; (with_reducible repeat (first | refine blk_drewN ?_ _ | refine blk_drew ?_ | refine blk_alloc ?_ _)); refine blk_far ?_ NB314_319.out _; (with_reducible repeat (first | refine blk_drewN ?_ _ | refine blk_drew ?_ | refine blk_alloc ?_ _)); exact BK314.out) hg (Kd.R_ne HO_5.out BK314.out (by decide))); have n4_ := Aside0.mk (Kd.V_afterv (ok := (fun k_ => some k_ ≠ (.slice (some ad318) t315.length co15 : Value).ownBlock ∧ k_ ≠ gb314 ∧ k_ ≠ gb319)) (by (with_reducible repeat (first | apply Kd.V_alloc | apply Kd.V_drewN | apply Kd.V_drew)); exact Kd.V_mono (Kd.V_far (p := ⟨gb319, 4, none⟩) (Kd.V_far (p := ⟨gb319, 3, none⟩) (Kd.V_far (p := ⟨gb319, 2, none⟩) (Kd.V_far (p := ⟨gb319, 1, none⟩) (Kd.V_far (p := ⟨gb319, 0, none⟩) (Kd.V_mono HL318_3.out (fun k_ hk => (⟨hk, hk.2⟩ : _ ∧ k_ ≠ gb319))) (fun _ hk => hk.2) (.int .i64 ((rd_T32 t315 x32_2).f0))) (fun _ hk => hk.2) (.int .i64 ((rd_T32 t315 x32_2).f1))) (fun _ hk => hk.2) (.int .i64 ((rd_T32 t315 x32_2).f2))) (fun _ hk => hk.2) (.slice A318_3 ((rd_T32 t315 x32_2).f3).length c318_3)) (fun _ hk => hk.2) (.slice A318_4 ((rd_T32 t315 x32_2).f4).length c318_4)) (fun _ hk => ⟨⟨hk.1.1.2, ⟨hk.1.1.1.2, hk.1.2⟩⟩, hk.1.1.1.1⟩)) hg hat); have n5_ := Aside0.mk (Kd.V_afterv (ok := (fun k_ => some k_ ≠ (.slice (some ad318) t315.length co15 : Value).ownBlock ∧ k_ ≠ gb314 ∧ k_ ≠ gb319)) (by (with_reducible repeat (first | apply Kd.V_alloc | apply Kd.V_drewN | apply Kd.V_drew)); exact Kd.V_mono (Kd.V_far (p := ⟨gb319, 4, none⟩) (Kd.V_far (p := ⟨gb319, 3, none⟩) (Kd.V_far (p := ⟨gb319, 2, none⟩) (Kd.V_far (p := ⟨gb319, 1, none⟩) (Kd.V_far (p := ⟨gb319, 0, none⟩) (Kd.V_mono HL318_4.out (fun k_ hk => (⟨hk, hk.2⟩ : _ ∧ k_ ≠ gb319))) (fun _ hk => hk.2) (.int .i64 ((rd_T32 t315 x32_2).f0))) (fun _ hk => hk.2) (.int .i64 ((rd_T32 t315 x32_2).f1))) (fun _ hk => hk.2) (.int .i64 ((rd_T32 t315 x32_2).f2))) (fun _ hk => hk.2) (.slice A318_3 ((rd_T32 t315 x32_2).f3).length c318_3)) (fun _ hk => hk.2) (.slice A318_4 ((rd_T32 t315 x32_2).f4).length c318_4)) (fun _ hk => ⟨⟨hk.1.1.2, ⟨hk.1.1.1.2, hk.1.2⟩⟩, hk.1.1.1.1⟩)) hg hat); have n6_ := Aside0.mk (blk_grown (g := gb319) (o := .cells #[.int .i64 ((rd_T32 t315 x32_2).f0), .int .i64 ((rd_T32 t315 x32_2).f1), .int .i64 ((rd_T32 t315 x32_2).f2), .slice A318_3 ((rd_T32 t315 x32_2).f3).length c318_3, .slice A318_4 ((rd_T32 t315 x32_2).f4).length c318_4] 32 (0, 0)) (by (with_reducible repeat (first | refine blk_drewN ?_ _ | refine blk_drew ?_ | refine blk_alloc ?_ _)); refine blk_put (cs := #[.int .i64 ((rd_T32 t315 x32_2).f0), .int .i64 ((rd_T32 t315 x32_2).f1), .int .i64 ((rd_T32 t315 x32_2).f2), .slice A318_3 ((rd_T32 t315 x32_2).f3).length c318_3, .slice none 0 0]) ?_ 4 _ rfl; (with_reducible repeat (first | refine blk_drewN ?_ _ | refine blk_drew ?_ | refine blk_alloc ?_ _)); refine blk_put (cs := #[.int .i64 ((rd_T32 t315 x32_2).f0), .int .i64 ((rd_T32 t315 x32_2).f1), .int .i64 ((rd_T32 t315 x32_2).f2), .slice none 0 0, .slice none 0 0]) ?_ 3 _ rfl; (with_reducible repeat (first | refine blk_drewN ?_ _ | refine blk_drew ?_ | refine blk_alloc ?_ _)); refine blk_put (cs := #[.int .i64 ((rd_T32 t315 x32_2).f0), .int .i64 ((rd_T32 t315 x32_2).f1), .int .i64 0, .slice none 0 0, .slice none 0 0]) ?_ 2 _ rfl; (with_reducible repeat (first | refine blk_drewN ?_ _ | refine blk_drew ?_ | refine blk_alloc ?_ _)); refine blk_put (cs := #[.int .i64 ((rd_T32 t315 x32_2).f0), .int .i64 0, .int .i64 0, .slice none 0 0, .slice none 0 0]) ?_ 1 _ rfl; (with_reducible repeat (first | refine blk_drewN ?_ _ | refine blk_drew ?_ | refine blk_alloc ?_ _)); refine blk_put (cs := #[.int .i64 0, .int .i64 0, .int .i64 0, .slice none 0 0, .slice none 0 0]) ?_ 0 _ rfl; (with_reducible repeat (first | refine blk_drewN ?_ _ | refine blk_drew ?_ | refine blk_alloc ?_ _)); exact BK319.out) hg (Kd.R_ne HO_5.out BK319.out (by decide))); have n7_ := Aside0.mk (hb); have n8_ := Aside0.mk (ho); clear HO_30; clear HO_315003; clear HO_315004; clear BK314; clear HL318_3; clear HL318_4; clear BK319; clear HB; clear HO_5; have HO_30 := n0_; have HO_315003 := n1_; have HO_315004 := n2_; have BK314 := n3_; have HL318_3 := n4_; have HL318_4 := n5_; have BK319 := n6_; have HB := n7_; have HO322 := n8_; clear n0_ n1_ n2_ n3_ n4_ n5_ n6_ n7_ n8_; clear ho hb hg hat; have hcz32_0 : w31.cell? ⟨gb319, 0, none⟩ = some (.int .i64 ((rd_T32 t315 x32_2).f0)) := (blk_cell BK319.out 0).trans rfl; have hcz32_1 : w31.cell? ⟨gb319, 1, none⟩ = some (.int .i64 ((rd_T32 t315 x32_2).f1)) := (blk_cell BK319.out 1).trans rfl; have hcz32_2 : w31.cell? ⟨gb319, 2, none⟩ = some (.int .i64 ((rd_T32 t315 x32_2).f2)) := (blk_cell BK319.out 2).trans rfl; have hcz32_3 : w31.cell? ⟨gb319, 3, none⟩ = some (.slice A318_3 ((rd_T32 t315 x32_2).f3).length c318_3) := (blk_cell BK319.out 3).trans rfl; have hcz32_4 : w31.cell? ⟨gb319, 4, none⟩ = some (.slice A318_4 ((rd_T32 t315 x32_2).f4).length c318_4) := (blk_cell BK319.out 4).trans rfl; have hfz32_0 := blk_frozen BK319.out 0; have hfz32_1 := blk_frozen BK319.out 1; have hfz32_2 := blk_frozen BK319.out 2; have hfz32_3 := blk_frozen BK319.out 3; have hfz32_4 := blk_frozen BK319.out 4))
                        go_roundg k2
                        case measure => have := HJ3.out; have := HK2.out; omega
                        case rel => exact ⟨(y320), (wrap64 (x32_2 + 1)), (by first | rfl | (simp; done) | (simp [*]; done)), H', ⟨by have := HJ3.out; have := HK2.out; omega⟩, ⟨by (with_reducible repeat (first | apply Kd.R_alloc | apply Kd.R_drewN | apply Kd.R_drew)); exact HO322.out⟩, ⟨by (with_reducible repeat (first | apply Kd.N_alloc | apply Kd.N_drewN | apply Kd.N_drew)); exact Kd.N_mono HO_30.out (fun _ hk => ⟨hk.2, hk.1.1⟩)⟩, ⟨by (with_reducible repeat (first | apply Kd.R_alloc | apply Kd.R_drewN | apply Kd.R_drew)); exact Kd.R_mono HO_315003.out (fun _ hk => hk.2)⟩, ⟨by (with_reducible repeat (first | apply Kd.N_alloc | apply Kd.N_drewN | apply Kd.N_drew)); exact Kd.N_mono HO_315004.out (fun _ hk => ⟨hk.2, ⟨hk.1.1, ⟨hk.1.2.1, hk.1.2.2.1⟩⟩⟩)⟩, ⟨by (with_reducible repeat (first | refine blk_drewN ?_ _ | refine blk_drew ?_ | refine blk_alloc ?_ _)); exact BK314.out⟩, ⟨by repeat (first | (with_reducible first | exact HB.out | apply below_alloc | apply pw_below_drewN | apply below_drew1 | refine below_set ?_ GE314.out | refine below_set ?_ GE319.out) | exact HB.out)⟩⟩
                    · rw [if_neg c19] at H
                      exact absurd H (by simp)
                  · rw [if_neg c18] at H
                    exact absurd H (by simp)
                · rw [if_neg c17] at H
                  exact absurd H (by simp)
              · rw [if_neg c16] at H
                have c16b0 : decide (x32_2 < (t315.length : Int)) = false := decide_eq_false c16
                clear c16
                have H' := Aside0.mk H
                clear H
                obtain ⟨Ao33, co33, eo33⟩ := Kd.R_slice HO_5.out
                subst eo33
                go_wp2
                (try simp only [Act.put, List.setIfInBounds_toArray, List.set_cons_zero, List.set_cons_succ])
                go_loopg [54] k2 (fun kq v54 w' => ∃ (x54_3 : Int), v54 = .int .i64 x54_3 ∧ Aside0 (laws_FnGjStringAt.l1 kq a0 x5_2 (x5_2.length : Int) x54_3 = some r) ∧ Aside0 (kq ≤ k2) ∧ Aside0 (Kd.R k37 37 w' w.heap.size (fun k_ => some k_ ≠ ((.slice Ao8 t307.length co8) : Value).ownBlock) (.slice Ao33 x5_2.length co33) x5_2) ∧ Aside0 (Kd.R k37 37 w' w.heap.size (fun k_ => some k_ ≠ ((.slice Ao33 x5_2.length co33) : Value).ownBlock) (.slice Ao8 t307.length co8) t307) ∧ Aside0 (Kd.N k32 32 w' w.heap.size (fun k_ => some k_ ≠ ((.slice Ao33 x5_2.length co33) : Value).ownBlock ∧ some k_ ≠ ((.slice Ao8 t307.length co8) : Value).ownBlock ∧ k_ ≠ gb314) (.slice Ao9 t310.length co9) t310) ∧ Aside0 (w'.heap[gb314]? = some (.cells #[.int .i64 t304, .int .i64 t305, .int .i64 t306, (.slice Ao8 t307.length co8), (.slice Ao9 t310.length co9)] 32 (0, 0))) ∧ Aside0 (Below w.heap.size w w'))
                case atStart => exact ⟨(0), (by first | rfl | (simp; done) | (simp [*]; done)), H', ⟨Nat.le_refl _⟩, ⟨by (with_reducible repeat (first | apply Kd.R_alloc | apply Kd.R_drewN | apply Kd.R_drew)); exact HO_5.out⟩, ⟨by (with_reducible repeat (first | apply Kd.R_alloc | apply Kd.R_drewN | apply Kd.R_drew)); exact HO_315003.out⟩, ⟨by (with_reducible repeat (first | apply Kd.N_alloc | apply Kd.N_drewN | apply Kd.N_drew)); exact Kd.N_mono HO_315004.out (fun _ hk => ⟨hk.1, ⟨hk.2.2.1, hk.2.2.2⟩⟩)⟩, ⟨by (with_reducible repeat (first | refine blk_drewN ?_ _ | refine blk_drew ?_ | refine blk_alloc ?_ _)); exact BK314.out⟩, ⟨by repeat (first | (with_reducible first | exact HB.out | apply below_alloc | apply pw_below_drewN | apply below_drew1 | refine below_set ?_ GE314.out) | exact HB.out)⟩⟩
                case round =>
                  clear H'
                  try clear c1
                  try clear c2
                  try clear c2b0
                  try clear c2b1
                  try clear p2
                  try clear c3
                  try clear p3
                  try clear q3
                  try clear hx3
                  try clear c5
                  try clear p6
                  try clear c10
                  try clear c11
                  try clear c12
                  try clear c13
                  try clear c16
                  try clear c16b0
                  try clear c17
                  try clear c17b0
                  try clear c18
                  try clear c18b0
                  try clear c19
                  try clear c20
                  try clear c20b0
                  try clear c20b1
                  try clear c21
                  try clear c23
                  try clear c29
                  try clear c31
                  try clear p31
                  try clear q31
                  try clear hx31
                  try clear hcz13_0
                  try clear hcz13_1
                  try clear hcz13_2
                  try clear hcz13_3
                  try clear hcz13_4
                  try clear hcz24_0
                  try clear hcz24_1
                  try clear hcz24_2
                  try clear hcz24_3
                  try clear hcz24_4
                  try clear hcz26_0
                  try clear hcz26_1
                  try clear hcz26_2
                  try clear hcz26_3
                  try clear hcz26_4
                  try clear hcz30_0
                  try clear hcz30_1
                  try clear hcz30_2
                  try clear hcz30_3
                  try clear hcz30_4
                  try clear hcz32_0
                  try clear hcz32_1
                  try clear hcz32_2
                  try clear hcz32_3
                  try clear hcz32_4
                  try clear hcz7_0
                  try clear hcz7_1
                  try clear hcz7_2
                  try clear hcz7_3
                  try clear hcz7_4
                  try clear hfz13_0
                  try clear hfz13_1
                  try clear hfz13_2
                  try clear hfz13_3
                  try clear hfz13_4
                  try clear hfz24_0
                  try clear hfz24_1
                  try clear hfz24_2
                  try clear hfz24_3
                  try clear hfz24_4
                  try clear hfz26_0
                  try clear hfz26_1
                  try clear hfz26_2
                  try clear hfz26_3
                  try clear hfz26_4
                  try clear hfz30_0
                  try clear hfz30_1
                  try clear hfz30_2
                  try clear hfz30_3
                  try clear hfz30_4
                  try clear hfz32_0
                  try clear hfz32_1
                  try clear hfz32_2
                  try clear hfz32_3
                  try clear hfz32_4
                  try clear hfz7_0
                  try clear hfz7_1
                  try clear hfz7_2
                  try clear hfz7_3
                  try clear hfz7_4
                  try clear hx318_0
                  try clear hx318_1
                  try clear hx318_2
                  try clear hx318_3
                  try clear hx318_4
                  try clear p2
                  try clear p318
                  try clear q318
                  obtain ⟨x54_3, rfl, HA, HK3, HO_52, HO_315003, HO_315004, BK314, HB⟩ := hrel
                  cases gk with
                  | zero => exact absurd HA.out (by simp [laws_FnGjStringAt.l1])
                  | succ k3 =>
                    have H := HA.out
                    clear HA
                    simp only [laws_FnGjStringAt.l1] at H
                    by_cases c34 : x54_3 < (x5_2.length : Int)
                    · rw [if_pos c34] at H
                      have c34b0 : decide (x54_3 < (x5_2.length : Int)) = true := decide_eq_true c34
                      clear c34
                      by_cases c35 : 0 ≤ x54_3
                      · rw [if_pos c35] at H
                        have c35b0 : decide (0 ≤ x54_3) = true := decide_eq_true c35
                        clear c35
                        by_cases c36 : x54_3 < (x5_2.length : Int)
                        · rw [if_pos c36] at H
                          have c36b0 : decide (x54_3 < (x5_2.length : Int)) = true := decide_eq_true c36
                          clear c36
                          replace H := Option.bind_eq_some_iff.mp H
                          obtain ⟨⟨t328, t329, t330, t331⟩, A370, H⟩ := H
                          replace H : (if t331 = true then (if t328 = ((rd_T37 x5_2 x54_3).f1) then (if 0 ≤ ((rd_T37 x5_2 x54_3).f0) then (if ((rd_T37 x5_2 x54_3).f0) ≤ ((rd_T37 x5_2 x54_3).f1) then (if ((rd_T37 x5_2 x54_3).f1) ≤ (a0.size : Int) then (if t329.toList = (a0.extract (((rd_T37 x5_2 x54_3).f0) : Int).toNat (((rd_T37 x5_2 x54_3).f1) : Int).toNat).toList then ((spec_Escaped.f k3 t329).bind fun t332 => (if (t330 != t332) = true then (some false) else (laws_FnGjStringAt.l1 k3 a0 x5_2 (x5_2.length : Int) (wrap64 (x54_3 + 1))))) else (some false)) else (none)) else (none)) else (none)) else (some false)) else (some false)) = some r := H
                          have A37 := Aside0.mk A370
                          clear A370
                          by_cases c38 : t331 = true
                          · subst c38
                            have H1 : (if t328 = ((rd_T37 x5_2 x54_3).f1) then (if 0 ≤ ((rd_T37 x5_2 x54_3).f0) then (if ((rd_T37 x5_2 x54_3).f0) ≤ ((rd_T37 x5_2 x54_3).f1) then (if ((rd_T37 x5_2 x54_3).f1) ≤ (a0.size : Int) then (if t329.toList = (a0.extract (((rd_T37 x5_2 x54_3).f0) : Int).toNat (((rd_T37 x5_2 x54_3).f1) : Int).toNat).toList then ((spec_Escaped.f k3 t329).bind fun t332 => (if (t330 != t332) = true then (some false) else (laws_FnGjStringAt.l1 k3 a0 x5_2 (x5_2.length : Int) (wrap64 (x54_3 + 1))))) else (some false)) else (none)) else (none)) else (none)) else (some false)) = some r := by rw [if_pos rfl] at H; exact H
                            clear H
                            have H := H1
                            clear H1
                            by_cases c39 : t328 = ((rd_T37 x5_2 x54_3).f1)
                            · rw [if_pos c39] at H
                              have c39b0 : (t328 == ((rd_T37 x5_2 x54_3).f1)) = true := beq_iff_eq.mpr c39
                              have c39b1 : (t328 != ((rd_T37 x5_2 x54_3).f1)) = false := bne_eq_false_iff_eq.mpr c39
                              clear c39
                              by_cases c40 : 0 ≤ ((rd_T37 x5_2 x54_3).f0)
                              · rw [if_pos c40] at H
                                have c40b0 := eq_true c40
                                have c40b1 : decide (0 ≤ ((rd_T37 x5_2 x54_3).f0)) = true := decide_eq_true c40
                                clear c40
                                by_cases c41 : ((rd_T37 x5_2 x54_3).f0) ≤ ((rd_T37 x5_2 x54_3).f1)
                                · rw [if_pos c41] at H
                                  have c41b0 := eq_true c41
                                  have c41b1 : decide (((rd_T37 x5_2 x54_3).f0) ≤ ((rd_T37 x5_2 x54_3).f1)) = true := decide_eq_true c41
                                  clear c41
                                  by_cases c42 : ((rd_T37 x5_2 x54_3).f1) ≤ (a0.size : Int)
                                  · rw [if_pos c42] at H
                                    have c42b0 := eq_true c42
                                    have c42b1 : decide (((rd_T37 x5_2 x54_3).f1) ≤ (a0.size : Int)) = true := decide_eq_true c42
                                    clear c42
                                    by_cases c43 : t329.toList = (a0.extract (((rd_T37 x5_2 x54_3).f0) : Int).toNat (((rd_T37 x5_2 x54_3).f1) : Int).toNat).toList
                                    · rw [if_pos c43] at H
                                      have c43b0 : (t329.toList == (a0.extract (((rd_T37 x5_2 x54_3).f0) : Int).toNat (((rd_T37 x5_2 x54_3).f1) : Int).toNat).toList) = true := beq_iff_eq.mpr c43
                                      have c43b1 : (t329.toList != (a0.extract (((rd_T37 x5_2 x54_3).f0) : Int).toNat (((rd_T37 x5_2 x54_3).f1) : Int).toNat).toList) = false := bne_eq_false_iff_eq.mpr c43
                                      clear c43
                                      replace H := Option.bind_eq_some_iff.mp H
                                      obtain ⟨t332, A440, H⟩ := H
                                      replace H : (if (t330 != t332) = true then (some false) else (laws_FnGjStringAt.l1 k3 a0 x5_2 (x5_2.length : Int) (wrap64 (x54_3 + 1)))) = some r := H
                                      have A44 := Aside0.mk A440
                                      clear A440
                                      by_cases c45 : (t330 != t332) = true
                                      · rw [if_pos c45] at H
                                        have c45b0 : (t330 != t332) = true := c45
                                        (try (have c45b1 : decide (t330 = t332) = false := by simpa using c45))
                                        (try (have c45b2 : (t330 == t332) = false := by simpa using c45))
                                        (try (have c45b3 : ¬ (t330 = t332) := by simpa using c45))
                                        clear c45
                                        obtain rfl := Option.some.inj H
                                        have p326 : 0 ≤ (x54_3 : Int) := of_decide_eq_true (by first | (with_reducible assumption) | assumption)
                                        have q326 : x54_3 < (x5_2.length : Int) := of_decide_eq_true (by first | (with_reducible assumption) | assumption)
                                        obtain ⟨ad326, e326, hx326_0, hx326_1⟩ := at_T37 (Kd.R_reads' HO_52.out).2.2 x54_3 p326 q326
                                        cases e326
                                        replace p326 := eq_true p326
                                        replace q326 := eq_true q326
                                        go_wp2_with (first | ((with_reducible refine gate_dst (N := 9) rfl ?_); (try (refine gate_guard (by rfl) ?_; dsimp only)); refine box_event ?hg (N := 9) ?hd (cs := #[.int .i64 0, .int .i64 0]) (t := 37) ?hr ?_; (case hd => rfl); (case hg => rfl); (case hr => first | (go_simp; done) | (go_simp; rfl)); intro gb327 hg w46 hbox hb; have n0_ := Aside0.mk (Kd.R_below (Kd.R_elderB (by (with_reducible repeat (first | apply Kd.R_alloc | apply Kd.R_drewN | apply Kd.R_drew)); exact HO_52.out) gb327 (Nat.le_of_eq hg.symm)) hb); have n1_ := Aside0.mk (Kd.R_below (Kd.R_elderB (by (with_reducible repeat (first | apply Kd.R_alloc | apply Kd.R_drewN | apply Kd.R_drew)); exact HO_315003.out) gb327 (Nat.le_of_eq hg.symm)) hb); have n2_ := Aside0.mk (Kd.N_below (Kd.N_elderB (by (with_reducible repeat (first | apply Kd.N_alloc | apply Kd.N_drewN | apply Kd.N_drew)); exact HO_315004.out) gb327 (Nat.le_of_eq hg.symm)) hb); have n3_ := Aside0.mk (blk_below (g := gb314) (o := .cells #[.int .i64 t304, .int .i64 t305, .int .i64 t306, .slice Ao8 t307.length co8, .slice Ao9 t310.length co9] 32 (0, 0)) (by (with_reducible repeat (first | refine blk_drewN ?_ _ | refine blk_drew ?_ | refine blk_alloc ?_ _)); exact BK314.out) hb); have n4_ := Aside0.mk (below_step (by repeat (first | (with_reducible first | exact HB.out | apply below_alloc | apply pw_below_drewN | apply below_drew1 | refine below_set ?_ GE314.out) | exact HB.out)) hb); have n5_ := Aside0.mk (hbox); have n6_ := Aside0.mk ((by rw [hg]; exact (below_size (by repeat (first | (with_reducible first | exact HB.out | apply below_alloc | apply pw_below_drewN | apply below_drew1 | refine below_set ?_ GE314.out) | exact HB.out))) : w.heap.size ≤ gb327)); have n7_ := Aside0.mk ((by rw [hg]; exact (below_size (by repeat (first | (with_reducible first | exact HB.out | apply below_alloc | apply pw_below_drewN | apply below_drew1 | refine below_set ?_ GE314.out) | exact HB.out))) : w.heap.size ≤ gb327)); have n8_ := Aside0.mk ((by rw [hg]; exact Nat.ne_of_lt (blk_lt (g := gb314) (o := .cells #[.int .i64 t304, .int .i64 t305, .int .i64 t306, .slice Ao8 t307.length co8, .slice Ao9 t310.length co9] 32 (0, 0)) (by (with_reducible repeat (first | refine blk_drewN ?_ _ | refine blk_drew ?_ | refine blk_alloc ?_ _)); exact BK314.out)) : gb314 ≠ gb327)); have n9_ := Aside0.mk ((by rw [hg]; exact Nat.ne_of_gt (blk_lt (g := gb314) (o := .cells #[.int .i64 t304, .int .i64 t305, .int .i64 t306, .slice Ao8 t307.length co8, .slice Ao9 t310.length co9] 32 (0, 0)) (by (with_reducible repeat (first | refine blk_drewN ?_ _ | refine blk_drew ?_ | refine blk_alloc ?_ _)); exact BK314.out)) : gb327 ≠ gb314)); clear HO_52; clear HO_315003; clear HO_315004; clear BK314; clear HB; have HO_52 := n0_; have HO_315003 := n1_; have HO_315004 := n2_; have BK314 := n3_; have HB := n4_; have BK327 := n5_; have GW327 := n6_; have GE327 := n7_; have NB314_327 := n8_; have NB327_314 := n9_; clear n0_ n1_ n2_ n3_ n4_ n5_ n6_ n7_ n8_ n9_; clear hb hbox hg; have hnb47 := NB327_314.out; have hnc47 := NB314_327.out; have hcz48_0 : w46.cell? ⟨gb327, 0, none⟩ = some (.int .i64 0) := (blk_cell BK327.out 0).trans rfl; have hcz48_1 : w46.cell? ⟨gb327, 1, none⟩ = some (.int .i64 0) := (blk_cell BK327.out 1).trans rfl; have hfz48_0 := blk_frozen BK327.out 0; have hfz48_1 := blk_frozen BK327.out 1) | ((with_reducible refine gate_callee (f := 14) rfl ?_); refine goesL_ (some 63) rfl rfl Try.func14 (by kernel_rfl) rfl #[.string a0, .int .i64 (wrap64 (((rd_T37 x5_2 x54_3).f0) + 1))] rfl (by (try simp only [List.map_toArray, List.map_cons, List.map_nil]); first | done | rfl | (simp only [List.length_drop, List.length_take]; rfl)) ?_; (with_reducible refine (impl_GjStringAt.calls k3 a0 (wrap64 (((rd_T37 x5_2 x54_3).f0) + 1)) t328 t329 t330 true _ A37.out).mono ?_); rintro e w' ⟨rfl, ⟨nd, rfl⟩⟩; refine ⟨_, rfl, ?_⟩) | (go_at_call 15; (with_reducible refine (spec_Escaped.calls k3 t329 t332 _ A44.out).mono ?_); rintro e w' ⟨rfl, ⟨nd, rfl⟩⟩))
                                        go_ret
                                        exact ⟨by first | rfl | (simp [errW_none, errW_some] <;> rfl) | (simp [*, errW_none, errW_some] <;> rfl), by repeat (first | (with_reducible first | exact HB.out | apply below_alloc | apply pw_below_drewN | apply below_drew1 | refine below_set ?_ GE314.out | refine below_set ?_ GE327.out) | exact HB.out)⟩
                                      · rw [if_neg c45] at H
                                        have c45b0 : (t330 != t332) = false := by simpa using c45
                                        (try (have c45b1 : decide (t330 = t332) = true := by simpa using c45))
                                        (try (have c45b2 : (t330 == t332) = true := by simpa using c45))
                                        clear c45
                                        have H' := Aside0.mk H
                                        clear H
                                        have p326 : 0 ≤ (x54_3 : Int) := of_decide_eq_true (by first | (with_reducible assumption) | assumption)
                                        have q326 : x54_3 < (x5_2.length : Int) := of_decide_eq_true (by first | (with_reducible assumption) | assumption)
                                        obtain ⟨ad326, e326, hx326_0, hx326_1⟩ := at_T37 (Kd.R_reads' HO_52.out).2.2 x54_3 p326 q326
                                        cases e326
                                        replace p326 := eq_true p326
                                        replace q326 := eq_true q326
                                        go_wp2_with (first | ((with_reducible refine gate_dst (N := 9) rfl ?_); (try (refine gate_guard (by rfl) ?_; dsimp only)); refine box_event ?hg (N := 9) ?hd (cs := #[.int .i64 0, .int .i64 0]) (t := 37) ?hr ?_; (case hd => rfl); (case hg => rfl); (case hr => first | (go_simp; done) | (go_simp; rfl)); intro gb327 hg w49 hbox hb; have n0_ := Aside0.mk (Kd.R_below (Kd.R_elderB (by (with_reducible repeat (first | apply Kd.R_alloc | apply Kd.R_drewN | apply Kd.R_drew)); exact HO_52.out) gb327 (Nat.le_of_eq hg.symm)) hb); have n1_ := Aside0.mk (Kd.R_below (Kd.R_elderB (by (with_reducible repeat (first | apply Kd.R_alloc | apply Kd.R_drewN | apply Kd.R_drew)); exact HO_315003.out) gb327 (Nat.le_of_eq hg.symm)) hb); have n2_ := Aside0.mk (Kd.N_below (Kd.N_elderB (by (with_reducible repeat (first | apply Kd.N_alloc | apply Kd.N_drewN | apply Kd.N_drew)); exact HO_315004.out) gb327 (Nat.le_of_eq hg.symm)) hb); have n3_ := Aside0.mk (blk_below (g := gb314) (o := .cells #[.int .i64 t304, .int .i64 t305, .int .i64 t306, .slice Ao8 t307.length co8, .slice Ao9 t310.length co9] 32 (0, 0)) (by (with_reducible repeat (first | refine blk_drewN ?_ _ | refine blk_drew ?_ | refine blk_alloc ?_ _)); exact BK314.out) hb); have n4_ := Aside0.mk (below_step (by repeat (first | (with_reducible first | exact HB.out | apply below_alloc | apply pw_below_drewN | apply below_drew1 | refine below_set ?_ GE314.out) | exact HB.out)) hb); have n5_ := Aside0.mk (hbox); have n6_ := Aside0.mk ((by rw [hg]; exact (below_size (by repeat (first | (with_reducible first | exact HB.out | apply below_alloc | apply pw_below_drewN | apply below_drew1 | refine below_set ?_ GE314.out) | exact HB.out))) : w.heap.size ≤ gb327)); have n7_ := Aside0.mk ((by rw [hg]; exact (below_size (by repeat (first | (with_reducible first | exact HB.out | apply below_alloc | apply pw_below_drewN | apply below_drew1 | refine below_set ?_ GE314.out) | exact HB.out))) : w.heap.size ≤ gb327)); have n8_ := Aside0.mk ((by rw [hg]; exact Nat.ne_of_lt (blk_lt (g := gb314) (o := .cells #[.int .i64 t304, .int .i64 t305, .int .i64 t306, .slice Ao8 t307.length co8, .slice Ao9 t310.length co9] 32 (0, 0)) (by (with_reducible repeat (first | refine blk_drewN ?_ _ | refine blk_drew ?_ | refine blk_alloc ?_ _)); exact BK314.out)) : gb314 ≠ gb327)); have n9_ := Aside0.mk ((by rw [hg]; exact Nat.ne_of_gt (blk_lt (g := gb314) (o := .cells #[.int .i64 t304, .int .i64 t305, .int .i64 t306, .slice Ao8 t307.length co8, .slice Ao9 t310.length co9] 32 (0, 0)) (by (with_reducible repeat (first | refine blk_drewN ?_ _ | refine blk_drew ?_ | refine blk_alloc ?_ _)); exact BK314.out)) : gb327 ≠ gb314)); clear HO_52; clear HO_315003; clear HO_315004; clear BK314; clear HB; have HO_52 := n0_; have HO_315003 := n1_; have HO_315004 := n2_; have BK314 := n3_; have HB := n4_; have BK327 := n5_; have GW327 := n6_; have GE327 := n7_; have NB314_327 := n8_; have NB327_314 := n9_; clear n0_ n1_ n2_ n3_ n4_ n5_ n6_ n7_ n8_ n9_; clear hb hbox hg; have hnb50 := NB327_314.out; have hnc50 := NB314_327.out; have hcz51_0 : w49.cell? ⟨gb327, 0, none⟩ = some (.int .i64 0) := (blk_cell BK327.out 0).trans rfl; have hcz51_1 : w49.cell? ⟨gb327, 1, none⟩ = some (.int .i64 0) := (blk_cell BK327.out 1).trans rfl; have hfz51_0 := blk_frozen BK327.out 0; have hfz51_1 := blk_frozen BK327.out 1) | ((with_reducible refine gate_callee (f := 14) rfl ?_); refine goesL_ (some 63) rfl rfl Try.func14 (by kernel_rfl) rfl #[.string a0, .int .i64 (wrap64 (((rd_T37 x5_2 x54_3).f0) + 1))] rfl (by (try simp only [List.map_toArray, List.map_cons, List.map_nil]); first | done | rfl | (simp only [List.length_drop, List.length_take]; rfl)) ?_; (with_reducible refine (impl_GjStringAt.calls k3 a0 (wrap64 (((rd_T37 x5_2 x54_3).f0) + 1)) t328 t329 t330 true _ A37.out).mono ?_); rintro e w' ⟨rfl, ⟨nd, rfl⟩⟩; refine ⟨_, rfl, ?_⟩) | (go_at_call 15; (with_reducible refine (spec_Escaped.calls k3 t329 t332 _ A44.out).mono ?_); rintro e w' ⟨rfl, ⟨nd, rfl⟩⟩))
                                        go_roundg k3
                                        case measure => have := HJ3.out; have := HK2.out; have := HK3.out; omega
                                        case rel => exact ⟨(wrap64 (x54_3 + 1)), (by first | rfl | (simp; done) | (simp [*]; done)), H', ⟨by have := HJ3.out; have := HK2.out; have := HK3.out; omega⟩, ⟨by (with_reducible repeat (first | apply Kd.R_alloc | apply Kd.R_drewN | apply Kd.R_drew)); exact Kd.R_mono (Kd.R_far (p := ⟨gb327, 1, none⟩) (Kd.R_far (p := ⟨gb327, 0, none⟩) (Kd.R_mono HO_52.out (fun k_ hk => (⟨hk, hk.2⟩ : _ ∧ k_ ≠ gb327))) (fun _ hk => hk.2) (.int .i64 ((rd_T37 x5_2 x54_3).f0))) (fun _ hk => hk.2) (.int .i64 ((rd_T37 x5_2 x54_3).f1))) (fun _ hk => hk.1.1)⟩, ⟨by (with_reducible repeat (first | apply Kd.R_alloc | apply Kd.R_drewN | apply Kd.R_drew)); exact Kd.R_mono (Kd.R_far (p := ⟨gb327, 1, none⟩) (Kd.R_far (p := ⟨gb327, 0, none⟩) (Kd.R_mono HO_315003.out (fun k_ hk => (⟨hk, hk.2⟩ : _ ∧ k_ ≠ gb327))) (fun _ hk => hk.2) (.int .i64 ((rd_T37 x5_2 x54_3).f0))) (fun _ hk => hk.2) (.int .i64 ((rd_T37 x5_2 x54_3).f1))) (fun _ hk => hk.1.1)⟩, ⟨by (with_reducible repeat (first | apply Kd.N_alloc | apply Kd.N_drewN | apply Kd.N_drew)); exact Kd.N_mono (Kd.N_far (p := ⟨gb327, 1, none⟩) (Kd.N_far (p := ⟨gb327, 0, none⟩) (Kd.N_mono HO_315004.out (fun k_ hk => (⟨hk, hk.2⟩ : _ ∧ k_ ≠ gb327))) (fun _ hk => hk.2) (.int .i64 ((rd_T37 x5_2 x54_3).f0))) (fun _ hk => hk.2) (.int .i64 ((rd_T37 x5_2 x54_3).f1))) (fun _ hk => ⟨hk.1.1.1, ⟨hk.1.1.2.1, hk.1.1.2.2⟩⟩)⟩, ⟨by (with_reducible repeat (first | refine blk_drewN ?_ _ | refine blk_drew ?_ | refine blk_alloc ?_ _)); refine blk_far ?_ NB314_327.out _; (with_reducible repeat (first | refine blk_drewN ?_ _ | refine blk_drew ?_ | refine blk_alloc ?_ _)); refine blk_far ?_ NB314_327.out _; (with_reducible repeat (first | refine blk_drewN ?_ _ | refine blk_drew ?_ | refine blk_alloc ?_ _)); exact BK314.out⟩, ⟨by repeat (first | (with_reducible first | exact HB.out | apply below_alloc | apply pw_below_drewN | apply below_drew1 | refine below_set ?_ GE314.out | refine below_set ?_ GE327.out) | exact HB.out)⟩⟩
                                    · rw [if_neg c43] at H
                                      have c43b0 : (t329.toList == (a0.extract (((rd_T37 x5_2 x54_3).f0) : Int).toNat (((rd_T37 x5_2 x54_3).f1) : Int).toNat).toList) = false := beq_eq_false_iff_ne.mpr c43
                                      have c43b1 : (t329.toList != (a0.extract (((rd_T37 x5_2 x54_3).f0) : Int).toNat (((rd_T37 x5_2 x54_3).f1) : Int).toNat).toList) = true := bne_iff_ne.mpr c43
                                      obtain rfl := Option.some.inj H
                                      have p326 : 0 ≤ (x54_3 : Int) := of_decide_eq_true (by first | (with_reducible assumption) | assumption)
                                      have q326 : x54_3 < (x5_2.length : Int) := of_decide_eq_true (by first | (with_reducible assumption) | assumption)
                                      obtain ⟨ad326, e326, hx326_0, hx326_1⟩ := at_T37 (Kd.R_reads' HO_52.out).2.2 x54_3 p326 q326
                                      cases e326
                                      replace p326 := eq_true p326
                                      replace q326 := eq_true q326
                                      go_wp2_with (first | ((with_reducible refine gate_dst (N := 9) rfl ?_); (try (refine gate_guard (by rfl) ?_; dsimp only)); refine box_event ?hg (N := 9) ?hd (cs := #[.int .i64 0, .int .i64 0]) (t := 37) ?hr ?_; (case hd => rfl); (case hg => rfl); (case hr => first | (go_simp; done) | (go_simp; rfl)); intro gb327 hg w52 hbox hb; have n0_ := Aside0.mk (Kd.R_below (Kd.R_elderB (by (with_reducible repeat (first | apply Kd.R_alloc | apply Kd.R_drewN | apply Kd.R_drew)); exact HO_52.out) gb327 (Nat.le_of_eq hg.symm)) hb); have n1_ := Aside0.mk (Kd.R_below (Kd.R_elderB (by (with_reducible repeat (first | apply Kd.R_alloc | apply Kd.R_drewN | apply Kd.R_drew)); exact HO_315003.out) gb327 (Nat.le_of_eq hg.symm)) hb); have n2_ := Aside0.mk (Kd.N_below (Kd.N_elderB (by (with_reducible repeat (first | apply Kd.N_alloc | apply Kd.N_drewN | apply Kd.N_drew)); exact HO_315004.out) gb327 (Nat.le_of_eq hg.symm)) hb); have n3_ := Aside0.mk (blk_below (g := gb314) (o := .cells #[.int .i64 t304, .int .i64 t305, .int .i64 t306, .slice Ao8 t307.length co8, .slice Ao9 t310.length co9] 32 (0, 0)) (by (with_reducible repeat (first | refine blk_drewN ?_ _ | refine blk_drew ?_ | refine blk_alloc ?_ _)); exact BK314.out) hb); have n4_ := Aside0.mk (below_step (by repeat (first | (with_reducible first | exact HB.out | apply below_alloc | apply pw_below_drewN | apply below_drew1 | refine below_set ?_ GE314.out) | exact HB.out)) hb); have n5_ := Aside0.mk (hbox); have n6_ := Aside0.mk ((by rw [hg]; exact (below_size (by repeat (first | (with_reducible first | exact HB.out | apply below_alloc | apply pw_below_drewN | apply below_drew1 | refine below_set ?_ GE314.out) | exact HB.out))) : w.heap.size ≤ gb327)); have n7_ := Aside0.mk ((by rw [hg]; exact (below_size (by repeat (first | (with_reducible first | exact HB.out | apply below_alloc | apply pw_below_drewN | apply below_drew1 | refine below_set ?_ GE314.out) | exact HB.out))) : w.heap.size ≤ gb327)); have n8_ := Aside0.mk ((by rw [hg]; exact Nat.ne_of_lt (blk_lt (g := gb314) (o := .cells #[.int .i64 t304, .int .i64 t305, .int .i64 t306, .slice Ao8 t307.length co8, .slice Ao9 t310.length co9] 32 (0, 0)) (by (with_reducible repeat (first | refine blk_drewN ?_ _ | refine blk_drew ?_ | refine blk_alloc ?_ _)); exact BK314.out)) : gb314 ≠ gb327)); have n9_ := Aside0.mk ((by rw [hg]; exact Nat.ne_of_gt (blk_lt (g := gb314) (o := .cells #[.int .i64 t304, .int .i64 t305, .int .i64 t306, .slice Ao8 t307.length co8, .slice Ao9 t310.length co9] 32 (0, 0)) (by (with_reducible repeat (first | refine blk_drewN ?_ _ | refine blk_drew ?_ | refine blk_alloc ?_ _)); exact BK314.out)) : gb327 ≠ gb314)); clear HO_52; clear HO_315003; clear HO_315004; clear BK314; clear HB; have HO_52 := n0_; have HO_315003 := n1_; have HO_315004 := n2_; have BK314 := n3_; have HB := n4_; have BK327 := n5_; have GW327 := n6_; have GE327 := n7_; have NB314_327 := n8_; have NB327_314 := n9_; clear n0_ n1_ n2_ n3_ n4_ n5_ n6_ n7_ n8_ n9_; clear hb hbox hg; have hnb53 := NB327_314.out; have hnc53 := NB314_327.out; have hcz54_0 : w52.cell? ⟨gb327, 0, none⟩ = some (.int .i64 0) := (blk_cell BK327.out 0).trans rfl; have hcz54_1 : w52.cell? ⟨gb327, 1, none⟩ = some (.int .i64 0) := (blk_cell BK327.out 1).trans rfl; have hfz54_0 := blk_frozen BK327.out 0; have hfz54_1 := blk_frozen BK327.out 1) | ((with_reducible refine gate_callee (f := 14) rfl ?_); refine goesL_ (some 63) rfl rfl Try.func14 (by kernel_rfl) rfl #[.string a0, .int .i64 (wrap64 (((rd_T37 x5_2 x54_3).f0) + 1))] rfl (by (try simp only [List.map_toArray, List.map_cons, List.map_nil]); first | done | rfl | (simp only [List.length_drop, List.length_take]; rfl)) ?_; (with_reducible refine (impl_GjStringAt.calls k3 a0 (wrap64 (((rd_T37 x5_2 x54_3).f0) + 1)) t328 t329 t330 true _ A37.out).mono ?_); rintro e w' ⟨rfl, ⟨nd, rfl⟩⟩; refine ⟨_, rfl, ?_⟩))
                                      go_ret
                                      exact ⟨by first | rfl | (simp [errW_none, errW_some] <;> rfl) | (simp [*, errW_none, errW_some] <;> rfl), by repeat (first | (with_reducible first | exact HB.out | apply below_alloc | apply pw_below_drewN | apply below_drew1 | refine below_set ?_ GE314.out | refine below_set ?_ GE327.out) | exact HB.out)⟩
                                  · rw [if_neg c42] at H
                                    exact absurd H (by simp)
                                · rw [if_neg c41] at H
                                  exact absurd H (by simp)
                              · rw [if_neg c40] at H
                                exact absurd H (by simp)
                            · rw [if_neg c39] at H
                              have c39b0 : (t328 == ((rd_T37 x5_2 x54_3).f1)) = false := beq_eq_false_iff_ne.mpr c39
                              have c39b1 : (t328 != ((rd_T37 x5_2 x54_3).f1)) = true := bne_iff_ne.mpr c39
                              obtain rfl := Option.some.inj H
                              have p326 : 0 ≤ (x54_3 : Int) := of_decide_eq_true (by first | (with_reducible assumption) | assumption)
                              have q326 : x54_3 < (x5_2.length : Int) := of_decide_eq_true (by first | (with_reducible assumption) | assumption)
                              obtain ⟨ad326, e326, hx326_0, hx326_1⟩ := at_T37 (Kd.R_reads' HO_52.out).2.2 x54_3 p326 q326
                              cases e326
                              replace p326 := eq_true p326
                              replace q326 := eq_true q326
                              go_wp2_with (first | ((with_reducible refine gate_dst (N := 9) rfl ?_); (try (refine gate_guard (by rfl) ?_; dsimp only)); refine box_event ?hg (N := 9) ?hd (cs := #[.int .i64 0, .int .i64 0]) (t := 37) ?hr ?_; (case hd => rfl); (case hg => rfl); (case hr => first | (go_simp; done) | (go_simp; rfl)); intro gb327 hg w55 hbox hb; have n0_ := Aside0.mk (Kd.R_below (Kd.R_elderB (by (with_reducible repeat (first | apply Kd.R_alloc | apply Kd.R_drewN | apply Kd.R_drew)); exact HO_52.out) gb327 (Nat.le_of_eq hg.symm)) hb); have n1_ := Aside0.mk (Kd.R_below (Kd.R_elderB (by (with_reducible repeat (first | apply Kd.R_alloc | apply Kd.R_drewN | apply Kd.R_drew)); exact HO_315003.out) gb327 (Nat.le_of_eq hg.symm)) hb); have n2_ := Aside0.mk (Kd.N_below (Kd.N_elderB (by (with_reducible repeat (first | apply Kd.N_alloc | apply Kd.N_drewN | apply Kd.N_drew)); exact HO_315004.out) gb327 (Nat.le_of_eq hg.symm)) hb); have n3_ := Aside0.mk (blk_below (g := gb314) (o := .cells #[.int .i64 t304, .int .i64 t305, .int .i64 t306, .slice Ao8 t307.length co8, .slice Ao9 t310.length co9] 32 (0, 0)) (by (with_reducible repeat (first | refine blk_drewN ?_ _ | refine blk_drew ?_ | refine blk_alloc ?_ _)); exact BK314.out) hb); have n4_ := Aside0.mk (below_step (by repeat (first | (with_reducible first | exact HB.out | apply below_alloc | apply pw_below_drewN | apply below_drew1 | refine below_set ?_ GE314.out) | exact HB.out)) hb); have n5_ := Aside0.mk (hbox); have n6_ := Aside0.mk ((by rw [hg]; exact (below_size (by repeat (first | (with_reducible first | exact HB.out | apply below_alloc | apply pw_below_drewN | apply below_drew1 | refine below_set ?_ GE314.out) | exact HB.out))) : w.heap.size ≤ gb327)); have n7_ := Aside0.mk ((by rw [hg]; exact (below_size (by repeat (first | (with_reducible first | exact HB.out | apply below_alloc | apply pw_below_drewN | apply below_drew1 | refine below_set ?_ GE314.out) | exact HB.out))) : w.heap.size ≤ gb327)); have n8_ := Aside0.mk ((by rw [hg]; exact Nat.ne_of_lt (blk_lt (g := gb314) (o := .cells #[.int .i64 t304, .int .i64 t305, .int .i64 t306, .slice Ao8 t307.length co8, .slice Ao9 t310.length co9] 32 (0, 0)) (by (with_reducible repeat (first | refine blk_drewN ?_ _ | refine blk_drew ?_ | refine blk_alloc ?_ _)); exact BK314.out)) : gb314 ≠ gb327)); have n9_ := Aside0.mk ((by rw [hg]; exact Nat.ne_of_gt (blk_lt (g := gb314) (o := .cells #[.int .i64 t304, .int .i64 t305, .int .i64 t306, .slice Ao8 t307.length co8, .slice Ao9 t310.length co9] 32 (0, 0)) (by (with_reducible repeat (first | refine blk_drewN ?_ _ | refine blk_drew ?_ | refine blk_alloc ?_ _)); exact BK314.out)) : gb327 ≠ gb314)); clear HO_52; clear HO_315003; clear HO_315004; clear BK314; clear HB; have HO_52 := n0_; have HO_315003 := n1_; have HO_315004 := n2_; have BK314 := n3_; have HB := n4_; have BK327 := n5_; have GW327 := n6_; have GE327 := n7_; have NB314_327 := n8_; have NB327_314 := n9_; clear n0_ n1_ n2_ n3_ n4_ n5_ n6_ n7_ n8_ n9_; clear hb hbox hg; have hnb56 := NB327_314.out; have hnc56 := NB314_327.out; have hcz57_0 : w55.cell? ⟨gb327, 0, none⟩ = some (.int .i64 0) := (blk_cell BK327.out 0).trans rfl; have hcz57_1 : w55.cell? ⟨gb327, 1, none⟩ = some (.int .i64 0) := (blk_cell BK327.out 1).trans rfl; have hfz57_0 := blk_frozen BK327.out 0; have hfz57_1 := blk_frozen BK327.out 1) | ((with_reducible refine gate_callee (f := 14) rfl ?_); refine goesL_ (some 63) rfl rfl Try.func14 (by kernel_rfl) rfl #[.string a0, .int .i64 (wrap64 (((rd_T37 x5_2 x54_3).f0) + 1))] rfl (by (try simp only [List.map_toArray, List.map_cons, List.map_nil]); first | done | rfl | (simp only [List.length_drop, List.length_take]; rfl)) ?_; (with_reducible refine (impl_GjStringAt.calls k3 a0 (wrap64 (((rd_T37 x5_2 x54_3).f0) + 1)) t328 t329 t330 true _ A37.out).mono ?_); rintro e w' ⟨rfl, ⟨nd, rfl⟩⟩; refine ⟨_, rfl, ?_⟩))
                              go_ret
                              exact ⟨by first | rfl | (simp [errW_none, errW_some] <;> rfl) | (simp [*, errW_none, errW_some] <;> rfl), by repeat (first | (with_reducible first | exact HB.out | apply below_alloc | apply pw_below_drewN | apply below_drew1 | refine below_set ?_ GE314.out | refine below_set ?_ GE327.out) | exact HB.out)⟩
                          · replace c38 := Bool.eq_false_iff.mpr c38
                            subst c38
                            have H1 : (some false) = some r := by rw [if_neg (show ¬ (false = true) by decide)] at H; exact H
                            clear H
                            have H := H1
                            clear H1
                            obtain rfl := Option.some.inj H
                            have p326 : 0 ≤ (x54_3 : Int) := of_decide_eq_true (by first | (with_reducible assumption) | assumption)
                            have q326 : x54_3 < (x5_2.length : Int) := of_decide_eq_true (by first | (with_reducible assumption) | assumption)
                            obtain ⟨ad326, e326, hx326_0, hx326_1⟩ := at_T37 (Kd.R_reads' HO_52.out).2.2 x54_3 p326 q326
                            cases e326
                            replace p326 := eq_true p326
                            replace q326 := eq_true q326
                            go_wp2_with (first | ((with_reducible refine gate_dst (N := 9) rfl ?_); (try (refine gate_guard (by rfl) ?_; dsimp only)); refine box_event ?hg (N := 9) ?hd (cs := #[.int .i64 0, .int .i64 0]) (t := 37) ?hr ?_; (case hd => rfl); (case hg => rfl); (case hr => first | (go_simp; done) | (go_simp; rfl)); intro gb327 hg w58 hbox hb; have n0_ := Aside0.mk (Kd.R_below (Kd.R_elderB (by (with_reducible repeat (first | apply Kd.R_alloc | apply Kd.R_drewN | apply Kd.R_drew)); exact HO_52.out) gb327 (Nat.le_of_eq hg.symm)) hb); have n1_ := Aside0.mk (Kd.R_below (Kd.R_elderB (by (with_reducible repeat (first | apply Kd.R_alloc | apply Kd.R_drewN | apply Kd.R_drew)); exact HO_315003.out) gb327 (Nat.le_of_eq hg.symm)) hb); have n2_ := Aside0.mk (Kd.N_below (Kd.N_elderB (by (with_reducible repeat (first | apply Kd.N_alloc | apply Kd.N_drewN | apply Kd.N_drew)); exact HO_315004.out) gb327 (Nat.le_of_eq hg.symm)) hb); have n3_ := Aside0.mk (blk_below (g := gb314) (o := .cells #[.int .i64 t304, .int .i64 t305, .int .i64 t306, .slice Ao8 t307.length co8, .slice Ao9 t310.length co9] 32 (0, 0)) (by (with_reducible repeat (first | refine blk_drewN ?_ _ | refine blk_drew ?_ | refine blk_alloc ?_ _)); exact BK314.out) hb); have n4_ := Aside0.mk (below_step (by repeat (first | (with_reducible first | exact HB.out | apply below_alloc | apply pw_below_drewN | apply below_drew1 | refine below_set ?_ GE314.out) | exact HB.out)) hb); have n5_ := Aside0.mk (hbox); have n6_ := Aside0.mk ((by rw [hg]; exact (below_size (by repeat (first | (with_reducible first | exact HB.out | apply below_alloc | apply pw_below_drewN | apply below_drew1 | refine below_set ?_ GE314.out) | exact HB.out))) : w.heap.size ≤ gb327)); have n7_ := Aside0.mk ((by rw [hg]; exact (below_size (by repeat (first | (with_reducible first | exact HB.out | apply below_alloc | apply pw_below_drewN | apply below_drew1 | refine below_set ?_ GE314.out) | exact HB.out))) : w.heap.size ≤ gb327)); have n8_ := Aside0.mk ((by rw [hg]; exact Nat.ne_of_lt (blk_lt (g := gb314) (o := .cells #[.int .i64 t304, .int .i64 t305, .int .i64 t306, .slice Ao8 t307.length co8, .slice Ao9 t310.length co9] 32 (0, 0)) (by (with_reducible repeat (first | refine blk_drewN ?_ _ | refine blk_drew ?_ | refine blk_alloc ?_ _)); exact BK314.out)) : gb314 ≠ gb327)); have n9_ := Aside0.mk ((by rw [hg]; exact Nat.ne_of_gt (blk_lt (g := gb314) (o := .cells #[.int .i64 t304, .int .i64 t305, .int .i64 t306, .slice Ao8 t307.length co8, .slice Ao9 t310.length co9] 32 (0, 0)) (by (with_reducible repeat (first | refine blk_drewN ?_ _ | refine blk_drew ?_ | refine blk_alloc ?_ _)); exact BK314.out)) : gb327 ≠ gb314)); clear HO_52; clear HO_315003; clear HO_315004; clear BK314; clear HB; have HO_52 := n0_; have HO_315003 := n1_; have HO_315004 := n2_; have BK314 := n3_; have HB := n4_; have BK327 := n5_; have GW327 := n6_; have GE327 := n7_; have NB314_327 := n8_; have NB327_314 := n9_; clear n0_ n1_ n2_ n3_ n4_ n5_ n6_ n7_ n8_ n9_; clear hb hbox hg; have hnb59 := NB327_314.out; have hnc59 := NB314_327.out; have hcz60_0 : w58.cell? ⟨gb327, 0, none⟩ = some (.int .i64 0) := (blk_cell BK327.out 0).trans rfl; have hcz60_1 : w58.cell? ⟨gb327, 1, none⟩ = some (.int .i64 0) := (blk_cell BK327.out 1).trans rfl; have hfz60_0 := blk_frozen BK327.out 0; have hfz60_1 := blk_frozen BK327.out 1) | ((with_reducible refine gate_callee (f := 14) rfl ?_); refine goesL_ (some 63) rfl rfl Try.func14 (by kernel_rfl) rfl #[.string a0, .int .i64 (wrap64 (((rd_T37 x5_2 x54_3).f0) + 1))] rfl (by (try simp only [List.map_toArray, List.map_cons, List.map_nil]); first | done | rfl | (simp only [List.length_drop, List.length_take]; rfl)) ?_; (with_reducible refine (impl_GjStringAt.calls k3 a0 (wrap64 (((rd_T37 x5_2 x54_3).f0) + 1)) t328 t329 t330 false _ A37.out).mono ?_); rintro e w' ⟨rfl, ⟨nd, rfl⟩⟩; refine ⟨_, rfl, ?_⟩))
                            go_ret
                            exact ⟨by first | rfl | (simp [errW_none, errW_some] <;> rfl) | (simp [*, errW_none, errW_some] <;> rfl), by repeat (first | (with_reducible first | exact HB.out | apply below_alloc | apply pw_below_drewN | apply below_drew1 | refine below_set ?_ GE314.out | refine below_set ?_ GE327.out) | exact HB.out)⟩
                        · rw [if_neg c36] at H
                          exact absurd H (by simp)
                      · rw [if_neg c35] at H
                        exact absurd H (by simp)
                    · rw [if_neg c34] at H
                      have c34b0 : decide (x54_3 < (x5_2.length : Int)) = false := decide_eq_false c34
                      clear c34
                      obtain rfl := Option.some.inj H
                      go_wp2
                      go_ret
                      exact ⟨by first | rfl | (simp [errW_none, errW_some] <;> rfl) | (simp [*, errW_none, errW_some] <;> rfl), by repeat (first | (with_reducible first | exact HB.out | apply below_alloc | apply pw_below_drewN | apply below_drew1 | refine below_set ?_ GE314.out) | exact HB.out)⟩

/-- THE ONE PURE STATEMENT of laws_FnGjStringAt: yours. -/
def laws_FnGjStringAt.Pure : Prop := ∀ (a0 : ByteArray), a0.size ≤ 140737488351232 → ∃ k, laws_FnGjStringAt.f k a0 = some true
theorem laws_FnGjStringAt.walk (P : laws_FnGjStringAt.Pure) (a0 : ByteArray) (w : World) (w0 : a0.size ≤ 140737488351232) :
    Calls Try.prog 5 #[.string a0] w fun e w' => e = .returned (.bool true) ∧ Below w.heap.size w w' := by
  obtain ⟨k, h⟩ := P a0 w0
  refine (laws_FnGjStringAt.calls k a0 true w h).mono ?_
  rintro e w' ⟨rfl, hd⟩
  exact ⟨rfl, hd⟩

end Go.Proofs.Ytikdecjojfmjaaa.PFnGjStringAt
