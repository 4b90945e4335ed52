-- PRINTED BY print.sh 35421559b90ae4d0a3588c463048766b98c2df88dd9212a6774a882060cdf62d: not written by this session
import Derived.Test.YtikdecjojfmjaaaPFnPaTokenBackx0
namespace Go.Proofs.Ytikdecjojfmjaaa.PFnPaTokenBack
open Go.RowKit Go.Proofs.YtikdecjojfmjaaaW.PrintWords Go.Proofs.YtikdecjojfmjaaaW.PrintLast Go.Proofs.YtikdecjojfmjaaaW.PrintMore
attribute [local go_sem] max2_int min2_int max_two min_two max_three min_three max_four min_four   -- for this text's walks alone
set_option linter.unusedVariables false
set_option linter.unusedSimpArgs false

/-! ### jsonpatch_zzDecode: function 55 -/
mutual
def jsonpatch_zzDecode.l0 : Nat → ByteArray → List Int → Int → Option (ByteArray)
  | 0, _, _, _ => none
  | k + 1, x0, x3, x4 => if x4 < (x0.size : Int) then (if 0 ≤ x4 then (if (bt x0 x4) = 126 then (if (wrap64 (x4 + 1)) < (x0.size : Int) then (if 0 ≤ (wrap64 (x4 + 1)) then (if (bt x0 (wrap64 (x4 + 1))) = 48 then (jsonpatch_zzDecode.j1 k x0 x3 x4 true) else (jsonpatch_zzDecode.j1 k x0 x3 x4 ((bt x0 (wrap64 (x4 + 1))) == 49))) else (none)) else (jsonpatch_zzDecode.j1 k x0 x3 x4 false)) else (jsonpatch_zzDecode.j1 k x0 x3 x4 false)) else (none)) else (some (strOfNums x3))
def jsonpatch_zzDecode.j1 : Nat → ByteArray → List Int → Int → Bool → Option (ByteArray)
  | 0, _, _, _, _ => none
  | k + 1, x0, x3, x4, x35 => if x35 = true then (if 0 ≤ (wrap64 (x4 + 1)) then (if (wrap64 (x4 + 1)) < (x0.size : Int) then (if (bt x0 (wrap64 (x4 + 1))) = 49 then (if x3.length < 140737488355328 then (jsonpatch_zzDecode.l0 k x0 (x3 ++ [47]) (wrap64 ((wrap64 (x4 + 1)) + 1))) else (none)) else (if x3.length < 140737488355328 then (jsonpatch_zzDecode.l0 k x0 (x3 ++ [126]) (wrap64 ((wrap64 (x4 + 1)) + 1))) else (none))) else (none)) else (none)) else (if 0 ≤ x4 then (if x4 < (x0.size : Int) then (if x3.length < 140737488355328 then (jsonpatch_zzDecode.l0 k x0 (x3 ++ [bt x0 x4]) (wrap64 (x4 + 1))) else (none)) else (none)) else (none))
end
def jsonpatch_zzDecode.f (k : Nat) (a0 : ByteArray) : Option (ByteArray) := jsonpatch_zzDecode.l0 k a0 ([] : List Int) 0
theorem jsonpatch_zzDecode.mono_l : ∀ k, (∀ y0 y1 y2, LeO (jsonpatch_zzDecode.l0 k y0 y1 y2) (jsonpatch_zzDecode.l0 (k + 1) y0 y1 y2)) ∧ (∀ y0 y1 y2 y3, LeO (jsonpatch_zzDecode.j1 k y0 y1 y2 y3) (jsonpatch_zzDecode.j1 (k + 1) y0 y1 y2 y3))
  | 0 => ⟨fun _ _ _ r h => by simp [jsonpatch_zzDecode.l0] at h, fun _ _ _ _ r h => by simp [jsonpatch_zzDecode.j1] at h⟩
  | k + 1 => by
    obtain ⟨ih0, ih1⟩ := jsonpatch_zzDecode.mono_l k
    refine ⟨?_, ?_⟩
    · intro y0 y1 y2
      unfold jsonpatch_zzDecode.l0
      repeat' first
      | (with_reducible exact ih0 _ _ _)
      | (with_reducible exact ih1 _ _ _ _)
      | (with_reducible exact LeO.refl _)
      | (with_reducible exact LeO.none _)
      | (with_reducible refine LeO.ite ?_ ?_)
      | (with_reducible refine LeO.bind ?_ (fun _ => ?_))
      | exact ih0 _ _ _
      | exact ih1 _ _ _ _
      | exact LeO.none _
      | refine LeO.ite ?_ ?_
      | refine LeO.bind ?_ (fun _ => ?_)
    · intro y0 y1 y2 y3
      unfold jsonpatch_zzDecode.j1
      repeat' first
      | (with_reducible exact ih0 _ _ _)
      | (with_reducible exact ih1 _ _ _ _)
      | (with_reducible exact LeO.refl _)
      | (with_reducible exact LeO.none _)
      | (with_reducible refine LeO.ite ?_ ?_)
      | (with_reducible refine LeO.bind ?_ (fun _ => ?_))
      | exact ih0 _ _ _
      | exact ih1 _ _ _ _
      | exact LeO.none _
      | refine LeO.ite ?_ ?_
      | refine LeO.bind ?_ (fun _ => ?_)
theorem jsonpatch_zzDecode.mono : ∀ a0 k, LeO (jsonpatch_zzDecode.f k a0) (jsonpatch_zzDecode.f (k + 1) a0) := by
  intro a0 k
  obtain ⟨ih0, ih1⟩ := jsonpatch_zzDecode.mono_l k
  unfold jsonpatch_zzDecode.f
  repeat' first
      | (with_reducible exact ih0 _ _ _)
      | (with_reducible exact ih1 _ _ _ _)
      | (with_reducible exact LeO.refl _)
      | (with_reducible exact LeO.none _)
      | (with_reducible refine LeO.ite ?_ ?_)
      | (with_reducible refine LeO.bind ?_ (fun _ => ?_))
      | exact ih0 _ _ _
      | exact ih1 _ _ _ _
      | exact LeO.none _
      | refine LeO.ite ?_ ?_
      | refine LeO.bind ?_ (fun _ => ?_)
set_option maxHeartbeats 8000000 in
set_option maxRecDepth 100000 in
theorem jsonpatch_zzDecode.calls (k : Nat) (a0 : ByteArray) (r : ByteArray) (w : World) (h : jsonpatch_zzDecode.f k a0 = some r) :
    Calls Try.prog 55 #[.string a0] w fun e w' => e = .returned (.string r) ∧ Below w.heap.size w w' := by
  have HB := Aside0.mk (Below.refl w.heap.size w)
  have H : (jsonpatch_zzDecode.l0 k a0 ([] : List Int) 0) = some r := h
  clear h
  have H' := Aside0.mk H
  clear H
  go_enter Try.func55, Try.ntmps55
  go_wp2
  go_loopg [3, 4] k (fun kq v3 v4 w' => ∃ (x3_1 : List Int) (x4_1 : Int), v4 = .int .i64 x4_1 ∧ Aside0 (jsonpatch_zzDecode.l0 kq a0 x3_1 x4_1 = some r) ∧ Aside0 (kq ≤ k) ∧ Aside0 (Kd.R (Kd.int .u8) 5 w' w.heap.size (fun _ => True) v3 x3_1) ∧ Aside0 (Below w.heap.size w w'))
  case atStart => exact ⟨(([] : List Int)), (0), (by first | rfl | (simp; done) | (simp [*]; done)), H', ⟨Nat.le_refl _⟩, ⟨by first | exact Kd.R_nil _ _ _ _ _ | exact Kd.N_nil _ _ _ _ _ | exact Kd.V_nil _ _ _ _ _ | exact Kd.Q_nil _ _ _ _ _ | exact Kd.S_nil _ _ _ _ _⟩, ⟨by repeat (first | (with_reducible first | exact HB.out | apply below_alloc | apply pw_below_drewN | apply below_drew1) | exact HB.out)⟩⟩
  case round =>
    clear H'
    obtain ⟨x3_1, x4_1, rfl, HA, HK1, HO_3, HB⟩ := hrel
    cases gk with
    | zero => exact absurd HA.out (by simp [jsonpatch_zzDecode.l0])
    | succ k1 =>
      have H := HA.out
      clear HA
      simp only [jsonpatch_zzDecode.l0] at H
      by_cases c2 : x4_1 < (a0.size : Int)
      · rw [if_pos c2] at H
        have c2b0 : decide (x4_1 < (a0.size : Int)) = true := decide_eq_true c2
        clear c2
        have HC3 := Aside0.mk H
        clear H
        go_upto_region 5 with (fail)
        go_cut [35] (fun v35 wc => ∃ (kq : Nat) (x35_2 : Bool), v35 = .bool x35_2 ∧ Aside0 (jsonpatch_zzDecode.j1 kq a0 x3_1 x4_1 x35_2 = some r) ∧ Aside0 (kq ≤ k1) ∧ Aside0 (Kd.R (Kd.int .u8) 5 wc w.heap.size (fun _ => True) u3 x3_1) ∧ Aside0 (Below w.heap.size w wc))
        case first =>
          have H := HC3.out
          clear HC3
          by_cases c4 : 0 ≤ x4_1
          · rw [if_pos c4] at H
            have c4b0 : decide (0 ≤ x4_1) = true := decide_eq_true c4
            clear c4
            (first | rw [c4b0] | (simp only [i64_w, i32_w]; rw [c4b0]) | skip)
            by_cases c6 : (bt a0 x4_1) = 126
            · rw [if_pos c6] at H
              have c6b0 : ((bt a0 x4_1) == 126) = true := beq_iff_eq.mpr c6
              have c6b1 : ((bt a0 x4_1) != 126) = false := bne_eq_false_iff_eq.mpr c6
              clear c6
              by_cases c7 : (wrap64 (x4_1 + 1)) < (a0.size : Int)
              · rw [if_pos c7] at H
                have c7b0 : decide ((wrap64 (x4_1 + 1)) < (a0.size : Int)) = true := decide_eq_true c7
                clear c7
                obtain ⟨ji8, hji8⟩ : ∃ j_ : Int, (wrap64 (x4_1 + 1)) = j_ := ⟨_, rfl⟩
                replace H : (if 0 ≤ (ji8) then (if (bt a0 (ji8)) = 48 then (jsonpatch_zzDecode.j1 k1 a0 x3_1 x4_1 true) else (jsonpatch_zzDecode.j1 k1 a0 x3_1 x4_1 ((bt a0 (ji8)) == 49))) else (none)) = some r := by first | (rw [hji8] at H; exact H) | (simp only [hji8] at H ⊢; exact H)
                (try rw [hji8] at c7b0)
                have hji8w : (IntKind.i64.wrap (x4_1 + 1)) = ji8 := (i64_w _).trans hji8
                by_cases c9 : 0 ≤ (ji8)
                · rw [if_pos c9] at H
                  have c9b0 : decide (0 ≤ (ji8)) = true := decide_eq_true c9
                  clear c9
                  by_cases c11 : (bt a0 (ji8)) = 48
                  · rw [if_pos c11] at H
                    have c11b0 : ((bt a0 (ji8)) == 48) = true := beq_iff_eq.mpr c11
                    have c11b1 : ((bt a0 (ji8)) != 48) = false := bne_eq_false_iff_eq.mpr c11
                    clear c11
                    have H' := Aside0.mk H
                    clear H
                    have p5 : 0 ≤ (x4_1 : Int) := of_decide_eq_true (by first | (with_reducible assumption) | assumption)
                    have q5 : x4_1 < (a0.size : Int) := of_decide_eq_true (by first | (with_reducible assumption) | assumption)
                    have hx5 := bt_at a0 x4_1
                    replace p5 := eq_true p5
                    replace q5 := eq_true q5
                    have p10 : 0 ≤ ((ji8) : Int) := of_decide_eq_true (by first | (with_reducible assumption) | assumption)
                    have q10 : (ji8) < (a0.size : Int) := of_decide_eq_true (by first | (with_reducible assumption) | assumption)
                    have hx10 := bt_at a0 (ji8)
                    replace p10 := eq_true p10
                    replace q10 := eq_true q10
                    go_wp2
                    go_meet
                    case rel => exact ⟨_, (true), (by first | rfl | (simp; done) | (simp [*]; done)), H', ⟨by have := HK1.out; first | omega | exact Nat.le_refl _⟩, ⟨by (with_reducible repeat (first | apply Kd.R_alloc | apply Kd.R_drewN | apply Kd.R_drew)); exact HO_3.out⟩, ⟨by repeat (first | (with_reducible first | exact HB.out | apply below_alloc | apply pw_below_drewN | apply below_drew1) | exact HB.out)⟩⟩
                  · rw [if_neg c11] at H
                    have c11b0 : ((bt a0 (ji8)) == 48) = false := beq_eq_false_iff_ne.mpr c11
                    have c11b1 : ((bt a0 (ji8)) != 48) = true := bne_iff_ne.mpr c11
                    have H' := Aside0.mk H
                    clear H
                    have p5 : 0 ≤ (x4_1 : Int) := of_decide_eq_true (by first | (with_reducible assumption) | assumption)
                    have q5 : x4_1 < (a0.size : Int) := of_decide_eq_true (by first | (with_reducible assumption) | assumption)
                    have hx5 := bt_at a0 x4_1
                    replace p5 := eq_true p5
                    replace q5 := eq_true q5
                    have p10 : 0 ≤ ((ji8) : Int) := of_decide_eq_true (by first | (with_reducible assumption) | assumption)
                    have q10 : (ji8) < (a0.size : Int) := of_decide_eq_true (by first | (with_reducible assumption) | assumption)
                    have hx10 := bt_at a0 (ji8)
                    replace p10 := eq_true p10
                    replace q10 := eq_true q10
                    have p12 : 0 ≤ ((ji8) : Int) := of_decide_eq_true (by first | (with_reducible assumption) | assumption)
                    have q12 : (ji8) < (a0.size : Int) := of_decide_eq_true (by first | (with_reducible assumption) | assumption)
                    have hx12 := bt_at a0 (ji8)
                    replace p12 := eq_true p12
                    replace q12 := eq_true q12
                    go_wp2
                    go_meet
                    case rel => exact ⟨_, (((bt a0 (ji8)) == 49)), (by first | rfl | (simp; done) | (simp only [← hji8] <;> (first | rfl | simp)) | (simp [*]; done)), H', ⟨by have := HK1.out; first | omega | exact Nat.le_refl _⟩, ⟨by (with_reducible repeat (first | apply Kd.R_alloc | apply Kd.R_drewN | apply Kd.R_drew)); exact HO_3.out⟩, ⟨by repeat (first | (with_reducible first | exact HB.out | apply below_alloc | apply pw_below_drewN | apply below_drew1) | exact HB.out)⟩⟩
                · rw [if_neg c9] at H
                  exact absurd H (by simp)
              · rw [if_neg c7] at H
                have c7b0 : decide ((wrap64 (x4_1 + 1)) < (a0.size : Int)) = false := decide_eq_false c7
                clear c7
                have H' := Aside0.mk H
                clear H
                have p5 : 0 ≤ (x4_1 : Int) := of_decide_eq_true (by first | (with_reducible assumption) | assumption)
                have q5 : x4_1 < (a0.size : Int) := of_decide_eq_true (by first | (with_reducible assumption) | assumption)
                have hx5 := bt_at a0 x4_1
                replace p5 := eq_true p5
                replace q5 := eq_true q5
                go_wp2
                go_meet
                case rel => exact ⟨_, (false), (by first | rfl | (simp; done) | (simp [*]; done)), H', ⟨by have := HK1.out; first | omega | exact Nat.le_refl _⟩, ⟨by (with_reducible repeat (first | apply Kd.R_alloc | apply Kd.R_drewN | apply Kd.R_drew)); exact HO_3.out⟩, ⟨by repeat (first | (with_reducible first | exact HB.out | apply below_alloc | apply pw_below_drewN | apply below_drew1) | exact HB.out)⟩⟩
            · rw [if_neg c6] at H
              have c6b0 : ((bt a0 x4_1) == 126) = false := beq_eq_false_iff_ne.mpr c6
              have c6b1 : ((bt a0 x4_1) != 126) = true := bne_iff_ne.mpr c6
              have H' := Aside0.mk H
              clear H
              have p5 : 0 ≤ (x4_1 : Int) := of_decide_eq_true (by first | (with_reducible assumption) | assumption)
              have q5 : x4_1 < (a0.size : Int) := of_decide_eq_true (by first | (with_reducible assumption) | assumption)
              have hx5 := bt_at a0 x4_1
              replace p5 := eq_true p5
              replace q5 := eq_true q5
              go_wp2
              go_meet
              case rel => exact ⟨_, (false), (by first | rfl | (simp; done) | (simp [*]; done)), H', ⟨by have := HK1.out; first | omega | exact Nat.le_refl _⟩, ⟨by (with_reducible repeat (first | apply Kd.R_alloc | apply Kd.R_drewN | apply Kd.R_drew)); exact HO_3.out⟩, ⟨by repeat (first | (with_reducible first | exact HB.out | apply below_alloc | apply pw_below_drewN | apply below_drew1) | exact HB.out)⟩⟩
          · rw [if_neg c4] at H
            exact absurd H (by simp)
        case rest =>
          clear HC3
          try clear c1
          try clear p1
          try clear q1
          try clear hx1
          try clear c2
          try clear c2b0
          try clear p2
          try clear c4
          try clear c4b0
          try clear c5
          try clear p5
          try clear q5
          try clear hx5
          try clear c6
          try clear c6b0
          try clear c6b1
          try clear p6
          try clear c7
          try clear c7b0
          try clear c9
          try clear c9b0
          try clear p10
          try clear q10
          try clear hx10
          try clear c11
          try clear c11b0
          try clear c11b1
          try clear p12
          try clear q12
          try clear hx12
          try clear p10
          try clear p12
          try clear p5
          try clear q10
          try clear q12
          try clear q5
          obtain ⟨kq, x35_2, rfl, HA, HJ2, HO_3, HB⟩ := hcut
          cases kq with
          | zero => exact absurd HA.out (by simp [jsonpatch_zzDecode.j1])
          | succ kj2 =>
            have H := HA.out
            clear HA
            simp only [jsonpatch_zzDecode.j1] at H
            by_cases c13 : x35_2 = true
            · subst c13
              have H1 : (if 0 ≤ (wrap64 (x4_1 + 1)) then (if (wrap64 (x4_1 + 1)) < (a0.size : Int) then (if (bt a0 (wrap64 (x4_1 + 1))) = 49 then (if x3_1.length < 140737488355328 then (jsonpatch_zzDecode.l0 kj2 a0 (x3_1 ++ [47]) (wrap64 ((wrap64 (x4_1 + 1)) + 1))) else (none)) else (if x3_1.length < 140737488355328 then (jsonpatch_zzDecode.l0 kj2 a0 (x3_1 ++ [126]) (wrap64 ((wrap64 (x4_1 + 1)) + 1))) else (none))) else (none)) else (none)) = some r := by rw [if_pos rfl] at H; exact H
              clear H
              have H := H1
              clear H1
              obtain ⟨ji14, hji14⟩ : ∃ j_ : Int, (wrap64 (x4_1 + 1)) = j_ := ⟨_, rfl⟩
              replace H : (if 0 ≤ (ji14) then (if (ji14) < (a0.size : Int) then (if (bt a0 (ji14)) = 49 then (if x3_1.length < 140737488355328 then (jsonpatch_zzDecode.l0 kj2 a0 (x3_1 ++ [47]) (wrap64 ((ji14) + 1))) else (none)) else (if x3_1.length < 140737488355328 then (jsonpatch_zzDecode.l0 kj2 a0 (x3_1 ++ [126]) (wrap64 ((ji14) + 1))) else (none))) else (none)) else (none)) = some r := by first | (rw [hji14] at H; exact H) | (simp only [hji14] at H ⊢; exact H)
              have hji14w : (IntKind.i64.wrap (x4_1 + 1)) = ji14 := (i64_w _).trans hji14
              by_cases c15 : 0 ≤ (ji14)
              · rw [if_pos c15] at H
                have c15b0 : decide (0 ≤ (ji14)) = true := decide_eq_true c15
                clear c15
                by_cases c16 : (ji14) < (a0.size : Int)
                · rw [if_pos c16] at H
                  have c16b0 : decide ((ji14) < (a0.size : Int)) = true := decide_eq_true c16
                  clear c16
                  by_cases c18 : (bt a0 (ji14)) = 49
                  · rw [if_pos c18] at H
                    have c18b0 : ((bt a0 (ji14)) == 49) = true := beq_iff_eq.mpr c18
                    have c18b1 : ((bt a0 (ji14)) != 49) = false := bne_eq_false_iff_eq.mpr c18
                    clear c18
                    by_cases c19 : x3_1.length < 140737488355328
                    · rw [if_pos c19] at H
                      have LMc19 := Aside0.mk c19
                      clear c19
                      obtain ⟨y101, hy101⟩ : ∃ y_ : List Int, y_ = (x3_1 ++ [47]) := ⟨_, rfl⟩
                      replace H : (jsonpatch_zzDecode.l0 kj2 a0 y101 (wrap64 ((ji14) + 1))) = some r := by first | (rw [hy101]; with_reducible exact H) | (have H2_ := (Option.bind_some _ _).symm.trans H; rw [hy101]; with_reducible exact H2_) | (have H2_ := (Option.bind_some _ _).symm.trans H; with_reducible exact H2_) | with_reducible exact H | (rw [hy101]; exact H) | exact H
                      have Ny101 := Aside0.mk hy101
                      clear hy101
                      have H' := Aside0.mk H
                      clear H
                      have p17 : 0 ≤ ((ji14) : Int) := of_decide_eq_true (by first | (with_reducible assumption) | assumption)
                      have q17 : (ji14) < (a0.size : Int) := of_decide_eq_true (by first | (with_reducible assumption) | assumption)
                      have hx17 := bt_at a0 (ji14)
                      replace p17 := eq_true p17
                      replace q17 := eq_true q17
                      go_wp2_with (first | ((with_reducible refine gate_builtin (b := .append) (xs := #[.tmp 41, .tmp 42]) rfl ?_); (try (refine gate_guard (by rfl) ?_; dsimp only)); at_builtin; refine Kd.R_append (Kd.int .u8) (w0 := w) w.heap.size rfl (.tmp 41) (.tmp 42) 51 5 (.int .u8 0) 1 rfl Try.underlying51 info5 rfl (by decide) (by omega) u3 x3_1 47 [.int .u8 47] (fun _ => True) (fun _ => False) rfl rfl ?aP (fun _ hk => hk.elim) ?aF ?aO ?aB ?aS ?aL ?_; (case aP => exact rfl); (case aB => exact (by repeat (first | (with_reducible first | exact HB.out | apply below_alloc | apply pw_below_drewN | apply below_drew1) | exact HB.out))); (case aF => exact (fun _ _ => trivial)); (case aO => exact (by (with_reducible repeat (first | apply Kd.R_alloc | apply Kd.R_drewN | apply Kd.R_drew)); exact HO_3.out)); (case aS => exact (below_size (by repeat (first | (with_reducible first | exact HB.out | apply below_alloc | apply pw_below_drewN | apply below_drew1) | exact HB.out)))); (case aL => have := LMc19.out; omega); intro v102 w20 ho hb hg hat; rw [← Ny101.out] at ho; have n0_ := Aside0.mk (hb); have n1_ := Aside0.mk (ho); clear HB; clear HO_3; have HB := n0_; have HO103 := n1_; clear n0_ n1_; clear ho hb hg hat))
                      go_roundg kj2
                      case measure => have := HK1.out; have := HJ2.out; omega
                      case rel => exact ⟨(y101), (wrap64 ((ji14) + 1)), (by first | rfl | (simp; done) | (simp only [← hji14] <;> (first | rfl | simp)) | (simp [*]; done)), H', ⟨by have := HK1.out; have := HJ2.out; omega⟩, ⟨by (with_reducible repeat (first | apply Kd.R_alloc | apply Kd.R_drewN | apply Kd.R_drew)); exact HO103.out⟩, ⟨by repeat (first | (with_reducible first | exact HB.out | apply below_alloc | apply pw_below_drewN | apply below_drew1) | exact HB.out)⟩⟩
                    · rw [if_neg c19] at H
                      exact absurd H (by simp)
                  · rw [if_neg c18] at H
                    have c18b0 : ((bt a0 (ji14)) == 49) = false := beq_eq_false_iff_ne.mpr c18
                    have c18b1 : ((bt a0 (ji14)) != 49) = true := bne_iff_ne.mpr c18
                    by_cases c21 : x3_1.length < 140737488355328
                    · rw [if_pos c21] at H
                      have LMc21 := Aside0.mk c21
                      clear c21
                      obtain ⟨y104, hy104⟩ : ∃ y_ : List Int, y_ = (x3_1 ++ [126]) := ⟨_, rfl⟩
                      replace H : (jsonpatch_zzDecode.l0 kj2 a0 y104 (wrap64 ((ji14) + 1))) = some r := by first | (rw [hy104]; with_reducible exact H) | (have H2_ := (Option.bind_some _ _).symm.trans H; rw [hy104]; with_reducible exact H2_) | (have H2_ := (Option.bind_some _ _).symm.trans H; with_reducible exact H2_) | with_reducible exact H | (rw [hy104]; exact H) | exact H
                      have Ny104 := Aside0.mk hy104
                      clear hy104
                      have H' := Aside0.mk H
                      clear H
                      have p17 : 0 ≤ ((ji14) : Int) := of_decide_eq_true (by first | (with_reducible assumption) | assumption)
                      have q17 : (ji14) < (a0.size : Int) := of_decide_eq_true (by first | (with_reducible assumption) | assumption)
                      have hx17 := bt_at a0 (ji14)
                      replace p17 := eq_true p17
                      replace q17 := eq_true q17
                      go_wp2_with (first | ((with_reducible refine gate_builtin (b := .append) (xs := #[.tmp 44, .tmp 45]) rfl ?_); (try (refine gate_guard (by rfl) ?_; dsimp only)); at_builtin; refine Kd.R_append (Kd.int .u8) (w0 := w) w.heap.size rfl (.tmp 44) (.tmp 45) 51 5 (.int .u8 0) 1 rfl Try.underlying51 info5 rfl (by decide) (by omega) u3 x3_1 126 [.int .u8 126] (fun _ => True) (fun _ => False) rfl rfl ?aP (fun _ hk => hk.elim) ?aF ?aO ?aB ?aS ?aL ?_; (case aP => exact rfl); (case aB => exact (by repeat (first | (with_reducible first | exact HB.out | apply below_alloc | apply pw_below_drewN | apply below_drew1) | exact HB.out))); (case aF => exact (fun _ _ => trivial)); (case aO => exact (by (with_reducible repeat (first | apply Kd.R_alloc | apply Kd.R_drewN | apply Kd.R_drew)); exact HO_3.out)); (case aS => exact (below_size (by repeat (first | (with_reducible first | exact HB.out | apply below_alloc | apply pw_below_drewN | apply below_drew1) | exact HB.out)))); (case aL => have := LMc21.out; omega); intro v105 w22 ho hb hg hat; rw [← Ny104.out] at ho; have n0_ := Aside0.mk (hb); have n1_ := Aside0.mk (ho); clear HB; clear HO_3; have HB := n0_; have HO106 := n1_; clear n0_ n1_; clear ho hb hg hat))
                      go_roundg kj2
                      case measure => have := HK1.out; have := HJ2.out; omega
                      case rel => exact ⟨(y104), (wrap64 ((ji14) + 1)), (by first | rfl | (simp; done) | (simp only [← hji14] <;> (first | rfl | simp)) | (simp [*]; done)), H', ⟨by have := HK1.out; have := HJ2.out; omega⟩, ⟨by (with_reducible repeat (first | apply Kd.R_alloc | apply Kd.R_drewN | apply Kd.R_drew)); exact HO106.out⟩, ⟨by repeat (first | (with_reducible first | exact HB.out | apply below_alloc | apply pw_below_drewN | apply below_drew1) | exact HB.out)⟩⟩
                    · rw [if_neg c21] at H
                      exact absurd H (by simp)
                · rw [if_neg c16] at H
                  exact absurd H (by simp)
              · rw [if_neg c15] at H
                exact absurd H (by simp)
            · replace c13 := Bool.eq_false_iff.mpr c13
              subst c13
              have H1 : (if 0 ≤ x4_1 then (if x4_1 < (a0.size : Int) then (if x3_1.length < 140737488355328 then (jsonpatch_zzDecode.l0 kj2 a0 (x3_1 ++ [bt a0 x4_1]) (wrap64 (x4_1 + 1))) else (none)) else (none)) else (none)) = some r := by rw [if_neg (show ¬ (false = true) by decide)] at H; exact H
              clear H
              have H := H1
              clear H1
              by_cases c23 : 0 ≤ x4_1
              · rw [if_pos c23] at H
                have c23b0 : decide (0 ≤ x4_1) = true := decide_eq_true c23
                clear c23
                by_cases c24 : x4_1 < (a0.size : Int)
                · rw [if_pos c24] at H
                  have c24b0 : decide (x4_1 < (a0.size : Int)) = true := decide_eq_true c24
                  clear c24
                  by_cases c26 : x3_1.length < 140737488355328
                  · rw [if_pos c26] at H
                    have LMc26 := Aside0.mk c26
                    clear c26
                    obtain ⟨y107, hy107⟩ : ∃ y_ : List Int, y_ = (x3_1 ++ [bt a0 x4_1]) := ⟨_, rfl⟩
                    replace H : (jsonpatch_zzDecode.l0 kj2 a0 y107 (wrap64 (x4_1 + 1))) = some r := by first | (rw [hy107]; with_reducible exact H) | (have H2_ := (Option.bind_some _ _).symm.trans H; rw [hy107]; with_reducible exact H2_) | (have H2_ := (Option.bind_some _ _).symm.trans H; with_reducible exact H2_) | with_reducible exact H | (rw [hy107]; exact H) | exact H
                    have Ny107 := Aside0.mk hy107
                    clear hy107
                    have H' := Aside0.mk H
                    clear H
                    have p25 : 0 ≤ (x4_1 : Int) := of_decide_eq_true (by first | (with_reducible assumption) | assumption)
                    have q25 : x4_1 < (a0.size : Int) := of_decide_eq_true (by first | (with_reducible assumption) | assumption)
                    have hx25 := bt_at a0 x4_1
                    replace p25 := eq_true p25
                    replace q25 := eq_true q25
                    go_wp2_with (first | ((with_reducible refine gate_builtin (b := .append) (xs := #[.tmp 49, .tmp 53]) rfl ?_); (try (refine gate_guard (by rfl) ?_; dsimp only)); at_builtin; refine Kd.R_append (Kd.int .u8) (w0 := w) w.heap.size rfl (.tmp 49) (.tmp 53) 51 5 (.int .u8 0) 1 rfl Try.underlying51 info5 rfl (by decide) (by omega) u3 x3_1 (bt a0 x4_1) [.int .u8 (bt a0 x4_1)] (fun _ => True) (fun _ => False) rfl rfl ?aP (fun _ hk => hk.elim) ?aF ?aO ?aB ?aS ?aL ?_; (case aP => exact rfl); (case aB => exact (by repeat (first | (with_reducible first | exact HB.out | apply below_alloc | apply pw_below_drewN | apply below_drew1) | exact HB.out))); (case aF => exact (fun _ _ => trivial)); (case aO => exact (by (with_reducible repeat (first | apply Kd.R_alloc | apply Kd.R_drewN | apply Kd.R_drew)); exact HO_3.out)); (case aS => exact (below_size (by repeat (first | (with_reducible first | exact HB.out | apply below_alloc | apply pw_below_drewN | apply below_drew1) | exact HB.out)))); (case aL => have := LMc26.out; omega); intro v108 w27 ho hb hg hat; rw [← Ny107.out] at ho; have n0_ := Aside0.mk (hb); have n1_ := Aside0.mk (ho); clear HB; clear HO_3; have HB := n0_; have HO109 := n1_; clear n0_ n1_; clear ho hb hg hat))
                    go_roundg kj2
                    case measure => have := HK1.out; have := HJ2.out; omega
                    case rel => exact ⟨(y107), (wrap64 (x4_1 + 1)), (by first | rfl | (simp; done) | (simp [*]; done)), H', ⟨by have := HK1.out; have := HJ2.out; omega⟩, ⟨by (with_reducible repeat (first | apply Kd.R_alloc | apply Kd.R_drewN | apply Kd.R_drew)); exact HO109.out⟩, ⟨by repeat (first | (with_reducible first | exact HB.out | apply below_alloc | apply pw_below_drewN | apply below_drew1) | exact HB.out)⟩⟩
                  · rw [if_neg c26] at H
                    exact absurd H (by simp)
                · rw [if_neg c24] at H
                  exact absurd H (by simp)
              · rw [if_neg c23] at H
                exact absurd H (by simp)
      · rw [if_neg c2] at H
        have c2b0 : decide (x4_1 < (a0.size : Int)) = false := decide_eq_false c2
        clear c2
        obtain rfl := Option.some.inj H
        have hcv28 := own_string (P := Try.prog) Try.underlying51 Try.underlying5 Try.underlying9 (Kd.own_of_R HO_3.out)
        go_wp2
        go_ret
        exact ⟨by first | rfl | (simp [errW_none, errW_some] <;> rfl) | (simp [*, errW_none, errW_some] <;> rfl), by repeat (first | (with_reducible first | exact HB.out | apply below_alloc | apply pw_below_drewN | apply below_drew1) | exact HB.out)⟩

/-! ### jsonpatch_decodePatchKey: function 39 -/
def jsonpatch_decodePatchKey.f (k : Nat) (a0 : ByteArray) : Option (ByteArray) := (jsonpatch_zzDecode.f k a0).bind fun t110 => (some t110)
theorem jsonpatch_decodePatchKey.mono : ∀ a0 k, LeO (jsonpatch_decodePatchKey.f k a0) (jsonpatch_decodePatchKey.f (k + 1) a0) := by
  intro a0 k
  unfold jsonpatch_decodePatchKey.f
  repeat' first
      | (with_reducible exact jsonpatch_zzDecode.mono _ _)
      | (with_reducible exact LeO.refl _)
      | (with_reducible exact LeO.none _)
      | (with_reducible refine LeO.ite ?_ ?_)
      | (with_reducible refine LeO.bind ?_ (fun _ => ?_))
      | exact jsonpatch_zzDecode.mono _ _
      | exact LeO.none _
      | refine LeO.ite ?_ ?_
      | refine LeO.bind ?_ (fun _ => ?_)
set_option maxHeartbeats 8000000 in
set_option maxRecDepth 100000 in
theorem jsonpatch_decodePatchKey.calls (k : Nat) (a0 : ByteArray) (r : ByteArray) (w : World) (h : jsonpatch_decodePatchKey.f k a0 = some r) :
    Calls Try.prog 39 #[.string a0] w fun e w' => e = .returned (.string r) ∧ Below w.heap.size w w' := by
  have HB := Aside0.mk (Below.refl w.heap.size w)
  have H : ((jsonpatch_zzDecode.f k a0).bind fun t110 => (some t110)) = some r := h
  clear h
  replace H := Option.bind_eq_some_iff.mp H
  obtain ⟨t110, A20, H⟩ := H
  replace H : (some t110) = some r := H
  have A2 := Aside0.mk A20
  clear A20
  obtain rfl := Option.some.inj H
  go_enter Try.func39, Try.ntmps39
  go_wp2_with (first | ((with_reducible refine gate_callee (f := 55) rfl ?_); refine goesL_ (some 4) rfl rfl Try.func55 (by kernel_rfl) rfl #[.string a0] rfl (by (try simp only [List.map_toArray, List.map_cons, List.map_nil]); first | done | rfl | (simp only [List.length_drop, List.length_take]; rfl)) ?_; (with_reducible refine (jsonpatch_zzDecode.calls k a0 t110 _ A2.out).mono ?_); rintro e w3 ⟨rfl, hb⟩; refine ⟨_, rfl, ?_⟩; have n0_ := Aside0.mk (below_step (by repeat (first | (with_reducible first | exact HB.out | apply below_alloc | apply pw_below_drewN | apply below_drew1) | exact HB.out)) hb); clear HB; have HB := n0_; clear n0_; (try clear hb); (try clear hb2); (try clear hk); (try clear hi)))
  go_ret
  exact ⟨by first | rfl | (simp [errW_none, errW_some] <;> rfl) | (simp [*, errW_none, errW_some] <;> rfl), by repeat (first | (with_reducible first | exact HB.out | apply below_alloc | apply pw_below_drewN | apply below_drew1) | exact HB.out)⟩

/-! ### jsonpatch_DoorToken: function 26 -/
def jsonpatch_DoorToken.f (k : Nat) (a0 : ByteArray) : Option (ByteArray) := (jsonpatch_decodePatchKey.f k a0).bind fun t111 => (some t111)
theorem jsonpatch_DoorToken.mono : ∀ a0 k, LeO (jsonpatch_DoorToken.f k a0) (jsonpatch_DoorToken.f (k + 1) a0) := by
  intro a0 k
  unfold jsonpatch_DoorToken.f
  repeat' first
      | (with_reducible exact jsonpatch_decodePatchKey.mono _ _)
      | (with_reducible exact LeO.refl _)
      | (with_reducible exact LeO.none _)
      | (with_reducible refine LeO.ite ?_ ?_)
      | (with_reducible refine LeO.bind ?_ (fun _ => ?_))
      | exact jsonpatch_decodePatchKey.mono _ _
      | exact LeO.none _
      | refine LeO.ite ?_ ?_
      | refine LeO.bind ?_ (fun _ => ?_)
set_option maxHeartbeats 8000000 in
set_option maxRecDepth 100000 in
theorem jsonpatch_DoorToken.calls (k : Nat) (a0 : ByteArray) (r : ByteArray) (w : World) (h : jsonpatch_DoorToken.f k a0 = some r) :
    Calls Try.prog 26 #[.string a0] w fun e w' => e = .returned (.string r) ∧ Below w.heap.size w w' := by
  have HB := Aside0.mk (Below.refl w.heap.size w)
  have H : ((jsonpatch_decodePatchKey.f k a0).bind fun t111 => (some t111)) = some r := h
  clear h
  replace H := Option.bind_eq_some_iff.mp H
  obtain ⟨t111, A20, H⟩ := H
  replace H : (some t111) = some r := H
  have A2 := Aside0.mk A20
  clear A20
  obtain rfl := Option.some.inj H
  go_enter Try.func26, Try.ntmps26
  go_wp2_with (first | ((with_reducible refine gate_callee (f := 39) rfl ?_); refine goesL_ (some 4) rfl rfl Try.func39 (by kernel_rfl) rfl #[.string a0] rfl (by (try simp only [List.map_toArray, List.map_cons, List.map_nil]); first | done | rfl | (simp only [List.length_drop, List.length_take]; rfl)) ?_; (with_reducible refine (jsonpatch_decodePatchKey.calls k a0 t111 _ A2.out).mono ?_); rintro e w3 ⟨rfl, hb⟩; refine ⟨_, rfl, ?_⟩; have n0_ := Aside0.mk (below_step (by repeat (first | (with_reducible first | exact HB.out | apply below_alloc | apply pw_below_drewN | apply below_drew1) | exact HB.out)) hb); clear HB; have HB := n0_; clear n0_; (try clear hb); (try clear hb2); (try clear hk); (try clear hi)))
  go_ret
  exact ⟨by first | rfl | (simp [errW_none, errW_some] <;> rfl) | (simp [*, errW_none, errW_some] <;> rfl), by repeat (first | (with_reducible first | exact HB.out | apply below_alloc | apply pw_below_drewN | apply below_drew1) | exact HB.out)⟩

/-! ### impl_PaToken: function 10 -/
def impl_PaToken.f (k : Nat) (a0 : ByteArray) : Option (ByteArray) := (jsonpatch_DoorToken.f k a0).bind fun t112 => (some t112)
theorem impl_PaToken.mono : ∀ a0 k, LeO (impl_PaToken.f k a0) (impl_PaToken.f (k + 1) a0) := by
  intro a0 k
  unfold impl_PaToken.f
  repeat' first
      | (with_reducible exact jsonpatch_DoorToken.mono _ _)
      | (with_reducible exact LeO.refl _)
      | (with_reducible exact LeO.none _)
      | (with_reducible refine LeO.ite ?_ ?_)
      | (with_reducible refine LeO.bind ?_ (fun _ => ?_))
      | exact jsonpatch_DoorToken.mono _ _
      | exact LeO.none _
      | refine LeO.ite ?_ ?_
      | refine LeO.bind ?_ (fun _ => ?_)
set_option maxHeartbeats 8000000 in
set_option maxRecDepth 100000 in
theorem impl_PaToken.calls (k : Nat) (a0 : ByteArray) (r : ByteArray) (w : World) (h : impl_PaToken.f k a0 = some r) :
    Calls Try.prog 10 #[.string a0] w fun e w' => e = .returned (.string r) ∧ Below w.heap.size w w' := by
  have HB := Aside0.mk (Below.refl w.heap.size w)
  have H : ((jsonpatch_DoorToken.f k a0).bind fun t112 => (some t112)) = some r := h
  clear h
  replace H := Option.bind_eq_some_iff.mp H
  obtain ⟨t112, A20, H⟩ := H
  replace H : (some t112) = some r := H
  have A2 := Aside0.mk A20
  clear A20
  obtain rfl := Option.some.inj H
  go_enter Try.func10, Try.ntmps10
  go_wp2_with (first | ((with_reducible refine gate_callee (f := 26) rfl ?_); refine goesL_ (some 4) rfl rfl Try.func26 (by kernel_rfl) rfl #[.string a0] rfl (by (try simp only [List.map_toArray, List.map_cons, List.map_nil]); first | done | rfl | (simp only [List.length_drop, List.length_take]; rfl)) ?_; (with_reducible refine (jsonpatch_DoorToken.calls k a0 t112 _ A2.out).mono ?_); rintro e w3 ⟨rfl, hb⟩; refine ⟨_, rfl, ?_⟩; have n0_ := Aside0.mk (below_step (by repeat (first | (with_reducible first | exact HB.out | apply below_alloc | apply pw_below_drewN | apply below_drew1) | exact HB.out)) hb); clear HB; have HB := n0_; clear n0_; (try clear hb); (try clear hb2); (try clear hk); (try clear hi)))
  go_ret
  exact ⟨by first | rfl | (simp [errW_none, errW_some] <;> rfl) | (simp [*, errW_none, errW_some] <;> rfl), by repeat (first | (with_reducible first | exact HB.out | apply below_alloc | apply pw_below_drewN | apply below_drew1) | exact HB.out)⟩

/-! ### spec_PointerOf: function 11 -/
mutual
def spec_PointerOf.l0 : Nat → List Int → List ByteArray → Int → Int → Option (ByteArray)
  | 0, _, _, _, _ => none
  | k + 1, x3, x8, x9, x10 => if x10 < x9 then (if 0 ≤ x10 then (if x10 < (x8.length : Int) then (if x3.length < 140737488355328 then (spec_PointerOf.l1 k (x3 ++ [47]) (rdOf ByteArray.empty x8 x10) 0 x8 x9 x10) else (none)) else (none)) else (none)) else (some (strOfNums x3))
def spec_PointerOf.l1 : Nat → List Int → ByteArray → Int → List ByteArray → Int → Int → Option (ByteArray)
  | 0, _, _, _, _, _, _ => none
  | k + 1, x3, x5, x6, x8, x9, x10 => if x6 < (x5.size : Int) then (if 0 ≤ x6 then (if (bt x5 x6) = 126 then ((some (([126, 48] : List Int) : List Int)).bind fun y120 => (if x3.length + y120.length < 140737488355328 then (spec_PointerOf.l1 k (x3 ++ y120) x5 (wrap64 (x6 + 1)) x8 x9 x10) else (none))) else (if (bt x5 x6) = 47 then ((some (([126, 49] : List Int) : List Int)).bind fun y126 => (if x3.length + y126.length < 140737488355328 then (spec_PointerOf.l1 k (x3 ++ y126) x5 (wrap64 (x6 + 1)) x8 x9 x10) else (none))) else (if x3.length < 140737488355328 then (spec_PointerOf.l1 k (x3 ++ [bt x5 x6]) x5 (wrap64 (x6 + 1)) x8 x9 x10) else (none)))) else (none)) else (spec_PointerOf.l0 k x3 x8 x9 (wrap64 (x10 + 1)))
end
def spec_PointerOf.f (k : Nat) (l0 : List ByteArray) : Option (ByteArray) := spec_PointerOf.l0 k (([] : List Int)) l0 (l0.length : Int) 0
theorem spec_PointerOf.mono_l : ∀ k, (∀ y0 y1 y2 y3, LeO (spec_PointerOf.l0 k y0 y1 y2 y3) (spec_PointerOf.l0 (k + 1) y0 y1 y2 y3)) ∧ (∀ y0 y1 y2 y3 y4 y5, LeO (spec_PointerOf.l1 k y0 y1 y2 y3 y4 y5) (spec_PointerOf.l1 (k + 1) y0 y1 y2 y3 y4 y5))
  | 0 => ⟨fun _ _ _ _ r h => by simp [spec_PointerOf.l0] at h, fun _ _ _ _ _ _ r h => by simp [spec_PointerOf.l1] at h⟩
  | k + 1 => by
    obtain ⟨ih0, ih1⟩ := spec_PointerOf.mono_l k
    refine ⟨?_, ?_⟩
    · intro y0 y1 y2 y3
      unfold spec_PointerOf.l0
      repeat' first
      | (with_reducible exact ih0 _ _ _ _)
      | (with_reducible exact ih1 _ _ _ _ _ _)
      | (with_reducible exact LeO.refl _)
      | (with_reducible exact LeO.none _)
      | (with_reducible refine LeO.ite ?_ ?_)
      | (with_reducible refine LeO.bind ?_ (fun _ => ?_))
      | exact ih0 _ _ _ _
      | exact ih1 _ _ _ _ _ _
      | exact LeO.none _
      | refine LeO.ite ?_ ?_
      | refine LeO.bind ?_ (fun _ => ?_)
    · intro y0 y1 y2 y3 y4 y5
      unfold spec_PointerOf.l1
      repeat' first
      | (with_reducible exact ih0 _ _ _ _)
      | (with_reducible exact ih1 _ _ _ _ _ _)
      | (with_reducible exact LeO.refl _)
      | (with_reducible exact LeO.none _)
      | (with_reducible refine LeO.ite ?_ ?_)
      | (with_reducible refine LeO.bind ?_ (fun _ => ?_))
      | exact ih0 _ _ _ _
      | exact ih1 _ _ _ _ _ _
      | exact LeO.none _
      | refine LeO.ite ?_ ?_
      | refine LeO.bind ?_ (fun _ => ?_)
theorem spec_PointerOf.mono : ∀ a0 k, LeO (spec_PointerOf.f k a0) (spec_PointerOf.f (k + 1) a0) := by
  intro a0 k
  obtain ⟨ih0, ih1⟩ := spec_PointerOf.mono_l k
  unfold spec_PointerOf.f
  repeat' first
      | (with_reducible exact ih0 _ _ _ _)
      | (with_reducible exact ih1 _ _ _ _ _ _)
      | (with_reducible exact LeO.refl _)
      | (with_reducible exact LeO.none _)
      | (with_reducible refine LeO.ite ?_ ?_)
      | (with_reducible refine LeO.bind ?_ (fun _ => ?_))
      | exact ih0 _ _ _ _
      | exact ih1 _ _ _ _ _ _
      | exact LeO.none _
      | refine LeO.ite ?_ ?_
      | refine LeO.bind ?_ (fun _ => ?_)
set_option maxHeartbeats 8000000 in
set_option maxRecDepth 100000 in
theorem spec_PointerOf.calls (k : Nat) (A0 : Option Addr) (c0 : Nat) (l0 : List ByteArray) (r : ByteArray) (w : World) (hr0 : Kd.C Kd.string w A0 l0.length l0) (hc0 : l0.length ≤ c0) (h : spec_PointerOf.f k l0 = some r) :
    Calls Try.prog 11 #[.slice A0 l0.length c0] w fun e w' => e = .returned (.string r) ∧ Below w.heap.size w w' := by
  have HR0 := Aside0.mk hr0
  have HC0 := Aside0.mk hc0
  clear hr0 hc0
  have HB := Aside0.mk (Below.refl w.heap.size w)
  have H : (spec_PointerOf.l0 k (([] : List Int)) l0 (l0.length : Int) 0) = some r := h
  clear h
  obtain ⟨y113, hy113⟩ : ∃ y_ : List Int, y_ = (([] : List Int)) := ⟨_, rfl⟩
  replace H : (spec_PointerOf.l0 k y113 l0 (l0.length : Int) 0) = some r := by first | (rw [hy113]; with_reducible exact H) | (have H2_ := (Option.bind_some _ _).symm.trans H; rw [hy113]; with_reducible exact H2_) | (have H2_ := (Option.bind_some _ _).symm.trans H; with_reducible exact H2_) | with_reducible exact H | (rw [hy113]; exact H) | exact H
  have Ny113 := Aside0.mk hy113
  clear hy113
  have H' := Aside0.mk H
  clear H
  go_enter Try.func11, Try.ntmps11
  go_wp2_with (first | ((with_reducible refine gate_dst (N := 7) rfl ?_); refine Kd.R_lit (Kd.int .u8) _ 5 ?hg (N := 7) ?hd (xs := ([] : List Int)) (inner := []) (ok := fun _ => True) (okp := fun _ => True) ?hr ?hp (fun _ hk => hk) trivial (Below.refl _ _) (Nat.le_refl _) (by simp) ?_; (case hd => rfl); (case hg => rfl); (case hr => first | (go_simp; done) | (go_simp; rfl)); (case hp => exact (Reps.none _ _)); intro v114 w2 ho3 hb hg_ hnew_; clear hg_ hnew_; (first | rw [← Ny113.out] at ho3 | (simp only [Int.reduceToNat] at ho3; rw [← Ny113.out] at ho3)); have n0_ := Aside0.mk (Kd.R_lower ho3 (below_size (by repeat (first | (with_reducible first | exact HB.out | apply below_alloc | apply pw_below_drewN | apply below_drew1) | exact HB.out)))); have n1_ := Aside0.mk (below_step (by repeat (first | (with_reducible first | exact HB.out | apply below_alloc | apply pw_below_drewN | apply below_drew1) | exact HB.out)) hb); clear HB; have HO115 := n0_; have HB := n1_; clear n0_ n1_; clear hb ho3))
  go_loopg [3, 10] k (fun kq v3 v10 w' => ∃ (x3_1 : List Int) (x10_1 : Int), v10 = .int .i64 x10_1 ∧ Aside0 (spec_PointerOf.l0 kq x3_1 l0 (l0.length : Int) x10_1 = some r) ∧ Aside0 (kq ≤ k) ∧ Aside0 (Kd.R (Kd.int .u8) 5 w' w.heap.size (fun _ => True) v3 x3_1) ∧ Aside0 (Below w.heap.size w w'))
  case atStart => exact ⟨(y113), (0), (by first | rfl | (simp; done) | (simp [*]; done)), H', ⟨Nat.le_refl _⟩, ⟨by (with_reducible repeat (first | apply Kd.R_alloc | apply Kd.R_drewN | apply Kd.R_drew)); exact HO115.out⟩, ⟨by repeat (first | (with_reducible first | exact HB.out | apply below_alloc | apply pw_below_drewN | apply below_drew1) | exact HB.out)⟩⟩
  case round =>
    clear H'
    try clear c1
    try clear p2
    obtain ⟨x3_1, x10_1, rfl, HA, HK1, HO_3, HB⟩ := hrel
    cases gk with
    | zero => exact absurd HA.out (by simp [spec_PointerOf.l0])
    | succ k1 =>
      have H := HA.out
      clear HA
      simp only [spec_PointerOf.l0] at H
      by_cases c4 : x10_1 < (l0.length : Int)
      · rw [if_pos c4] at H
        have c4b0 : decide (x10_1 < (l0.length : Int)) = true := decide_eq_true c4
        clear c4
        by_cases c5 : 0 ≤ x10_1
        · rw [if_pos c5] at H
          have c5b0 : decide (0 ≤ x10_1) = true := decide_eq_true c5
          clear c5
          by_cases c6 : x10_1 < (l0.length : Int)
          · rw [if_pos c6] at H
            have c6b0 : decide (x10_1 < (l0.length : Int)) = true := decide_eq_true c6
            clear c6
            by_cases c7 : x3_1.length < 140737488355328
            · rw [if_pos c7] at H
              have LMc7 := Aside0.mk c7
              clear c7
              obtain ⟨y117, hy117⟩ : ∃ y_ : List Int, y_ = (x3_1 ++ [47]) := ⟨_, rfl⟩
              replace H : (spec_PointerOf.l1 k1 y117 (rdOf ByteArray.empty l0 x10_1) 0 l0 (l0.length : Int) x10_1) = some r := by first | (rw [hy117]; with_reducible exact H) | (have H2_ := (Option.bind_some _ _).symm.trans H; rw [hy117]; with_reducible exact H2_) | (have H2_ := (Option.bind_some _ _).symm.trans H; with_reducible exact H2_) | with_reducible exact H | (rw [hy117]; exact H) | exact H
              have Ny117 := Aside0.mk hy117
              clear hy117
              have H' := Aside0.mk H
              clear H
              have p116 : 0 ≤ (x10_1 : Int) := of_decide_eq_true (by first | (with_reducible assumption) | assumption)
              have q116 : x10_1 < (l0.length : Int) := of_decide_eq_true (by first | (with_reducible assumption) | assumption)
              obtain ⟨ad116, e116, hx116_0⟩ := Kd.at_string HR0.out x10_1 p116 q116
              cases e116
              replace hx116_0 := (HB.out.cell (World.block_lt_of_cell? w _ hx116_0)).trans hx116_0
              replace p116 := eq_true p116
              replace q116 := eq_true q116
              go_wp2_with (first | ((with_reducible refine gate_builtin (b := .append) (xs := #[.tmp 14, .tmp 15]) rfl ?_); at_builtin; refine Kd.R_append (Kd.int .u8) (w0 := w) w.heap.size rfl (.tmp 14) (.tmp 15) 51 5 (.int .u8 0) 1 rfl Try.underlying51 info5 rfl (by decide) (by omega) u3 x3_1 47 [.int .u8 47] (fun _ => True) (fun _ => False) rfl rfl ?aP (fun _ hk => hk.elim) ?aF ?aO ?aB ?aS ?aL ?_; (case aP => exact rfl); (case aB => exact (by repeat (first | (with_reducible first | exact HB.out | apply below_alloc | apply pw_below_drewN | apply below_drew1) | exact HB.out))); (case aF => exact (fun _ _ => trivial)); (case aO => exact (by (with_reducible repeat (first | apply Kd.R_alloc | apply Kd.R_drewN | apply Kd.R_drew)); exact HO_3.out)); (case aS => exact (below_size (by repeat (first | (with_reducible first | exact HB.out | apply below_alloc | apply pw_below_drewN | apply below_drew1) | exact HB.out)))); (case aL => have := LMc7.out; omega); intro v118 w8 ho hb hg hat; rw [← Ny117.out] at ho; have n0_ := Aside0.mk (hb); have n1_ := Aside0.mk (ho); clear HB; clear HO_3; have HB := n0_; have HO119 := n1_; clear n0_ n1_; clear ho hb hg hat))
              go_loopg [3, 6] k1 (fun kq v3 v6 w' => ∃ (x3_2 : List Int) (x6_2 : Int), v6 = .int .i64 x6_2 ∧ Aside0 (spec_PointerOf.l1 kq x3_2 (rdOf ByteArray.empty l0 x10_1) x6_2 l0 (l0.length : Int) x10_1 = some r) ∧ Aside0 (kq ≤ k1) ∧ Aside0 (Kd.R (Kd.int .u8) 5 w' w.heap.size (fun _ => True) v3 x3_2) ∧ Aside0 (Below w.heap.size w w'))
              case atStart => exact ⟨(y117), (0), (by first | rfl | (simp; done) | (simp [*]; done)), H', ⟨Nat.le_refl _⟩, ⟨by (with_reducible repeat (first | apply Kd.R_alloc | apply Kd.R_drewN | apply Kd.R_drew)); exact HO119.out⟩, ⟨by repeat (first | (with_reducible first | exact HB.out | apply below_alloc | apply pw_below_drewN | apply below_drew1) | exact HB.out)⟩⟩
              case round =>
                clear H'
                try clear c1
                try clear p1
                try clear q1
                try clear hx1
                try clear p2
                try clear c4
                try clear c4b0
                try clear c5
                try clear c5b0
                try clear c6
                try clear c6b0
                try clear c7
                try clear hx116_0
                try clear p116
                try clear p2
                try clear q116
                obtain ⟨x3_2, x6_2, rfl, HA, HK2, HO_3, HB⟩ := hrel
                cases gk with
                | zero => exact absurd HA.out (by simp [spec_PointerOf.l1])
                | succ k2 =>
                  have H := HA.out
                  clear HA
                  simp only [spec_PointerOf.l1] at H
                  by_cases c9 : x6_2 < ((rdOf ByteArray.empty l0 x10_1).size : Int)
                  · rw [if_pos c9] at H
                    have c9b0 : decide (x6_2 < ((rdOf ByteArray.empty l0 x10_1).size : Int)) = true := decide_eq_true c9
                    clear c9
                    by_cases c10 : 0 ≤ x6_2
                    · rw [if_pos c10] at H
                      have c10b0 : decide (0 ≤ x6_2) = true := decide_eq_true c10
                      clear c10
                      by_cases c12 : (bt (rdOf ByteArray.empty l0 x10_1) x6_2) = 126
                      · rw [if_pos c12] at H
                        have c12b0 : ((bt (rdOf ByteArray.empty l0 x10_1) x6_2) == 126) = true := beq_iff_eq.mpr c12
                        have c12b1 : ((bt (rdOf ByteArray.empty l0 x10_1) x6_2) != 126) = false := bne_eq_false_iff_eq.mpr c12
                        clear c12
                        obtain ⟨y120, hy120⟩ : ∃ y_ : List Int, y_ = (([126, 48] : List Int)) := ⟨_, rfl⟩
                        replace H : (if x3_2.length + y120.length < 140737488355328 then (spec_PointerOf.l1 k2 (x3_2 ++ y120) (rdOf ByteArray.empty l0 x10_1) (wrap64 (x6_2 + 1)) l0 (l0.length : Int) x10_1) else (none)) = some r := by first | (rw [hy120]; with_reducible exact H) | (have H2_ := (Option.bind_some _ _).symm.trans H; rw [hy120]; with_reducible exact H2_) | (have H2_ := (Option.bind_some _ _).symm.trans H; with_reducible exact H2_) | with_reducible exact H | (rw [hy120]; exact H) | exact H
                        have Ny120 := Aside0.mk hy120
                        clear hy120
                        by_cases c13 : x3_2.length + y120.length < 140737488355328
                        · rw [if_pos c13] at H
                          have LMc13 := Aside0.mk c13
                          clear c13
                          obtain ⟨y123, hy123⟩ : ∃ y_ : List Int, y_ = (x3_2 ++ y120) := ⟨_, rfl⟩
                          replace H : (spec_PointerOf.l1 k2 y123 (rdOf ByteArray.empty l0 x10_1) (wrap64 (x6_2 + 1)) l0 (l0.length : Int) x10_1) = some r := by first | (rw [hy123]; with_reducible exact H) | (have H2_ := (Option.bind_some _ _).symm.trans H; rw [hy123]; with_reducible exact H2_) | (have H2_ := (Option.bind_some _ _).symm.trans H; with_reducible exact H2_) | with_reducible exact H | (rw [hy123]; exact H) | exact H
                          have Ny123 := Aside0.mk hy123
                          clear hy123
                          have H' := Aside0.mk H
                          clear H
                          have p11 : 0 ≤ (x6_2 : Int) := of_decide_eq_true (by first | (with_reducible assumption) | assumption)
                          have q11 : x6_2 < ((rdOf ByteArray.empty l0 x10_1).size : Int) := of_decide_eq_true (by first | (with_reducible assumption) | assumption)
                          have hx11 := bt_at (rdOf ByteArray.empty l0 x10_1) x6_2
                          replace p11 := eq_true p11
                          replace q11 := eq_true q11
                          go_wp2_with (first | ((with_reducible refine gate_dst (N := 35) rfl ?_); refine Kd.R_lit (Kd.int .u8) _ 5 ?hg (N := 35) ?hd (xs := ([126, 48] : List Int)) (inner := [.int .u8 126, .int .u8 48]) (ok := fun _ => True) (okp := fun _ => True) ?hr ?hp (fun _ hk => hk) trivial (Below.refl _ _) (Nat.le_refl _) (by simp) ?_; (case hd => rfl); (case hg => rfl); (case hr => first | (go_simp; done) | (go_simp; rfl)); (case hp => exact (Reps.one (show Kd.M (Kd.int .u8) _ _ _ 126 [.int .u8 126] from rfl) (Reps.one (show Kd.M (Kd.int .u8) _ _ _ 48 [.int .u8 48] from rfl) (Reps.none _ _)))); intro v121 w14 ho15 hb hg_ hnew_; clear hg_ hnew_; (first | rw [← Ny120.out] at ho15 | (simp only [Int.reduceToNat] at ho15; rw [← Ny120.out] at ho15)); have n0_ := Aside0.mk (Kd.R_elder' (by (with_reducible repeat (first | apply Kd.R_alloc | apply Kd.R_drewN | apply Kd.R_drew)); exact HO_3.out) (Kd.R_base ho15) hb); have n1_ := Aside0.mk (Kd.R_lower (Kd.R_new' ho15 (Kd.R_lt (by (with_reducible repeat (first | apply Kd.R_alloc | apply Kd.R_drewN | apply Kd.R_drew)); exact HO_3.out))) (below_size (by repeat (first | (with_reducible first | exact HB.out | apply below_alloc | apply pw_below_drewN | apply below_drew1) | exact HB.out)))); have n2_ := Aside0.mk (below_step (by repeat (first | (with_reducible first | exact HB.out | apply below_alloc | apply pw_below_drewN | apply below_drew1) | exact HB.out)) hb); clear HO_3; clear HB; have HO_3 := n0_; have HO122 := n1_; have HB := n2_; clear n0_ n1_ n2_; clear hb ho15; obtain ⟨Ao17, co17, eo17⟩ := Kd.R_slice HO122.out; subst eo17) | ((with_reducible refine gate_builtin (b := .append) (xs := #[.tmp 34, .tmp 35]) rfl ?_); at_builtin; refine Kd.R_append_rows (Kd.int .u8) (w0 := w) w.heap.size rfl (.tmp 34) (.tmp 35) 51 5 (.int .u8 0) 1 rfl Try.underlying51 info5 rfl (by decide) (by omega) u3 x3_2 y120 _ _ _ (fun k_ => some k_ ≠ (.slice Ao17 y120.length co17 : Value).ownBlock) (fun _ => False) rfl rfl ?aO ?aR (fun _ _ h => h) (fun _ h => h.elim) ?aF ?aB ?aS ?aL ?_; (case aR => repeat (first | exact (Kd.R_reads' HO122.out).2.2 | (with_reducible refine Kd.C_alloc ?_ _) | (with_reducible refine Kd.C_drewN ?_ _) | (with_reducible refine Kd.C_drew ?_))); (case aB => exact (by repeat (first | (with_reducible first | exact HB.out | apply below_alloc | apply pw_below_drewN | apply below_drew1) | exact HB.out))); (case aF => exact (fun k_ hk => Kd.fresh' (Kd.R_lt (by (with_reducible repeat (first | apply Kd.R_alloc | apply Kd.R_drewN | apply Kd.R_drew)); exact HO122.out)) k_ hk)); (case aO => exact (by (with_reducible repeat (first | apply Kd.R_alloc | apply Kd.R_drewN | apply Kd.R_drew)); exact Kd.R_mono HO_3.out (fun _ hk => hk.2))); (case aS => exact (below_size (by repeat (first | (with_reducible first | exact HB.out | apply below_alloc | apply pw_below_drewN | apply below_drew1) | exact HB.out)))); (case aL => have := LMc13.out; omega); intro v124 w16 ho hb hg hat; rw [← Ny123.out] at ho; have n0_ := Aside0.mk (Kd.R_after (ok := (fun _ => True)) (by (with_reducible repeat (first | apply Kd.R_alloc | apply Kd.R_drewN | apply Kd.R_drew)); exact HO122.out) hg hat); have n1_ := Aside0.mk (hb); have n2_ := Aside0.mk (ho); clear HO122; clear HB; clear HO_3; have HO122 := n0_; have HB := n1_; have HO125 := n2_; clear n0_ n1_ n2_; clear ho hb hg hat))
                          go_roundg k2
                          case measure => have := HK1.out; have := HK2.out; omega
                          case rel => exact ⟨(y123), (wrap64 (x6_2 + 1)), (by first | rfl | (simp; done) | (simp [*]; done)), H', ⟨by have := HK1.out; have := HK2.out; omega⟩, ⟨by (with_reducible repeat (first | apply Kd.R_alloc | apply Kd.R_drewN | apply Kd.R_drew)); exact Kd.R_mono HO125.out (fun _ hk => trivial)⟩, ⟨by repeat (first | (with_reducible first | exact HB.out | apply below_alloc | apply pw_below_drewN | apply below_drew1) | exact HB.out)⟩⟩
                        · rw [if_neg c13] at H
                          exact absurd H (by simp)
                      · rw [if_neg c12] at H
                        have c12b0 : ((bt (rdOf ByteArray.empty l0 x10_1) x6_2) == 126) = false := beq_eq_false_iff_ne.mpr c12
                        have c12b1 : ((bt (rdOf ByteArray.empty l0 x10_1) x6_2) != 126) = true := bne_iff_ne.mpr c12
                        by_cases c18 : (bt (rdOf ByteArray.empty l0 x10_1) x6_2) = 47
                        · rw [if_pos c18] at H
                          have c18b0 : ((bt (rdOf ByteArray.empty l0 x10_1) x6_2) == 47) = true := beq_iff_eq.mpr c18
                          have c18b1 : ((bt (rdOf ByteArray.empty l0 x10_1) x6_2) != 47) = false := bne_eq_false_iff_eq.mpr c18
                          clear c18
                          obtain ⟨y126, hy126⟩ : ∃ y_ : List Int, y_ = (([126, 49] : List Int)) := ⟨_, rfl⟩
                          replace H : (if x3_2.length + y126.length < 140737488355328 then (spec_PointerOf.l1 k2 (x3_2 ++ y126) (rdOf ByteArray.empty l0 x10_1) (wrap64 (x6_2 + 1)) l0 (l0.length : Int) x10_1) else (none)) = some r := by first | (rw [hy126]; with_reducible exact H) | (have H2_ := (Option.bind_some _ _).symm.trans H; rw [hy126]; with_reducible exact H2_) | (have H2_ := (Option.bind_some _ _).symm.trans H; with_reducible exact H2_) | with_reducible exact H | (rw [hy126]; exact H) | exact H
                          have Ny126 := Aside0.mk hy126
                          clear hy126
                          by_cases c19 : x3_2.length + y126.length < 140737488355328
                          · rw [if_pos c19] at H
                            have LMc19 := Aside0.mk c19
                            clear c19
                            obtain ⟨y129, hy129⟩ : ∃ y_ : List Int, y_ = (x3_2 ++ y126) := ⟨_, rfl⟩
                            replace H : (spec_PointerOf.l1 k2 y129 (rdOf ByteArray.empty l0 x10_1) (wrap64 (x6_2 + 1)) l0 (l0.length : Int) x10_1) = some r := by first | (rw [hy129]; with_reducible exact H) | (have H2_ := (Option.bind_some _ _).symm.trans H; rw [hy129]; with_reducible exact H2_) | (have H2_ := (Option.bind_some _ _).symm.trans H; with_reducible exact H2_) | with_reducible exact H | (rw [hy129]; exact H) | exact H
                            have Ny129 := Aside0.mk hy129
                            clear hy129
                            have H' := Aside0.mk H
                            clear H
                            have p11 : 0 ≤ (x6_2 : Int) := of_decide_eq_true (by first | (with_reducible assumption) | assumption)
                            have q11 : x6_2 < ((rdOf ByteArray.empty l0 x10_1).size : Int) := of_decide_eq_true (by first | (with_reducible assumption) | assumption)
                            have hx11 := bt_at (rdOf ByteArray.empty l0 x10_1) x6_2
                            replace p11 := eq_true p11
                            replace q11 := eq_true q11
                            go_wp2_with (first | ((with_reducible refine gate_dst (N := 40) rfl ?_); refine Kd.R_lit (Kd.int .u8) _ 5 ?hg (N := 40) ?hd (xs := ([126, 49] : List Int)) (inner := [.int .u8 126, .int .u8 49]) (ok := fun _ => True) (okp := fun _ => True) ?hr ?hp (fun _ hk => hk) trivial (Below.refl _ _) (Nat.le_refl _) (by simp) ?_; (case hd => rfl); (case hg => rfl); (case hr => first | (go_simp; done) | (go_simp; rfl)); (case hp => exact (Reps.one (show Kd.M (Kd.int .u8) _ _ _ 126 [.int .u8 126] from rfl) (Reps.one (show Kd.M (Kd.int .u8) _ _ _ 49 [.int .u8 49] from rfl) (Reps.none _ _)))); intro v127 w20 ho21 hb hg_ hnew_; clear hg_ hnew_; (first | rw [← Ny126.out] at ho21 | (simp only [Int.reduceToNat] at ho21; rw [← Ny126.out] at ho21)); have n0_ := Aside0.mk (Kd.R_elder' (by (with_reducible repeat (first | apply Kd.R_alloc | apply Kd.R_drewN | apply Kd.R_drew)); exact HO_3.out) (Kd.R_base ho21) hb); have n1_ := Aside0.mk (Kd.R_lower (Kd.R_new' ho21 (Kd.R_lt (by (with_reducible repeat (first | apply Kd.R_alloc | apply Kd.R_drewN | apply Kd.R_drew)); exact HO_3.out))) (below_size (by repeat (first | (with_reducible first | exact HB.out | apply below_alloc | apply pw_below_drewN | apply below_drew1) | exact HB.out)))); have n2_ := Aside0.mk (below_step (by repeat (first | (with_reducible first | exact HB.out | apply below_alloc | apply pw_below_drewN | apply below_drew1) | exact HB.out)) hb); clear HO_3; clear HB; have HO_3 := n0_; have HO128 := n1_; have HB := n2_; clear n0_ n1_ n2_; clear hb ho21; obtain ⟨Ao23, co23, eo23⟩ := Kd.R_slice HO128.out; subst eo23) | ((with_reducible refine gate_builtin (b := .append) (xs := #[.tmp 39, .tmp 40]) rfl ?_); at_builtin; refine Kd.R_append_rows (Kd.int .u8) (w0 := w) w.heap.size rfl (.tmp 39) (.tmp 40) 51 5 (.int .u8 0) 1 rfl Try.underlying51 info5 rfl (by decide) (by omega) u3 x3_2 y126 _ _ _ (fun k_ => some k_ ≠ (.slice Ao23 y126.length co23 : Value).ownBlock) (fun _ => False) rfl rfl ?aO ?aR (fun _ _ h => h) (fun _ h => h.elim) ?aF ?aB ?aS ?aL ?_; (case aR => repeat (first | exact (Kd.R_reads' HO128.out).2.2 | (with_reducible refine Kd.C_alloc ?_ _) | (with_reducible refine Kd.C_drewN ?_ _) | (with_reducible refine Kd.C_drew ?_))); (case aB => exact (by repeat (first | (with_reducible first | exact HB.out | apply below_alloc | apply pw_below_drewN | apply below_drew1) | exact HB.out))); (case aF => exact (fun k_ hk => Kd.fresh' (Kd.R_lt (by (with_reducible repeat (first | apply Kd.R_alloc | apply Kd.R_drewN | apply Kd.R_drew)); exact HO128.out)) k_ hk)); (case aO => exact (by (with_reducible repeat (first | apply Kd.R_alloc | apply Kd.R_drewN | apply Kd.R_drew)); exact Kd.R_mono HO_3.out (fun _ hk => hk.2))); (case aS => exact (below_size (by repeat (first | (with_reducible first | exact HB.out | apply below_alloc | apply pw_below_drewN | apply below_drew1) | exact HB.out)))); (case aL => have := LMc19.out; omega); intro v130 w22 ho hb hg hat; rw [← Ny129.out] at ho; have n0_ := Aside0.mk (Kd.R_after (ok := (fun _ => True)) (by (with_reducible repeat (first | apply Kd.R_alloc | apply Kd.R_drewN | apply Kd.R_drew)); exact HO128.out) hg hat); have n1_ := Aside0.mk (hb); have n2_ := Aside0.mk (ho); clear HO128; clear HB; clear HO_3; have HO128 := n0_; have HB := n1_; have HO131 := n2_; clear n0_ n1_ n2_; clear ho hb hg hat))
                            go_roundg k2
                            case measure => have := HK1.out; have := HK2.out; omega
                            case rel => exact ⟨(y129), (wrap64 (x6_2 + 1)), (by first | rfl | (simp; done) | (simp [*]; done)), H', ⟨by have := HK1.out; have := HK2.out; omega⟩, ⟨by (with_reducible repeat (first | apply Kd.R_alloc | apply Kd.R_drewN | apply Kd.R_drew)); exact Kd.R_mono HO131.out (fun _ hk => trivial)⟩, ⟨by repeat (first | (with_reducible first | exact HB.out | apply below_alloc | apply pw_below_drewN | apply below_drew1) | exact HB.out)⟩⟩
                          · rw [if_neg c19] at H
                            exact absurd H (by simp)
                        · rw [if_neg c18] at H
                          have c18b0 : ((bt (rdOf ByteArray.empty l0 x10_1) x6_2) == 47) = false := beq_eq_false_iff_ne.mpr c18
                          have c18b1 : ((bt (rdOf ByteArray.empty l0 x10_1) x6_2) != 47) = true := bne_iff_ne.mpr c18
                          by_cases c25 : x3_2.length < 140737488355328
                          · rw [if_pos c25] at H
                            have LMc25 := Aside0.mk c25
                            clear c25
                            obtain ⟨y132, hy132⟩ : ∃ y_ : List Int, y_ = (x3_2 ++ [bt (rdOf ByteArray.empty l0 x10_1) x6_2]) := ⟨_, rfl⟩
                            replace H : (spec_PointerOf.l1 k2 y132 (rdOf ByteArray.empty l0 x10_1) (wrap64 (x6_2 + 1)) l0 (l0.length : Int) x10_1) = some r := by first | (rw [hy132]; with_reducible exact H) | (have H2_ := (Option.bind_some _ _).symm.trans H; rw [hy132]; with_reducible exact H2_) | (have H2_ := (Option.bind_some _ _).symm.trans H; with_reducible exact H2_) | with_reducible exact H | (rw [hy132]; exact H) | exact H
                            have Ny132 := Aside0.mk hy132
                            clear hy132
                            have H' := Aside0.mk H
                            clear H
                            have p11 : 0 ≤ (x6_2 : Int) := of_decide_eq_true (by first | (with_reducible assumption) | assumption)
                            have q11 : x6_2 < ((rdOf ByteArray.empty l0 x10_1).size : Int) := of_decide_eq_true (by first | (with_reducible assumption) | assumption)
                            have hx11 := bt_at (rdOf ByteArray.empty l0 x10_1) x6_2
                            replace p11 := eq_true p11
                            replace q11 := eq_true q11
                            have p24 : 0 ≤ (x6_2 : Int) := of_decide_eq_true (by first | (with_reducible assumption) | assumption)
                            have q24 : x6_2 < ((rdOf ByteArray.empty l0 x10_1).size : Int) := of_decide_eq_true (by first | (with_reducible assumption) | assumption)
                            have hx24 := bt_at (rdOf ByteArray.empty l0 x10_1) x6_2
                            replace p24 := eq_true p24
                            replace q24 := eq_true q24
                            go_wp2_with (first | ((with_reducible refine gate_builtin (b := .append) (xs := #[.tmp 26, .tmp 30]) rfl ?_); at_builtin; refine Kd.R_append (Kd.int .u8) (w0 := w) w.heap.size rfl (.tmp 26) (.tmp 30) 51 5 (.int .u8 0) 1 rfl Try.underlying51 info5 rfl (by decide) (by omega) u3 x3_2 (bt (rdOf ByteArray.empty l0 x10_1) x6_2) [.int .u8 (bt (rdOf ByteArray.empty l0 x10_1) x6_2)] (fun _ => True) (fun _ => False) rfl rfl ?aP (fun _ hk => hk.elim) ?aF ?aO ?aB ?aS ?aL ?_; (case aP => exact rfl); (case aB => exact (by repeat (first | (with_reducible first | exact HB.out | apply below_alloc | apply pw_below_drewN | apply below_drew1) | exact HB.out))); (case aF => exact (fun _ _ => trivial)); (case aO => exact (by (with_reducible repeat (first | apply Kd.R_alloc | apply Kd.R_drewN | apply Kd.R_drew)); exact HO_3.out)); (case aS => exact (below_size (by repeat (first | (with_reducible first | exact HB.out | apply below_alloc | apply pw_below_drewN | apply below_drew1) | exact HB.out)))); (case aL => have := LMc25.out; omega); intro v133 w26 ho hb hg hat; rw [← Ny132.out] at ho; have n0_ := Aside0.mk (hb); have n1_ := Aside0.mk (ho); clear HB; clear HO_3; have HB := n0_; have HO134 := n1_; clear n0_ n1_; clear ho hb hg hat))
                            go_roundg k2
                            case measure => have := HK1.out; have := HK2.out; omega
                            case rel => exact ⟨(y132), (wrap64 (x6_2 + 1)), (by first | rfl | (simp; done) | (simp [*]; done)), H', ⟨by have := HK1.out; have := HK2.out; omega⟩, ⟨by (with_reducible repeat (first | apply Kd.R_alloc | apply Kd.R_drewN | apply Kd.R_drew)); exact HO134.out⟩, ⟨by repeat (first | (with_reducible first | exact HB.out | apply below_alloc | apply pw_below_drewN | apply below_drew1) | exact HB.out)⟩⟩
                          · rw [if_neg c25] at H
                            exact absurd H (by simp)
                    · rw [if_neg c10] at H
                      exact absurd H (by simp)
                  · rw [if_neg c9] at H
                    have c9b0 : decide (x6_2 < ((rdOf ByteArray.empty l0 x10_1).size : Int)) = false := decide_eq_false c9
                    clear c9
                    have H' := Aside0.mk H
                    clear H
                    go_wp2
                    go_roundg k2
                    case measure => have := HK1.out; have := HK2.out; omega
                    case rel => exact ⟨(x3_2), (wrap64 (x10_1 + 1)), (by first | rfl | (simp; done) | (simp [*]; done)), H', ⟨by have := HK1.out; have := HK2.out; omega⟩, ⟨by (with_reducible repeat (first | apply Kd.R_alloc | apply Kd.R_drewN | apply Kd.R_drew)); exact HO_3.out⟩, ⟨by repeat (first | (with_reducible first | exact HB.out | apply below_alloc | apply pw_below_drewN | apply below_drew1) | exact HB.out)⟩⟩
            · rw [if_neg c7] at H
              exact absurd H (by simp)
          · rw [if_neg c6] at H
            exact absurd H (by simp)
        · rw [if_neg c5] at H
          exact absurd H (by simp)
      · rw [if_neg c4] at H
        have c4b0 : decide (x10_1 < (l0.length : Int)) = false := decide_eq_false c4
        clear c4
        obtain rfl := Option.some.inj H
        have hcv27 := own_string (P := Try.prog) Try.underlying51 Try.underlying5 Try.underlying9 (Kd.own_of_R HO_3.out)
        go_wp2
        go_ret
        exact ⟨by first | rfl | (simp [errW_none, errW_some] <;> rfl) | (simp [*, errW_none, errW_some] <;> rfl), by repeat (first | (with_reducible first | exact HB.out | apply below_alloc | apply pw_below_drewN | apply below_drew1) | exact HB.out)⟩

/-! ### laws_FnPaTokenBack: function 4 -/
def laws_FnPaTokenBack.f (k : Nat) (a0 : ByteArray) : Option (Bool) := if (a0.size : Int) > 2147483647 then (some true) else (if (a0.size : Int) > 4096 then (some true) else ((spec_PointerOf.f k (([a0] : List ByteArray))).bind fun t138 => (if 1 ≤ (t138.size : Int) then ((impl_PaToken.f k (t138.extract 1 t138.size)).bind fun t139 => (some (t139.toList == a0.toList))) else (none))))
theorem laws_FnPaTokenBack.mono : ∀ a0 k, LeO (laws_FnPaTokenBack.f k a0) (laws_FnPaTokenBack.f (k + 1) a0) := by
  intro a0 k
  unfold laws_FnPaTokenBack.f
  repeat' first
      | (with_reducible exact impl_PaToken.mono _ _)
      | (with_reducible exact spec_PointerOf.mono _ _)
      | (with_reducible exact LeO.refl _)
      | (with_reducible exact LeO.none _)
      | (with_reducible refine LeO.ite ?_ ?_)
      | (with_reducible refine LeO.bind ?_ (fun _ => ?_))
      | exact impl_PaToken.mono _ _
      | exact spec_PointerOf.mono _ _
      | exact LeO.none _
      | refine LeO.ite ?_ ?_
      | refine LeO.bind ?_ (fun _ => ?_)
set_option maxHeartbeats 8000000 in
set_option maxRecDepth 100000 in
theorem laws_FnPaTokenBack.calls (k : Nat) (a0 : ByteArray) (r : Bool) (w : World) (h : laws_FnPaTokenBack.f k a0 = some r) :
    Calls Try.prog 4 #[.string a0] w fun e w' => e = .returned (.bool r) ∧ Below w.heap.size w w' := by
  have HB := Aside0.mk (Below.refl w.heap.size w)
  have H : (if (a0.size : Int) > 2147483647 then (some true) else (if (a0.size : Int) > 4096 then (some true) else ((spec_PointerOf.f k (([a0] : List ByteArray))).bind fun t138 => (if 1 ≤ (t138.size : Int) then ((impl_PaToken.f k (t138.extract 1 t138.size)).bind fun t139 => (some (t139.toList == a0.toList))) else (none))))) = some r := h
  clear h
  by_cases c2 : (a0.size : Int) > 2147483647
  · rw [if_pos c2] at H
    have c2b0 : decide (2147483647 < (a0.size : Int)) = true := decide_eq_true c2
    have c2b1 : decide (2147483647 < a0.size) = true := decide_eq_true (by omega)
    clear c2
    obtain rfl := Option.some.inj H
    go_enter Try.func4, Try.ntmps4
    go_wp2
    go_ret
    exact ⟨by first | rfl | (simp [errW_none, errW_some] <;> rfl) | (simp [*, errW_none, errW_some] <;> rfl), by repeat (first | (with_reducible first | exact HB.out | apply below_alloc | apply pw_below_drewN | apply below_drew1) | exact HB.out)⟩
  · rw [if_neg c2] at H
    have c2b0 : decide (2147483647 < (a0.size : Int)) = false := decide_eq_false c2
    have c2b1 : decide (2147483647 < a0.size) = false := decide_eq_false (by omega)
    clear c2
    by_cases c3 : (a0.size : Int) > 4096
    · rw [if_pos c3] at H
      have c3b0 : decide (4096 < (a0.size : Int)) = true := decide_eq_true c3
      have c3b1 : decide (4096 < a0.size) = true := decide_eq_true (by omega)
      clear c3
      obtain rfl := Option.some.inj H
      go_enter Try.func4, Try.ntmps4
      go_wp2
      go_ret
      exact ⟨by first | rfl | (simp [errW_none, errW_some] <;> rfl) | (simp [*, errW_none, errW_some] <;> rfl), by repeat (first | (with_reducible first | exact HB.out | apply below_alloc | apply pw_below_drewN | apply below_drew1) | exact HB.out)⟩
    · rw [if_neg c3] at H
      have c3b0 : decide (4096 < (a0.size : Int)) = false := decide_eq_false c3
      have c3b1 : decide (4096 < a0.size) = false := decide_eq_false (by omega)
      clear c3
      obtain ⟨y135, hy135⟩ : ∃ y_ : List ByteArray, y_ = (([a0] : List ByteArray)) := ⟨_, rfl⟩
      replace H : ((spec_PointerOf.f k y135).bind fun t138 => (if 1 ≤ (t138.size : Int) then ((impl_PaToken.f k (t138.extract 1 t138.size)).bind fun t139 => (some (t139.toList == a0.toList))) else (none))) = some r := by first | (rw [hy135]; with_reducible exact H) | (have H2_ := (Option.bind_some _ _).symm.trans H; rw [hy135]; with_reducible exact H2_) | (have H2_ := (Option.bind_some _ _).symm.trans H; with_reducible exact H2_) | with_reducible exact H | (rw [hy135]; exact H) | exact H
      have Ny135 := Aside0.mk hy135
      clear hy135
      replace H := Option.bind_eq_some_iff.mp H
      obtain ⟨t138, A40, H⟩ := H
      replace H : (if 1 ≤ (t138.size : Int) then ((impl_PaToken.f k (t138.extract 1 t138.size)).bind fun t139 => (some (t139.toList == a0.toList))) else (none)) = some r := H
      have A4 := Aside0.mk A40
      clear A40
      by_cases c5 : 1 ≤ (t138.size : Int)
      · rw [if_pos c5] at H
        have c5b0 := eq_true c5
        have c5b1 : decide (1 ≤ (t138.size : Int)) = true := decide_eq_true c5
        clear c5
        replace H := Option.bind_eq_some_iff.mp H
        obtain ⟨t139, A60, H⟩ := H
        replace H : (some (t139.toList == a0.toList)) = some r := H
        have A6 := Aside0.mk A60
        clear A60
        obtain rfl := Option.some.inj H
        go_enter Try.func4, Try.ntmps4
        go_wp2_with (first | ((with_reducible refine gate_dst (N := 10) rfl ?_); refine Kd.R_lit Kd.string _ 9 ?hg (N := 10) ?hd (xs := ([a0] : List ByteArray)) (inner := [.string a0]) (ok := fun _ => True) (okp := fun _ => True) ?hr ?hp (fun _ hk => hk) trivial (Below.refl _ _) (Nat.le_refl _) (by simp) ?_; (case hd => rfl); (case hg => rfl); (case hr => first | (go_simp; done) | (go_simp; rfl)); (case hp => exact (Reps.one (show Kd.M Kd.string _ _ _ a0 [.string a0] from rfl) (Reps.none _ _))); intro v136 w7 ho8 hb hg_ hnew_; clear hg_ hnew_; (first | rw [← Ny135.out] at ho8 | (simp only [Int.reduceToNat] at ho8; rw [← Ny135.out] at ho8)); have n0_ := Aside0.mk (Kd.R_lower ho8 (below_size (by repeat (first | (with_reducible first | exact HB.out | apply below_alloc | apply pw_below_drewN | apply below_drew1) | exact HB.out)))); have n1_ := Aside0.mk (below_step (by repeat (first | (with_reducible first | exact HB.out | apply below_alloc | apply pw_below_drewN | apply below_drew1) | exact HB.out)) hb); clear HB; have HO137 := n0_; have HB := n1_; clear n0_ n1_; clear hb ho8; obtain ⟨Ao9, co9, eo9⟩ := Kd.R_slice HO137.out; subst eo9) | ((with_reducible refine gate_callee (f := 11) rfl ?_); refine goesL_ (some 11) rfl rfl Try.func11 (by kernel_rfl) rfl #[.slice Ao9 y135.length co9] rfl (by (try simp only [List.map_toArray, List.map_cons, List.map_nil]); first | done | rfl | (simp only [List.length_drop, List.length_take]; rfl)) ?_; (with_reducible refine (spec_PointerOf.calls k _ _ y135 t138 _ ?side1 ?side2 A4.out).mono ?_); (case side1 => repeat (first | exact (Kd.R_reads' HO137.out).2.2 | (with_reducible refine Kd.C_alloc ?_ _) | (with_reducible refine Kd.C_drewN ?_ _) | (with_reducible refine Kd.C_drew ?_))); (case side2 => exact (Kd.R_reads' HO137.out).2.1); rintro e w10 ⟨rfl, hb⟩; refine ⟨_, rfl, ?_⟩; have n0_ := Aside0.mk (Kd.R_below (by (with_reducible repeat (first | apply Kd.R_alloc | apply Kd.R_drewN | apply Kd.R_drew)); exact HO137.out) hb); have n1_ := Aside0.mk (below_step (by repeat (first | (with_reducible first | exact HB.out | apply below_alloc | apply pw_below_drewN | apply below_drew1) | exact HB.out)) hb); clear HO137; clear HB; have HO137 := n0_; have HB := n1_; clear n0_ n1_; (try clear hb); (try clear hb2); (try clear hk); (try clear hi)) | ((with_reducible refine gate_callee (f := 10) rfl ?_); refine goesL_ (some 13) rfl rfl Try.func10 (by kernel_rfl) rfl #[.string (t138.extract 1 t138.size)] rfl (by (try simp only [List.map_toArray, List.map_cons, List.map_nil]); first | done | rfl | (simp only [List.length_drop, List.length_take]; rfl)) ?_; (with_reducible refine (impl_PaToken.calls k (t138.extract 1 t138.size) t139 _ A6.out).mono ?_); rintro e w11 ⟨rfl, hb⟩; refine ⟨_, rfl, ?_⟩; have n0_ := Aside0.mk (Kd.R_below (by (with_reducible repeat (first | apply Kd.R_alloc | apply Kd.R_drewN | apply Kd.R_drew)); exact HO137.out) hb); have n1_ := Aside0.mk (below_step (by repeat (first | (with_reducible first | exact HB.out | apply below_alloc | apply pw_below_drewN | apply below_drew1) | exact HB.out)) hb); clear HO137; clear HB; have HO137 := n0_; have HB := n1_; clear n0_ n1_; (try clear hb); (try clear hb2); (try clear hk); (try clear hi)))
        go_ret
        exact ⟨by first | rfl | (simp [errW_none, errW_some] <;> rfl) | (simp [*, errW_none, errW_some] <;> rfl), by repeat (first | (with_reducible first | exact HB.out | apply below_alloc | apply pw_below_drewN | apply below_drew1) | exact HB.out)⟩
      · rw [if_neg c5] at H
        exact absurd H (by simp)

/-- THE ONE PURE STATEMENT of laws_FnPaTokenBack: yours. -/
def laws_FnPaTokenBack.Pure : Prop := ∀ (a0 : ByteArray), a0.size ≤ 140737488351232 → ∃ k, laws_FnPaTokenBack.f k a0 = some true
theorem laws_FnPaTokenBack.walk (P : laws_FnPaTokenBack.Pure) (a0 : ByteArray) (w : World) (w0 : a0.size ≤ 140737488351232) :
    Calls Try.prog 4 #[.string a0] w fun e w' => e = .returned (.bool true) ∧ Below w.heap.size w w' := by
  obtain ⟨k, h⟩ := P a0 w0
  refine (laws_FnPaTokenBack.calls k a0 true w h).mono ?_
  rintro e w' ⟨rfl, hd⟩
  exact ⟨rfl, hd⟩

end Go.Proofs.Ytikdecjojfmjaaa.PFnPaTokenBack
