-- Written for this claim by this session's own program (wip/xprint).
import Derived.Test.YtkdpkenhhcgnbaaDoorPFnMtTrimSuffixx0
namespace Go.Proofs.YtkdpkenhhcgnbaaDoor.PFnMtTrimSuffix
open Go.RowKit Go.Proofs.YtkdpkenhhcgnbaaDoorW.PrintWords Go.Proofs.YtkdpkenhhcgnbaaDoorW.PrintLast Go.Proofs.YtkdpkenhhcgnbaaDoorW.PrintMore
attribute [local go_sem] max2_int min2_int max_two min_two max_three min_three max_four min_four   -- for this text's walks alone
set_option linter.unusedVariables false
set_option linter.unusedSimpArgs false

/-! ### spec_Fits: function 36 -/
mutual
def spec_Fits.l0 : Nat → List Int → List Bool → List (S99) → Int → Int → Option (Bool)
  | 0, _, _, _, _, _ => none
  | k + 1, x0, x5, x16, x17, x18 => if x18 < x17 then (if 0 ≤ x18 then (if x18 < (x16.length : Int) then (if 0 ≤ (wrap64 ((x0.length : Int) + 1)) then (if (wrap64 ((x0.length : Int) + 1) : Int).toNat ≤ 281474976710656 then (spec_Fits.l1 k x0 x5 (List.replicate (wrap64 ((x0.length : Int) + 1) : Int).toNat false) 0 x16 x17 x18 ((rd_T99 x16 x18).f0) ((rd_T99 x16 x18).f1) ((rd_T99 x16 x18).f2)) else (none)) else (none)) else (none)) else (none)) else (if 0 ≤ (x0.length : Int) then (if (x0.length : Int) < (x5.length : Int) then (some (rdOf false x5 (x0.length : Int))) else (none)) else (none))
def spec_Fits.l1 : Nat → List Int → List Bool → List Bool → Int → List (S99) → Int → Int → Bool → Bool → Int → Option (Bool)
  | 0, _, _, _, _, _, _, _, _, _, _ => none
  | k + 1, x0, x5, x8, x9, x16, x17, x18, x134000, x134001, x134002 => if x9 ≤ (x0.length : Int) then (if x134000 = true then (if 0 ≤ x9 then (if x9 < (x5.length : Int) then (if rdOf false x5 x9 = true then (if x9 < (x8.length : Int) then (spec_Fits.l1 k x0 x5 (x8.set (x9 : Int).toNat true) (wrap64 (x9 + 1)) x16 x17 x18 x134000 x134001 x134002) else (none)) else (if x9 > 0 then (if 0 ≤ (wrap64 (x9 - 1)) then (if (wrap64 (x9 - 1)) < (x8.length : Int) then (if x9 < (x8.length : Int) then (spec_Fits.l1 k x0 x5 (x8.set (x9 : Int).toNat (rdOf false x8 (wrap64 (x9 - 1)))) (wrap64 (x9 + 1)) x16 x17 x18 x134000 x134001 x134002) else (none)) else (none)) else (none)) else (if x9 < (x8.length : Int) then (spec_Fits.l1 k x0 x5 (x8.set (x9 : Int).toNat false) (wrap64 (x9 + 1)) x16 x17 x18 x134000 x134001 x134002) else (none)))) else (none)) else (none)) else (if x9 > 0 then (if 0 ≤ (wrap64 (x9 - 1)) then (if (wrap64 (x9 - 1)) < (x5.length : Int) then (if rdOf false x5 (wrap64 (x9 - 1)) = true then (if x134001 = true then (if 0 ≤ x9 then (if x9 < (x8.length : Int) then (spec_Fits.l1 k x0 x5 (x8.set (x9 : Int).toNat true) (wrap64 (x9 + 1)) x16 x17 x18 x134000 x134001 x134002) else (none)) else (none)) else (if (wrap64 (x9 - 1)) < (x0.length : Int) then (if 0 ≤ x9 then (if x9 < (x8.length : Int) then (spec_Fits.l1 k x0 x5 (x8.set (x9 : Int).toNat (x134002 == (rd x0 (wrap64 (x9 - 1))))) (wrap64 (x9 + 1)) x16 x17 x18 x134000 x134001 x134002) else (none)) else (none)) else (none))) else (spec_Fits.l1 k x0 x5 x8 (wrap64 (x9 + 1)) x16 x17 x18 x134000 x134001 x134002)) else (none)) else (none)) else (spec_Fits.l1 k x0 x5 x8 (wrap64 (x9 + 1)) x16 x17 x18 x134000 x134001 x134002))) else (spec_Fits.l0 k x0 x8 x16 x17 (wrap64 (x18 + 1)))
end
def spec_Fits.f (k : Nat) (l0 : List Int) (l1 : List (S99)) : Option (Bool) := if 0 ≤ (wrap64 ((l0.length : Int) + 1)) then (if (wrap64 ((l0.length : Int) + 1) : Int).toNat ≤ 281474976710656 then ((some (List.replicate (wrap64 ((l0.length : Int) + 1) : Int).toNat false : List Bool)).bind fun y127 => (if 0 < (y127.length : Int) then (spec_Fits.l0 k l0 (y127.set (0 : Int).toNat true) l1 (l1.length : Int) 0) else (none))) else (none)) else (none)
theorem spec_Fits.mono_l : ∀ k, (∀ y0 y1 y2 y3 y4, LeO (spec_Fits.l0 k y0 y1 y2 y3 y4) (spec_Fits.l0 (k + 1) y0 y1 y2 y3 y4)) ∧ (∀ y0 y1 y2 y3 y4 y5 y6 y7 y8 y9, LeO (spec_Fits.l1 k y0 y1 y2 y3 y4 y5 y6 y7 y8 y9) (spec_Fits.l1 (k + 1) y0 y1 y2 y3 y4 y5 y6 y7 y8 y9))
  | 0 => ⟨fun _ _ _ _ _ r h => by simp [spec_Fits.l0] at h, fun _ _ _ _ _ _ _ _ _ _ r h => by simp [spec_Fits.l1] at h⟩
  | k + 1 => by
    obtain ⟨ih0, ih1⟩ := spec_Fits.mono_l k
    refine ⟨?_, ?_⟩
    · intro y0 y1 y2 y3 y4
      unfold spec_Fits.l0
      repeat' first
      | (with_reducible exact ih0 _ _ _ _ _)
      | (with_reducible exact ih1 _ _ _ _ _ _ _ _ _ _)
      | (with_reducible exact LeO.refl _)
      | (with_reducible exact LeO.none _)
      | (with_reducible refine LeO.ite ?_ ?_)
      | (with_reducible refine LeO.bind ?_ (fun _ => ?_))
      | exact ih0 _ _ _ _ _
      | exact ih1 _ _ _ _ _ _ _ _ _ _
      | exact LeO.none _
      | refine LeO.ite ?_ ?_
      | refine LeO.bind ?_ (fun _ => ?_)
    · intro y0 y1 y2 y3 y4 y5 y6 y7 y8 y9
      unfold spec_Fits.l1
      repeat' first
      | (with_reducible exact ih0 _ _ _ _ _)
      | (with_reducible exact ih1 _ _ _ _ _ _ _ _ _ _)
      | (with_reducible exact LeO.refl _)
      | (with_reducible exact LeO.none _)
      | (with_reducible refine LeO.ite ?_ ?_)
      | (with_reducible refine LeO.bind ?_ (fun _ => ?_))
      | exact ih0 _ _ _ _ _
      | exact ih1 _ _ _ _ _ _ _ _ _ _
      | exact LeO.none _
      | refine LeO.ite ?_ ?_
      | refine LeO.bind ?_ (fun _ => ?_)
theorem spec_Fits.mono : ∀ a0 a1 k, LeO (spec_Fits.f k a0 a1) (spec_Fits.f (k + 1) a0 a1) := by
  intro a0 a1 k
  obtain ⟨ih0, ih1⟩ := spec_Fits.mono_l k
  unfold spec_Fits.f
  repeat' first
      | (with_reducible exact ih0 _ _ _ _ _)
      | (with_reducible exact ih1 _ _ _ _ _ _ _ _ _ _)
      | (with_reducible exact LeO.refl _)
      | (with_reducible exact LeO.none _)
      | (with_reducible refine LeO.ite ?_ ?_)
      | (with_reducible refine LeO.bind ?_ (fun _ => ?_))
      | exact ih0 _ _ _ _ _
      | exact ih1 _ _ _ _ _ _ _ _ _ _
      | exact LeO.none _
      | refine LeO.ite ?_ ?_
      | refine LeO.bind ?_ (fun _ => ?_)
def spec_Fits.T13 : Bool × List (List Nat × List Nat) := (true, [([], []), ([], []), ([], []), ([2], [2]), ([3], [3]), ([4], [4]), ([5, 4], [4, 5]), ([4], [4]), ([4], [4]), ([8, 4], [4, 8]), ([7, 9, 4], [4, 7, 9]), ([10, 4], [4, 10]), ([6, 11, 4], [4, 6, 11]), ([4, 12], [4, 12]), ([0, 1, 0, 1, 2, 3, 4, 5, 6, 7, 8, 9, 10, 11, 12, 13], [0, 1]), ([14, 13, 4, 0, 1, 2, 3, 4, 5, 6, 7, 8, 9, 10, 11, 12, 13], [13, 14])])
def spec_Fits.B13 : List Nat := [0, 0, 0, 4, 12, 28, 60, 28, 28, 284, 924, 1948, 4092, 8188, 16383, 32767]
theorem spec_Fits.tab13 : rtab .any (opsOf Tryd.f36 13) = spec_Fits.T13 := by kernel_rfl
theorem spec_Fits.bits13 : waitsOk spec_Fits.T13.2 spec_Fits.B13 = true := by kernel_rfl
set_option maxHeartbeats 8000000 in
set_option maxRecDepth 100000 in
theorem spec_Fits.calls (k : Nat) (A0 : Option Addr) (c0 : Nat) (l0 : List Int) (A1 : Option Addr) (c1 : Nat) (l1 : List (S99)) (r : Bool) (w : World) (hr0 : Kd.C (Kd.int .i64) w A0 l0.length l0) (hc0 : l0.length ≤ c0) (hr1 : Kd.C k99 w A1 l1.length l1) (hc1 : l1.length ≤ c1) (h : spec_Fits.f k l0 l1 = some r) :
    Calls Tryd.prog 36 #[.slice A0 l0.length c0, .slice A1 l1.length c1] w fun e w' => e = .returned (.bool r) ∧ Below w.heap.size w w' := by
  have hu99 := Tryd.underlying99
  have HR0 := Aside0.mk hr0
  have HC0 := Aside0.mk hc0
  clear hr0 hc0
  have HR1 := Aside0.mk hr1
  have HC1 := Aside0.mk hc1
  clear hr1 hc1
  have HB := Aside0.mk (Below.refl w.heap.size w)
  have H : (if 0 ≤ (wrap64 ((l0.length : Int) + 1)) then (if (wrap64 ((l0.length : Int) + 1) : Int).toNat ≤ 281474976710656 then ((some (List.replicate (wrap64 ((l0.length : Int) + 1) : Int).toNat false : List Bool)).bind fun y127 => (if 0 < (y127.length : Int) then (spec_Fits.l0 k l0 (y127.set (0 : Int).toNat true) l1 (l1.length : Int) 0) else (none))) else (none)) else (none)) = some r := h
  clear h
  obtain ⟨ji3, hji3⟩ : ∃ j_ : Int, (wrap64 ((l0.length : Int) + 1)) = j_ := ⟨_, rfl⟩
  replace H : (if 0 ≤ (ji3) then (if (ji3 : Int).toNat ≤ 281474976710656 then ((some (List.replicate (ji3 : Int).toNat false : List Bool)).bind fun y127 => (if 0 < (y127.length : Int) then (spec_Fits.l0 k l0 (y127.set (0 : Int).toNat true) l1 (l1.length : Int) 0) else (none))) else (none)) else (none)) = some r := by first | (rw [hji3] at H; exact H) | (simp only [hji3] at H ⊢; exact H)
  have hji3w : (IntKind.i64.wrap ((l0.length : Int) + 1)) = ji3 := (i64_w _).trans hji3
  by_cases c4 : 0 ≤ (ji3)
  · rw [if_pos c4] at H
    have c4b0 := eq_true c4
    have c4b1 : decide (0 ≤ (ji3)) = true := decide_eq_true c4
    clear c4
    by_cases c5 : (ji3 : Int).toNat ≤ 281474976710656
    · rw [if_pos c5] at H
      have c5b0 := eq_true c5
      have c5b1 : decide ((ji3 : Int).toNat ≤ 281474976710656) = true := decide_eq_true c5
      clear c5
      obtain ⟨y127, hy127⟩ : ∃ y_ : List Bool, y_ = (List.replicate (ji3 : Int).toNat false) := ⟨_, rfl⟩
      replace H : (if 0 < (y127.length : Int) then (spec_Fits.l0 k l0 (y127.set (0 : Int).toNat true) l1 (l1.length : Int) 0) else (none)) = some r := by first | (rw [hy127]; with_reducible exact H) | (have H2_ := (Option.bind_some _ _).symm.trans H; rw [hy127]; with_reducible exact H2_) | (have H2_ := (Option.bind_some _ _).symm.trans H; with_reducible exact H2_) | with_reducible exact H | (rw [hy127]; exact H) | exact H
      have Ny127 := Aside0.mk hy127
      clear hy127
      by_cases c6 : 0 < (y127.length : Int)
      · rw [if_pos c6] at H
        have c6b0 : decide (0 < (y127.length : Int)) = true := decide_eq_true c6
        have c6b1 : decide (0 < y127.length) = true := decide_eq_true (by omega)
        clear c6
        obtain ⟨y130, hy130⟩ : ∃ y_ : List Bool, y_ = (y127.set (0 : Int).toNat true) := ⟨_, rfl⟩
        replace H : (spec_Fits.l0 k l0 y130 l1 (l1.length : Int) 0) = some r := by first | (rw [hy130]; with_reducible exact H) | (have H2_ := (Option.bind_some _ _).symm.trans H; rw [hy130]; with_reducible exact H2_) | (have H2_ := (Option.bind_some _ _).symm.trans H; with_reducible exact H2_) | with_reducible exact H | (rw [hy130]; exact H) | exact H
        have Ny130 := Aside0.mk hy130
        clear hy130
        have H' := Aside0.mk H
        clear H
        go_enter Tryd.func36, Tryd.ntmps36
        go_wp2_with (first | ((with_reducible refine gate_dst (N := 13) rfl ?_); refine Kd.R_make Kd.bool _ 4 rfl (N := 13) rfl 100 _ _ rfl ji3 rfl rfl Tryd.underlying100 (.bool false) 1 info4 rfl (by decide) (by omega) false (ok := fun _ => True) (okp := fun _ => True) rfl (fun _ hk => hk) trivial (of_decide_eq_true (by first | (with_reducible assumption) | assumption)) (Nat.le_trans (Nat.mul_le_mul_right _ (of_decide_eq_true (by first | (with_reducible assumption) | assumption) : ji3.toNat ≤ 281474976710656)) (by omega)) (Below.refl _ _) (Nat.le_refl _) ?_; intro v128 w8 ho9 hb hg_ hnew_; clear hg_ hnew_; (first | rw [← Ny127.out] at ho9 | (simp only [Int.reduceToNat] at ho9; rw [← Ny127.out] at ho9)); have n0_ := Aside0.mk (Kd.R_lower ho9 (below_size (by repeat (first | (with_reducible first | exact HB.out | apply below_alloc | apply pw_below_drewN | apply below_drew1) | exact HB.out)))); have n1_ := Aside0.mk (below_step (by repeat (first | (with_reducible first | exact HB.out | apply below_alloc | apply pw_below_drewN | apply below_drew1) | exact HB.out)) hb); clear HB; have HO129 := n0_; have HB := n1_; clear n0_ n1_; clear hb ho9; have p7 : 0 ≤ (0 : Int) := (by omega); have q7 : (0 : Int) < ((y127.length : Int) : Int) := of_decide_eq_true (by first | (with_reducible assumption) | assumption); have qi7 : (0 < y127.length) = True := eq_true (by omega); obtain ⟨go7, co7, eo7, gb7, gl7, cl7, HG7⟩ := Kd.R_form HO129.out (by omega); (first | cases eo7 | (injection eo7 with ea_ en_ ec_; (first | subst ea_ | (injection ea_ with ea_; subst ea_)); subst ec_; clear en_)); have GB7 := Aside0.mk gb7; have GG7 := Aside0.mk HG7; clear gb7 gl7 HG7; obtain ⟨hx7_0, hf7_0⟩ := Kd.R_celln false HO129.out (0 : Int) p7 q7; (try rw [show ((0 : Int)).toNat = 0 from rfl] at hx7_0); (try simp only [Nat.reduceMul, Nat.zero_mul, Nat.zero_add, Nat.reduceAdd] at hx7_0); (try rw [show ((0 : Int)).toNat = 0 from rfl] at hf7_0); (try simp only [Nat.reduceMul, Nat.zero_mul, Nat.zero_add, Nat.reduceAdd] at hf7_0); replace p7 := eq_true p7; replace q7 := eq_true q7; obtain ⟨hy10_, hz10_⟩ := Kd.R_celln false HO129.out (0 : Int) (by omega) (of_decide_eq_true (by first | (with_reducible assumption) | assumption)); (try simp only [Int.reduceToNat, Int.toNat_zero, Int.toNat_ofNat, Nat.reduceMul, Nat.zero_mul, Nat.zero_add] at hy10_ hz10_); (try rw [show ((0 : Int)).toNat = 0 from rfl] at hy10_); (try rw [show ((0 : Int)).toNat = 0 from rfl] at hz10_); have HP10 := Kd.R_putg HO129.out (0 : Int) true) | ((with_reducible refine gate_store (t := 4) (p := 15) rfl ?_); refine store_event (t := 4) (p := 15) (v := ?vo_w11) (w1 := (w8.setCell ⟨go7, (0 : Int).toNat, none⟩ (.bool true))) ?hg ?ho ?hn ?hr ?_; (case ho => rfl); (case hg => rfl); (case hn => rfl); (case hr => first | (go_simp; done) | (go_simp; rfl)); intro w11 hw; have hg : w8.grownBy w11 (some go7) := (by rw [hw]; exact HP10.2); have hp_ : Kd.R Kd.bool 4 w11 w.heap.size (fun _ => True) (.slice (some ⟨go7, 0, none⟩) y127.length co7) y130 := (by rw [hw, Ny130.out]; exact HP10.1); clear HP10; have n0_ := Aside0.mk (hp_); have n1_ := Aside0.mk ((by rw [hw]; exact below_set (HB.out) GB7.out : Below w.heap.size w w11)); clear HO129; clear HB; have HO129 := n0_; have HB := n1_; clear n0_ n1_; clear hg hw hp_))
        (try simp only [Act.put, List.setIfInBounds_toArray, List.set_cons_zero, List.set_cons_succ])
        go_loopg [5, 18] k (fun kq v5 v18 w' => ∃ (x5_1 : List Bool) (x18_1 : Int), v18 = .int .i64 x18_1 ∧ Aside0 (spec_Fits.l0 kq l0 x5_1 l1 (l1.length : Int) x18_1 = some r) ∧ Aside0 (kq ≤ k) ∧ Aside0 (Kd.R Kd.bool 4 w' w.heap.size (fun _ => True) v5 x5_1) ∧ Aside0 (Below w.heap.size w w'))
        case atStart => exact ⟨(y130), (0), (by first | rfl | (simp; done) | (simp [*]; done)), H', ⟨Nat.le_refl _⟩, ⟨by (with_reducible repeat (first | apply Kd.R_alloc | apply Kd.R_drewN | apply Kd.R_drew)); exact HO129.out⟩, ⟨by repeat (first | (with_reducible first | exact HB.out | apply below_alloc | apply pw_below_drewN | apply below_drew1) | exact HB.out)⟩⟩
        case round =>
          clear H'
          try clear c1
          try clear p2
          try clear c3
          try clear c4
          try clear c4b0
          try clear c4b1
          try clear c5
          try clear c5b0
          try clear c5b1
          try clear c6
          try clear c6b0
          try clear c6b1
          try clear p6
          try clear p7
          try clear q7
          try clear hx7
          try clear qi7
          try clear hf7
          try clear hx7_0
          try clear p7
          try clear q7
          obtain ⟨x5_1, x18_1, rfl, HA, HK1, HO_5, HB⟩ := hrel
          cases gk with
          | zero => exact absurd HA.out (by simp [spec_Fits.l0])
          | succ k1 =>
            have H := HA.out
            clear HA
            simp only [spec_Fits.l0] at H
            by_cases c12 : x18_1 < (l1.length : Int)
            · rw [if_pos c12] at H
              have c12b0 : decide (x18_1 < (l1.length : Int)) = true := decide_eq_true c12
              clear c12
              by_cases c13 : 0 ≤ x18_1
              · rw [if_pos c13] at H
                have c13b0 : decide (0 ≤ x18_1) = true := decide_eq_true c13
                clear c13
                by_cases c14 : x18_1 < (l1.length : Int)
                · rw [if_pos c14] at H
                  have c14b0 : decide (x18_1 < (l1.length : Int)) = true := decide_eq_true c14
                  clear c14
                  replace H : (if 0 ≤ (ji3) then (if (ji3 : Int).toNat ≤ 281474976710656 then (spec_Fits.l1 k1 l0 x5_1 (List.replicate (ji3 : Int).toNat false) 0 l1 (l1.length : Int) x18_1 ((rd_T99 l1 x18_1).f0) ((rd_T99 l1 x18_1).f1) ((rd_T99 l1 x18_1).f2)) else (none)) else (none)) = some r := by first | (rw [hji3] at H; exact H) | (simp only [hji3] at H ⊢; exact H)
                  have hji3w : (IntKind.i64.wrap ((l0.length : Int) + 1)) = ji3 := (i64_w _).trans hji3
                  by_cases c15 : 0 ≤ (ji3)
                  · rw [if_pos c15] at H
                    have c15b0 := eq_true c15
                    have c15b1 : decide (0 ≤ (ji3)) = true := decide_eq_true c15
                    clear c15
                    by_cases c16 : (ji3 : Int).toNat ≤ 281474976710656
                    · rw [if_pos c16] at H
                      have c16b0 := eq_true c16
                      have c16b1 : decide ((ji3 : Int).toNat ≤ 281474976710656) = true := decide_eq_true c16
                      clear c16
                      obtain ⟨y134, hy134⟩ : ∃ y_ : List Bool, y_ = (List.replicate (ji3 : Int).toNat false) := ⟨_, rfl⟩
                      replace H : (spec_Fits.l1 k1 l0 x5_1 y134 0 l1 (l1.length : Int) x18_1 ((rd_T99 l1 x18_1).f0) ((rd_T99 l1 x18_1).f1) ((rd_T99 l1 x18_1).f2)) = some r := by first | (rw [hy134]; with_reducible exact H) | (have H2_ := (Option.bind_some _ _).symm.trans H; rw [hy134]; with_reducible exact H2_) | (have H2_ := (Option.bind_some _ _).symm.trans H; with_reducible exact H2_) | with_reducible exact H | (rw [hy134]; exact H) | exact H
                      have Ny134 := Aside0.mk hy134
                      clear hy134
                      have H' := Aside0.mk H
                      clear H
                      have p132 : 0 ≤ (x18_1 : Int) := of_decide_eq_true (by first | (with_reducible assumption) | assumption)
                      have q132 : x18_1 < (l1.length : Int) := of_decide_eq_true (by first | (with_reducible assumption) | assumption)
                      obtain ⟨ad132, e132, hx132_0, hx132_1, hx132_2⟩ := at_T99 HR1.out x18_1 p132 q132
                      cases e132
                      replace hx132_0 := (HB.out.cell (World.block_lt_of_cell? w _ hx132_0)).trans hx132_0
                      replace hx132_1 := (HB.out.cell (World.block_lt_of_cell? w _ hx132_1)).trans hx132_1
                      replace hx132_2 := (HB.out.cell (World.block_lt_of_cell? w _ hx132_2)).trans hx132_2
                      replace p132 := eq_true p132
                      replace q132 := eq_true q132
                      go_wp2_with (first | ((with_reducible refine gate_dst (N := 7) rfl ?_); refine box_event ?hg (N := 7) ?hd (cs := #[.bool false, .bool false, .int .i64 0]) (t := 99) ?hr ?_; (case hd => rfl); (case hg => rfl); (case hr => first | (go_simp; done) | (go_simp; rfl)); intro gb133 hg w17 hbox hb; have n0_ := Aside0.mk (Kd.R_below (by (with_reducible repeat (first | apply Kd.R_alloc | apply Kd.R_drewN | apply Kd.R_drew)); exact HO_5.out) hb); have n1_ := Aside0.mk (below_step (by repeat (first | (with_reducible first | exact HB.out | apply below_alloc | apply pw_below_drewN | apply below_drew1) | exact HB.out)) hb); have n2_ := Aside0.mk (hbox); have n3_ := Aside0.mk ((by rw [hg]; exact (below_size (by repeat (first | (with_reducible first | exact HB.out | apply below_alloc | apply pw_below_drewN | apply below_drew1) | exact HB.out))) : w.heap.size ≤ gb133)); have n4_ := Aside0.mk ((by rw [hg]; exact (below_size (by repeat (first | (with_reducible first | exact HB.out | apply below_alloc | apply pw_below_drewN | apply below_drew1) | exact HB.out))) : w.heap.size ≤ gb133)); clear HO_5; clear HB; have HO_5 := n0_; have HB := n1_; have BK133 := n2_; have GW133 := n3_; have GE133 := n4_; clear n0_ n1_ n2_ n3_ n4_; clear hb hbox hg; have hcz18_0 : w17.cell? ⟨gb133, 0, none⟩ = some (.bool false) := (blk_cell BK133.out 0).trans rfl; have hcz18_1 : w17.cell? ⟨gb133, 1, none⟩ = some (.bool false) := (blk_cell BK133.out 1).trans rfl; have hcz18_2 : w17.cell? ⟨gb133, 2, none⟩ = some (.int .i64 0) := (blk_cell BK133.out 2).trans rfl; have hfz18_0 := blk_frozen BK133.out 0; have hfz18_1 := blk_frozen BK133.out 1; have hfz18_2 := blk_frozen BK133.out 2) | ((with_reducible refine gate_dst (N := 25) rfl ?_); refine Kd.R_make Kd.bool _ 4 rfl (N := 25) rfl 100 _ _ rfl ji3 rfl rfl Tryd.underlying100 (.bool false) 1 info4 rfl (by decide) (by omega) false (ok := fun _ => True) (okp := fun _ => True) rfl (fun _ hk => hk) trivial (of_decide_eq_true (by first | (with_reducible assumption) | assumption)) (Nat.le_trans (Nat.mul_le_mul_right _ (of_decide_eq_true (by first | (with_reducible assumption) | assumption) : ji3.toNat ≤ 281474976710656)) (by omega)) (Below.refl _ _) (Nat.le_refl _) ?_; intro v135 w19 ho20 hb hg_ hnew_; clear hg_ hnew_; (first | rw [← Ny134.out] at ho20 | (simp only [Int.reduceToNat] at ho20; rw [← Ny134.out] at ho20)); have n0_ := Aside0.mk (Kd.R_elder' (by (with_reducible repeat (first | apply Kd.R_alloc | apply Kd.R_drewN | apply Kd.R_drew)); exact (Kd.R_mono (Kd.R_far (p := ⟨gb133, 2, none⟩) (Kd.R_far (p := ⟨gb133, 1, none⟩) (Kd.R_far (p := ⟨gb133, 0, none⟩) (Kd.R_types HO_5.out BK133.out (by decide)) (fun _ hk => hk.2) (.bool ((rd_T99 l1 x18_1).f0))) (fun _ hk => hk.2) (.bool ((rd_T99 l1 x18_1).f1))) (fun _ hk => hk.2) (.int .i64 ((rd_T99 l1 x18_1).f2))) (fun _ h_ => h_.1))) (Kd.R_base ho20) hb); have n1_ := Aside0.mk (Kd.R_lower (Kd.R_new' ho20 (Kd.R_lt (by (with_reducible repeat (first | apply Kd.R_alloc | apply Kd.R_drewN | apply Kd.R_drew)); exact (Kd.R_mono (Kd.R_far (p := ⟨gb133, 2, none⟩) (Kd.R_far (p := ⟨gb133, 1, none⟩) (Kd.R_far (p := ⟨gb133, 0, none⟩) (Kd.R_types HO_5.out BK133.out (by decide)) (fun _ hk => hk.2) (.bool ((rd_T99 l1 x18_1).f0))) (fun _ hk => hk.2) (.bool ((rd_T99 l1 x18_1).f1))) (fun _ hk => hk.2) (.int .i64 ((rd_T99 l1 x18_1).f2))) (fun _ h_ => h_.1))))) (below_size (by repeat (first | (with_reducible first | exact HB.out | apply below_alloc | apply pw_below_drewN | apply below_drew1 | refine below_set ?_ GE133.out) | exact HB.out)))); have n2_ := Aside0.mk (blk_below (g := gb133) (o := .cells #[.bool ((rd_T99 l1 x18_1).f0), .bool ((rd_T99 l1 x18_1).f1), .int .i64 ((rd_T99 l1 x18_1).f2)] 99 (0, 0)) (by (with_reducible repeat (first | refine blk_drewN ?_ _ | refine blk_drew ?_ | refine blk_alloc ?_ _)); refine blk_put (cs := #[.bool ((rd_T99 l1 x18_1).f0), .bool ((rd_T99 l1 x18_1).f1), .int .i64 0]) ?_ 2 _ rfl; (with_reducible repeat (first | refine blk_drewN ?_ _ | refine blk_drew ?_ | refine blk_alloc ?_ _)); refine blk_put (cs := #[.bool ((rd_T99 l1 x18_1).f0), .bool false, .int .i64 0]) ?_ 1 _ rfl; (with_reducible repeat (first | refine blk_drewN ?_ _ | refine blk_drew ?_ | refine blk_alloc ?_ _)); refine blk_put (cs := #[.bool false, .bool false, .int .i64 0]) ?_ 0 _ rfl; (with_reducible repeat (first | refine blk_drewN ?_ _ | refine blk_drew ?_ | refine blk_alloc ?_ _)); exact BK133.out) hb); have n3_ := Aside0.mk (below_step (by repeat (first | (with_reducible first | exact HB.out | apply below_alloc | apply pw_below_drewN | apply below_drew1 | refine below_set ?_ GE133.out) | exact HB.out)) hb); clear HO_5; clear BK133; clear HB; have HO_5 := n0_; have HO136 := n1_; have BK133 := n2_; have HB := n3_; clear n0_ n1_ n2_ n3_; clear hb ho20))
                      (try simp only [Act.put, List.setIfInBounds_toArray, List.set_cons_zero, List.set_cons_succ])
                      go_loopg [9] k1 (fun kq v9 w' => ∃ (x8_2 : List Bool) (x9_2 : Int), v9 = .int .i64 x9_2 ∧ Aside0 (spec_Fits.l1 kq l0 x5_1 x8_2 x9_2 l1 (l1.length : Int) x18_1 ((rd_T99 l1 x18_1).f0) ((rd_T99 l1 x18_1).f1) ((rd_T99 l1 x18_1).f2) = some r) ∧ Aside0 (kq ≤ k1) ∧ Aside0 (Kd.R Kd.bool 4 w' w.heap.size (fun k_ => some k_ ≠ (v135 : Value).ownBlock) u5 x5_1) ∧ Aside0 (Kd.R Kd.bool 4 w' w.heap.size (fun k_ => some k_ ≠ (u5 : Value).ownBlock) v135 x8_2) ∧ Aside0 (w'.heap[gb133]? = some (.cells #[.bool ((rd_T99 l1 x18_1).f0), .bool ((rd_T99 l1 x18_1).f1), .int .i64 ((rd_T99 l1 x18_1).f2)] 99 (0, 0))) ∧ Aside0 (Below w.heap.size w w'))
                      case atStart => exact ⟨(y134), (0), (by first | rfl | (simp; done) | (simp [*]; done)), H', ⟨Nat.le_refl _⟩, ⟨by (with_reducible repeat (first | apply Kd.R_alloc | apply Kd.R_drewN | apply Kd.R_drew)); exact Kd.R_mono HO_5.out (fun _ hk => hk.2)⟩, ⟨by (with_reducible repeat (first | apply Kd.R_alloc | apply Kd.R_drewN | apply Kd.R_drew)); exact Kd.R_mono HO136.out (fun _ hk => hk.2)⟩, ⟨by (with_reducible repeat (first | refine blk_drewN ?_ _ | refine blk_drew ?_ | refine blk_alloc ?_ _)); exact BK133.out⟩, ⟨by repeat (first | (with_reducible first | exact HB.out | apply below_alloc | apply pw_below_drewN | apply below_drew1 | refine below_set ?_ GE133.out) | exact HB.out)⟩⟩
                      case round =>
                        clear H'
                        try clear c1
                        try clear p1
                        try clear q1
                        try clear hx1
                        try clear p2
                        try clear c3
                        try clear c4
                        try clear c4b0
                        try clear c4b1
                        try clear c5
                        try clear c5b0
                        try clear c5b1
                        try clear c6
                        try clear c6b0
                        try clear c6b1
                        try clear p6
                        try clear p7
                        try clear q7
                        try clear hx7
                        try clear qi7
                        try clear hf7
                        try clear c12
                        try clear c12b0
                        try clear c13
                        try clear c13b0
                        try clear p13
                        try clear q13
                        try clear hx13
                        try clear c14
                        try clear c14b0
                        try clear c15
                        try clear c15b0
                        try clear c15b1
                        try clear c16
                        try clear c16b0
                        try clear c16b1
                        try clear hcz18_0
                        try clear hcz18_1
                        try clear hcz18_2
                        try clear hfz18_0
                        try clear hfz18_1
                        try clear hfz18_2
                        try clear hx132_0
                        try clear hx132_1
                        try clear hx132_2
                        try clear hx7_0
                        try clear p132
                        try clear p2
                        try clear p6
                        try clear p7
                        try clear q132
                        try clear q7
                        obtain ⟨x8_2, x9_2, rfl, HA, HK2, HO_5, HO_8, BK133, HB⟩ := hrel
                        cases gk with
                        | zero => exact absurd HA.out (by simp [spec_Fits.l1])
                        | succ k2 =>
                          have H := HA.out
                          clear HA
                          simp only [spec_Fits.l1] at H
                          by_cases c21 : x9_2 ≤ (l0.length : Int)
                          · rw [if_pos c21] at H
                            have c21b0 : decide (x9_2 ≤ (l0.length : Int)) = true := decide_eq_true c21
                            clear c21
                            by_cases c22 : ((rd_T99 l1 x18_1).f0) = true
                            · rw [if_pos c22] at H
                              have c22b0 : ((rd_T99 l1 x18_1).f0) = true := c22
                              clear c22
                              by_cases c23 : 0 ≤ x9_2
                              · rw [if_pos c23] at H
                                have c23b0 : decide (0 ≤ x9_2) = true := decide_eq_true c23
                                clear c23
                                by_cases c24 : x9_2 < (x5_1.length : Int)
                                · rw [if_pos c24] at H
                                  have c24b0 : decide (x9_2 < (x5_1.length : Int)) = true := decide_eq_true c24
                                  clear c24
                                  obtain ⟨bq25, hbq25⟩ : ∃ b_ : Bool, b_ = (rdOf false x5_1 x9_2) := ⟨_, rfl⟩
                                  replace H : (if bq25 = true then (if x9_2 < (x8_2.length : Int) then (spec_Fits.l1 k2 l0 x5_1 (x8_2.set (x9_2 : Int).toNat true) (wrap64 (x9_2 + 1)) l1 (l1.length : Int) x18_1 ((rd_T99 l1 x18_1).f0) ((rd_T99 l1 x18_1).f1) ((rd_T99 l1 x18_1).f2)) else (none)) else (if x9_2 > 0 then (if 0 ≤ (wrap64 (x9_2 - 1)) then (if (wrap64 (x9_2 - 1)) < (x8_2.length : Int) then (if x9_2 < (x8_2.length : Int) then (spec_Fits.l1 k2 l0 x5_1 (x8_2.set (x9_2 : Int).toNat (rdOf false x8_2 (wrap64 (x9_2 - 1)))) (wrap64 (x9_2 + 1)) l1 (l1.length : Int) x18_1 ((rd_T99 l1 x18_1).f0) ((rd_T99 l1 x18_1).f1) ((rd_T99 l1 x18_1).f2)) else (none)) else (none)) else (none)) else (if x9_2 < (x8_2.length : Int) then (spec_Fits.l1 k2 l0 x5_1 (x8_2.set (x9_2 : Int).toNat false) (wrap64 (x9_2 + 1)) l1 (l1.length : Int) x18_1 ((rd_T99 l1 x18_1).f0) ((rd_T99 l1 x18_1).f1) ((rd_T99 l1 x18_1).f2)) else (none)))) = some r := by rw [← hbq25] at H; exact H
                                  have Nbq25 := Aside0.mk hbq25
                                  clear hbq25
                                  by_cases c26 : bq25 = true
                                  · subst c26
                                    have H1 : (if x9_2 < (x8_2.length : Int) then (spec_Fits.l1 k2 l0 x5_1 (x8_2.set (x9_2 : Int).toNat true) (wrap64 (x9_2 + 1)) l1 (l1.length : Int) x18_1 ((rd_T99 l1 x18_1).f0) ((rd_T99 l1 x18_1).f1) ((rd_T99 l1 x18_1).f2)) else (none)) = some r := by rw [if_pos rfl] at H; exact H
                                    clear H
                                    have H := H1
                                    clear H1
                                    by_cases c27 : x9_2 < (x8_2.length : Int)
                                    · rw [if_pos c27] at H
                                      have c27b0 : decide (x9_2 < (x8_2.length : Int)) = true := decide_eq_true c27
                                      clear c27
                                      obtain ⟨y138, hy138⟩ : ∃ y_ : List Bool, y_ = (x8_2.set (x9_2 : Int).toNat true) := ⟨_, rfl⟩
                                      replace H : (spec_Fits.l1 k2 l0 x5_1 y138 (wrap64 (x9_2 + 1)) l1 (l1.length : Int) x18_1 ((rd_T99 l1 x18_1).f0) ((rd_T99 l1 x18_1).f1) ((rd_T99 l1 x18_1).f2)) = some r := by first | (rw [hy138]; with_reducible exact H) | (have H2_ := (Option.bind_some _ _).symm.trans H; rw [hy138]; with_reducible exact H2_) | (have H2_ := (Option.bind_some _ _).symm.trans H; with_reducible exact H2_) | with_reducible exact H | (rw [hy138]; exact H) | exact H
                                      have Ny138 := Aside0.mk hy138
                                      clear hy138
                                      have H' := Aside0.mk H
                                      clear H
                                      have hcz29_0 : wr.cell? ⟨gb133, 0, none⟩ = some (.bool ((rd_T99 l1 x18_1).f0)) := (blk_cell BK133.out 0).trans rfl
                                      have hcz29_1 : wr.cell? ⟨gb133, 1, none⟩ = some (.bool ((rd_T99 l1 x18_1).f1)) := (blk_cell BK133.out 1).trans rfl
                                      have hcz29_2 : wr.cell? ⟨gb133, 2, none⟩ = some (.int .i64 ((rd_T99 l1 x18_1).f2)) := (blk_cell BK133.out 2).trans rfl
                                      have hfz29_0 := blk_frozen BK133.out 0
                                      have hfz29_1 := blk_frozen BK133.out 1
                                      have hfz29_2 := blk_frozen BK133.out 2
                                      obtain ⟨Ao30, co30, eo30⟩ := Kd.R_slice HO_5.out
                                      subst eo30
                                      have p137 : 0 ≤ (x9_2 : Int) := of_decide_eq_true (by first | (with_reducible assumption) | assumption)
                                      have q137 : x9_2 < (x5_1.length : Int) := of_decide_eq_true (by first | (with_reducible assumption) | assumption)
                                      obtain ⟨ad137, e137, hx137_0⟩ := Kd.at_bool (Kd.R_reads' HO_5.out).2.2 x9_2 p137 q137
                                      (try rw [← Nbq25.out] at hx137_0)
                                      cases e137
                                      replace p137 := eq_true p137
                                      replace q137 := eq_true q137
                                      have p28 : 0 ≤ (x9_2 : Int) := of_decide_eq_true (by first | (with_reducible assumption) | assumption)
                                      have q28 : (x9_2 : Int) < ((x8_2.length : Int) : Int) := of_decide_eq_true (by first | (with_reducible assumption) | assumption)
                                      obtain ⟨go28, co28, eo28, gb28, gl28, cl28, HG28⟩ := Kd.R_form HO_8.out (by omega)
                                      (first | cases eo28 | (injection eo28 with ea_ en_ ec_; (first | subst ea_ | (injection ea_ with ea_; subst ea_)); subst ec_; clear en_))
                                      have GB28 := Aside0.mk gb28
                                      have GG28 := Aside0.mk HG28
                                      clear gb28 gl28 HG28
                                      obtain ⟨hx28_0, hf28_0⟩ := Kd.R_celln false HO_8.out (x9_2 : Int) p28 q28
                                      replace p28 := eq_true p28
                                      replace q28 := eq_true q28
                                      have HP31 := Kd.R_putg HO_8.out (x9_2 : Int) true
                                      go_wp2_with (first | ((with_reducible refine gate_store (t := 4) (p := 52) rfl ?_); refine store_event (t := 4) (p := 52) (v := ?vo_w32) (w1 := (wr.setCell ⟨go28, (x9_2 : Int).toNat, none⟩ (.bool true))) ?hg ?ho ?hn ?hr ?_; (case ho => rfl); (case hg => rfl); (case hn => rfl); (case hr => first | (go_simp; done) | (go_simp; rfl)); intro w32 hw; have hg : wr.grownBy w32 (some go28) := (by rw [hw]; exact HP31.2); have hp_ : Kd.R Kd.bool 4 w32 w.heap.size (fun k_ => some k_ ≠ (.slice (some ad137) x5_1.length co30 : Value).ownBlock) (.slice (some ⟨go28, 0, none⟩) x8_2.length co28) y138 := (by rw [hw, Ny138.out]; exact HP31.1); clear HP31; have n0_ := Aside0.mk (Kd.R_after (v := (.slice (some ⟨go28, 0, none⟩) x8_2.length co28)) (v1 := (.slice (some ⟨go28, 0, none⟩) x8_2.length co28)) (ok := (fun _ => True)) (by (with_reducible repeat (first | apply Kd.R_alloc | apply Kd.R_drewN | apply Kd.R_drew)); exact Kd.R_mono HO_5.out (fun _ hk => ⟨trivial, hk⟩)) hg (.inl rfl)); have n1_ := Aside0.mk (hp_); have n2_ := Aside0.mk (blk_grown (g := gb133) (o := .cells #[.bool ((rd_T99 l1 x18_1).f0), .bool ((rd_T99 l1 x18_1).f1), .int .i64 ((rd_T99 l1 x18_1).f2)] 99 (0, 0)) (by (with_reducible repeat (first | refine blk_drewN ?_ _ | refine blk_drew ?_ | refine blk_alloc ?_ _)); exact BK133.out) hg (Kd.R_ne HO_8.out BK133.out (by decide))); have n3_ := Aside0.mk ((by rw [hw]; exact below_set (HB.out) GB28.out : Below w.heap.size w w32)); clear HO_5; clear HO_8; clear BK133; clear HB; have HO_5 := n0_; have HO_8 := n1_; have BK133 := n2_; have HB := n3_; clear n0_ n1_ n2_ n3_; clear hg hw hp_))
                                      go_roundg k2
                                      case measure => have := HK1.out; have := HK2.out; omega
                                      case rel => exact ⟨(y138), (wrap64 (x9_2 + 1)), (by first | rfl | (simp; done) | (simp [*]; done)), H', ⟨by have := HK1.out; have := HK2.out; omega⟩, ⟨by (with_reducible repeat (first | apply Kd.R_alloc | apply Kd.R_drewN | apply Kd.R_drew)); exact Kd.R_mono HO_5.out (fun _ hk => hk.2)⟩, ⟨by (with_reducible repeat (first | apply Kd.R_alloc | apply Kd.R_drewN | apply Kd.R_drew)); exact HO_8.out⟩, ⟨by (with_reducible repeat (first | refine blk_drewN ?_ _ | refine blk_drew ?_ | refine blk_alloc ?_ _)); exact BK133.out⟩, ⟨by repeat (first | (with_reducible first | exact HB.out | apply below_alloc | apply pw_below_drewN | apply below_drew1 | refine below_set ?_ GE133.out) | exact HB.out)⟩⟩
                                    · rw [if_neg c27] at H
                                      exact absurd H (by simp)
                                  · replace c26 := Bool.eq_false_iff.mpr c26
                                    subst c26
                                    have H1 : (if x9_2 > 0 then (if 0 ≤ (wrap64 (x9_2 - 1)) then (if (wrap64 (x9_2 - 1)) < (x8_2.length : Int) then (if x9_2 < (x8_2.length : Int) then (spec_Fits.l1 k2 l0 x5_1 (x8_2.set (x9_2 : Int).toNat (rdOf false x8_2 (wrap64 (x9_2 - 1)))) (wrap64 (x9_2 + 1)) l1 (l1.length : Int) x18_1 ((rd_T99 l1 x18_1).f0) ((rd_T99 l1 x18_1).f1) ((rd_T99 l1 x18_1).f2)) else (none)) else (none)) else (none)) else (if x9_2 < (x8_2.length : Int) then (spec_Fits.l1 k2 l0 x5_1 (x8_2.set (x9_2 : Int).toNat false) (wrap64 (x9_2 + 1)) l1 (l1.length : Int) x18_1 ((rd_T99 l1 x18_1).f0) ((rd_T99 l1 x18_1).f1) ((rd_T99 l1 x18_1).f2)) else (none))) = some r := by rw [if_neg (show ¬ (false = true) by decide)] at H; exact H
                                    clear H
                                    have H := H1
                                    clear H1
                                    by_cases c33 : x9_2 > 0
                                    · rw [if_pos c33] at H
                                      have c33b0 : decide (0 < x9_2) = true := decide_eq_true c33
                                      clear c33
                                      obtain ⟨ji34, hji34⟩ : ∃ j_ : Int, (wrap64 (x9_2 - 1)) = j_ := ⟨_, rfl⟩
                                      replace H : (if 0 ≤ (ji34) then (if (ji34) < (x8_2.length : Int) then (if x9_2 < (x8_2.length : Int) then (spec_Fits.l1 k2 l0 x5_1 (x8_2.set (x9_2 : Int).toNat (rdOf false x8_2 (ji34))) (wrap64 (x9_2 + 1)) l1 (l1.length : Int) x18_1 ((rd_T99 l1 x18_1).f0) ((rd_T99 l1 x18_1).f1) ((rd_T99 l1 x18_1).f2)) else (none)) else (none)) else (none)) = some r := by first | (rw [hji34] at H; exact H) | (simp only [hji34] at H ⊢; exact H)
                                      have hji34w : (IntKind.i64.wrap (x9_2 - 1)) = ji34 := (i64_w _).trans hji34
                                      by_cases c35 : 0 ≤ (ji34)
                                      · rw [if_pos c35] at H
                                        have c35b0 : decide (0 ≤ (ji34)) = true := decide_eq_true c35
                                        clear c35
                                        by_cases c36 : (ji34) < (x8_2.length : Int)
                                        · rw [if_pos c36] at H
                                          have c36b0 : decide ((ji34) < (x8_2.length : Int)) = true := decide_eq_true c36
                                          clear c36
                                          by_cases c37 : x9_2 < (x8_2.length : Int)
                                          · rw [if_pos c37] at H
                                            have c37b0 : decide (x9_2 < (x8_2.length : Int)) = true := decide_eq_true c37
                                            clear c37
                                            obtain ⟨y140, hy140⟩ : ∃ y_ : List Bool, y_ = (x8_2.set (x9_2 : Int).toNat (rdOf false x8_2 (ji34))) := ⟨_, rfl⟩
                                            replace H : (spec_Fits.l1 k2 l0 x5_1 y140 (wrap64 (x9_2 + 1)) l1 (l1.length : Int) x18_1 ((rd_T99 l1 x18_1).f0) ((rd_T99 l1 x18_1).f1) ((rd_T99 l1 x18_1).f2)) = some r := by first | (rw [hy140]; with_reducible exact H) | (have H2_ := (Option.bind_some _ _).symm.trans H; rw [hy140]; with_reducible exact H2_) | (have H2_ := (Option.bind_some _ _).symm.trans H; with_reducible exact H2_) | with_reducible exact H | (rw [hy140]; exact H) | exact H
                                            have Ny140 := Aside0.mk hy140
                                            clear hy140
                                            have H' := Aside0.mk H
                                            clear H
                                            have hcz39_0 : wr.cell? ⟨gb133, 0, none⟩ = some (.bool ((rd_T99 l1 x18_1).f0)) := (blk_cell BK133.out 0).trans rfl
                                            have hcz39_1 : wr.cell? ⟨gb133, 1, none⟩ = some (.bool ((rd_T99 l1 x18_1).f1)) := (blk_cell BK133.out 1).trans rfl
                                            have hcz39_2 : wr.cell? ⟨gb133, 2, none⟩ = some (.int .i64 ((rd_T99 l1 x18_1).f2)) := (blk_cell BK133.out 2).trans rfl
                                            have hfz39_0 := blk_frozen BK133.out 0
                                            have hfz39_1 := blk_frozen BK133.out 1
                                            have hfz39_2 := blk_frozen BK133.out 2
                                            obtain ⟨Ao40, co40, eo40⟩ := Kd.R_slice HO_5.out
                                            subst eo40
                                            have p137 : 0 ≤ (x9_2 : Int) := of_decide_eq_true (by first | (with_reducible assumption) | assumption)
                                            have q137 : x9_2 < (x5_1.length : Int) := of_decide_eq_true (by first | (with_reducible assumption) | assumption)
                                            obtain ⟨ad137, e137, hx137_0⟩ := Kd.at_bool (Kd.R_reads' HO_5.out).2.2 x9_2 p137 q137
                                            (try rw [← Nbq25.out] at hx137_0)
                                            cases e137
                                            replace p137 := eq_true p137
                                            replace q137 := eq_true q137
                                            obtain ⟨Ao41, co41, eo41⟩ := Kd.R_slice HO_8.out
                                            subst eo41
                                            have p139 : 0 ≤ ((ji34) : Int) := of_decide_eq_true (by first | (with_reducible assumption) | assumption)
                                            have q139 : (ji34) < (x8_2.length : Int) := of_decide_eq_true (by first | (with_reducible assumption) | assumption)
                                            obtain ⟨ad139, e139, hx139_0⟩ := Kd.at_bool (Kd.R_reads' HO_8.out).2.2 (ji34) p139 q139
                                            (try rw [← Nbq25.out] at hx139_0)
                                            cases e139
                                            replace p139 := eq_true p139
                                            replace q139 := eq_true q139
                                            have p38 : 0 ≤ (x9_2 : Int) := of_decide_eq_true (by first | (with_reducible assumption) | assumption)
                                            have q38 : (x9_2 : Int) < ((x8_2.length : Int) : Int) := of_decide_eq_true (by first | (with_reducible assumption) | assumption)
                                            obtain ⟨go38, co38, eo38, gb38, gl38, cl38, HG38⟩ := Kd.R_form HO_8.out (by omega)
                                            (first | cases eo38 | (injection eo38 with ea_ en_ ec_; (first | subst ea_ | (injection ea_ with ea_; subst ea_)); subst ec_; clear en_))
                                            have GB38 := Aside0.mk gb38
                                            have GG38 := Aside0.mk HG38
                                            clear gb38 gl38 HG38
                                            (first | simp only [add_plain] at hx139_0 | skip)
                                            obtain ⟨hx38_0, hf38_0⟩ := Kd.R_celln false HO_8.out (x9_2 : Int) p38 q38
                                            replace p38 := eq_true p38
                                            replace q38 := eq_true q38
                                            have HP42 := Kd.R_putg HO_8.out (x9_2 : Int) (rdOf false x8_2 (ji34))
                                            go_wp2_with (first | ((with_reducible refine gate_store (t := 4) (p := 52) rfl ?_); refine store_event (t := 4) (p := 52) (v := ?vo_w43) (w1 := (wr.setCell ⟨go38, (x9_2 : Int).toNat, none⟩ (.bool (rdOf false x8_2 (ji34))))) ?hg ?ho ?hn ?hr ?_; (case ho => rfl); (case hg => rfl); (case hn => rfl); (case hr => first | (go_simp; done) | (go_simp; rfl)); intro w43 hw; have hg : wr.grownBy w43 (some go38) := (by rw [hw]; exact HP42.2); have hp_ : Kd.R Kd.bool 4 w43 w.heap.size (fun k_ => some k_ ≠ (.slice (some ad137) x5_1.length co40 : Value).ownBlock) (.slice (some ⟨go38, 0, none⟩) x8_2.length co41) y140 := (by rw [hw, Ny140.out]; exact HP42.1); clear HP42; have n0_ := Aside0.mk (Kd.R_after (v := (.slice (some ⟨go38, 0, none⟩) x8_2.length co41)) (v1 := (.slice (some ⟨go38, 0, none⟩) x8_2.length co41)) (ok := (fun _ => True)) (by (with_reducible repeat (first | apply Kd.R_alloc | apply Kd.R_drewN | apply Kd.R_drew)); exact Kd.R_mono HO_5.out (fun _ hk => ⟨trivial, hk⟩)) hg (.inl rfl)); have n1_ := Aside0.mk (hp_); have n2_ := Aside0.mk (blk_grown (g := gb133) (o := .cells #[.bool ((rd_T99 l1 x18_1).f0), .bool ((rd_T99 l1 x18_1).f1), .int .i64 ((rd_T99 l1 x18_1).f2)] 99 (0, 0)) (by (with_reducible repeat (first | refine blk_drewN ?_ _ | refine blk_drew ?_ | refine blk_alloc ?_ _)); exact BK133.out) hg (Kd.R_ne HO_8.out BK133.out (by decide))); have n3_ := Aside0.mk ((by rw [hw]; exact below_set (HB.out) GB38.out : Below w.heap.size w w43)); clear HO_5; clear HO_8; clear BK133; clear HB; have HO_5 := n0_; have HO_8 := n1_; have BK133 := n2_; have HB := n3_; clear n0_ n1_ n2_ n3_; clear hg hw hp_))
                                            go_roundg k2
                                            case measure => have := HK1.out; have := HK2.out; omega
                                            case rel => exact ⟨(y140), (wrap64 (x9_2 + 1)), (by first | rfl | (simp; done) | (simp [*]; done)), H', ⟨by have := HK1.out; have := HK2.out; omega⟩, ⟨by (with_reducible repeat (first | apply Kd.R_alloc | apply Kd.R_drewN | apply Kd.R_drew)); exact Kd.R_mono HO_5.out (fun _ hk => hk.2)⟩, ⟨by (with_reducible repeat (first | apply Kd.R_alloc | apply Kd.R_drewN | apply Kd.R_drew)); exact HO_8.out⟩, ⟨by (with_reducible repeat (first | refine blk_drewN ?_ _ | refine blk_drew ?_ | refine blk_alloc ?_ _)); exact BK133.out⟩, ⟨by repeat (first | (with_reducible first | exact HB.out | apply below_alloc | apply pw_below_drewN | apply below_drew1 | refine below_set ?_ GE133.out) | exact HB.out)⟩⟩
                                          · rw [if_neg c37] at H
                                            exact absurd H (by simp)
                                        · rw [if_neg c36] at H
                                          exact absurd H (by simp)
                                      · rw [if_neg c35] at H
                                        exact absurd H (by simp)
                                    · rw [if_neg c33] at H
                                      have c33b0 : decide (0 < x9_2) = false := decide_eq_false c33
                                      clear c33
                                      by_cases c44 : x9_2 < (x8_2.length : Int)
                                      · rw [if_pos c44] at H
                                        have c44b0 : decide (x9_2 < (x8_2.length : Int)) = true := decide_eq_true c44
                                        clear c44
                                        obtain ⟨y141, hy141⟩ : ∃ y_ : List Bool, y_ = (x8_2.set (x9_2 : Int).toNat false) := ⟨_, rfl⟩
                                        replace H : (spec_Fits.l1 k2 l0 x5_1 y141 (wrap64 (x9_2 + 1)) l1 (l1.length : Int) x18_1 ((rd_T99 l1 x18_1).f0) ((rd_T99 l1 x18_1).f1) ((rd_T99 l1 x18_1).f2)) = some r := by first | (rw [hy141]; with_reducible exact H) | (have H2_ := (Option.bind_some _ _).symm.trans H; rw [hy141]; with_reducible exact H2_) | (have H2_ := (Option.bind_some _ _).symm.trans H; with_reducible exact H2_) | with_reducible exact H | (rw [hy141]; exact H) | exact H
                                        have Ny141 := Aside0.mk hy141
                                        clear hy141
                                        have H' := Aside0.mk H
                                        clear H
                                        have hcz46_0 : wr.cell? ⟨gb133, 0, none⟩ = some (.bool ((rd_T99 l1 x18_1).f0)) := (blk_cell BK133.out 0).trans rfl
                                        have hcz46_1 : wr.cell? ⟨gb133, 1, none⟩ = some (.bool ((rd_T99 l1 x18_1).f1)) := (blk_cell BK133.out 1).trans rfl
                                        have hcz46_2 : wr.cell? ⟨gb133, 2, none⟩ = some (.int .i64 ((rd_T99 l1 x18_1).f2)) := (blk_cell BK133.out 2).trans rfl
                                        have hfz46_0 := blk_frozen BK133.out 0
                                        have hfz46_1 := blk_frozen BK133.out 1
                                        have hfz46_2 := blk_frozen BK133.out 2
                                        obtain ⟨Ao47, co47, eo47⟩ := Kd.R_slice HO_5.out
                                        subst eo47
                                        have p137 : 0 ≤ (x9_2 : Int) := of_decide_eq_true (by first | (with_reducible assumption) | assumption)
                                        have q137 : x9_2 < (x5_1.length : Int) := of_decide_eq_true (by first | (with_reducible assumption) | assumption)
                                        obtain ⟨ad137, e137, hx137_0⟩ := Kd.at_bool (Kd.R_reads' HO_5.out).2.2 x9_2 p137 q137
                                        (try rw [← Nbq25.out] at hx137_0)
                                        cases e137
                                        replace p137 := eq_true p137
                                        replace q137 := eq_true q137
                                        have p45 : 0 ≤ (x9_2 : Int) := of_decide_eq_true (by first | (with_reducible assumption) | assumption)
                                        have q45 : (x9_2 : Int) < ((x8_2.length : Int) : Int) := of_decide_eq_true (by first | (with_reducible assumption) | assumption)
                                        obtain ⟨go45, co45, eo45, gb45, gl45, cl45, HG45⟩ := Kd.R_form HO_8.out (by omega)
                                        (first | cases eo45 | (injection eo45 with ea_ en_ ec_; (first | subst ea_ | (injection ea_ with ea_; subst ea_)); subst ec_; clear en_))
                                        have GB45 := Aside0.mk gb45
                                        have GG45 := Aside0.mk HG45
                                        clear gb45 gl45 HG45
                                        obtain ⟨hx45_0, hf45_0⟩ := Kd.R_celln false HO_8.out (x9_2 : Int) p45 q45
                                        replace p45 := eq_true p45
                                        replace q45 := eq_true q45
                                        have HP48 := Kd.R_putg HO_8.out (x9_2 : Int) false
                                        go_wp2_with (first | ((with_reducible refine gate_store (t := 4) (p := 52) rfl ?_); refine store_event (t := 4) (p := 52) (v := ?vo_w49) (w1 := (wr.setCell ⟨go45, (x9_2 : Int).toNat, none⟩ (.bool false))) ?hg ?ho ?hn ?hr ?_; (case ho => rfl); (case hg => rfl); (case hn => rfl); (case hr => first | (go_simp; done) | (go_simp; rfl)); intro w49 hw; have hg : wr.grownBy w49 (some go45) := (by rw [hw]; exact HP48.2); have hp_ : Kd.R Kd.bool 4 w49 w.heap.size (fun k_ => some k_ ≠ (.slice (some ad137) x5_1.length co47 : Value).ownBlock) (.slice (some ⟨go45, 0, none⟩) x8_2.length co45) y141 := (by rw [hw, Ny141.out]; exact HP48.1); clear HP48; have n0_ := Aside0.mk (Kd.R_after (v := (.slice (some ⟨go45, 0, none⟩) x8_2.length co45)) (v1 := (.slice (some ⟨go45, 0, none⟩) x8_2.length co45)) (ok := (fun _ => True)) (by (with_reducible repeat (first | apply Kd.R_alloc | apply Kd.R_drewN | apply Kd.R_drew)); exact Kd.R_mono HO_5.out (fun _ hk => ⟨trivial, hk⟩)) hg (.inl rfl)); have n1_ := Aside0.mk (hp_); have n2_ := Aside0.mk (blk_grown (g := gb133) (o := .cells #[.bool ((rd_T99 l1 x18_1).f0), .bool ((rd_T99 l1 x18_1).f1), .int .i64 ((rd_T99 l1 x18_1).f2)] 99 (0, 0)) (by (with_reducible repeat (first | refine blk_drewN ?_ _ | refine blk_drew ?_ | refine blk_alloc ?_ _)); exact BK133.out) hg (Kd.R_ne HO_8.out BK133.out (by decide))); have n3_ := Aside0.mk ((by rw [hw]; exact below_set (HB.out) GB45.out : Below w.heap.size w w49)); clear HO_5; clear HO_8; clear BK133; clear HB; have HO_5 := n0_; have HO_8 := n1_; have BK133 := n2_; have HB := n3_; clear n0_ n1_ n2_ n3_; clear hg hw hp_))
                                        go_roundg k2
                                        case measure => have := HK1.out; have := HK2.out; omega
                                        case rel => exact ⟨(y141), (wrap64 (x9_2 + 1)), (by first | rfl | (simp; done) | (simp [*]; done)), H', ⟨by have := HK1.out; have := HK2.out; omega⟩, ⟨by (with_reducible repeat (first | apply Kd.R_alloc | apply Kd.R_drewN | apply Kd.R_drew)); exact Kd.R_mono HO_5.out (fun _ hk => hk.2)⟩, ⟨by (with_reducible repeat (first | apply Kd.R_alloc | apply Kd.R_drewN | apply Kd.R_drew)); exact HO_8.out⟩, ⟨by (with_reducible repeat (first | refine blk_drewN ?_ _ | refine blk_drew ?_ | refine blk_alloc ?_ _)); exact BK133.out⟩, ⟨by repeat (first | (with_reducible first | exact HB.out | apply below_alloc | apply pw_below_drewN | apply below_drew1 | refine below_set ?_ GE133.out) | exact HB.out)⟩⟩
                                      · rw [if_neg c44] at H
                                        exact absurd H (by simp)
                                · rw [if_neg c24] at H
                                  exact absurd H (by simp)
                              · rw [if_neg c23] at H
                                exact absurd H (by simp)
                            · rw [if_neg c22] at H
                              have c22b0 : ((rd_T99 l1 x18_1).f0) = false := by simpa using c22
                              clear c22
                              by_cases c50 : x9_2 > 0
                              · rw [if_pos c50] at H
                                have c50b0 : decide (0 < x9_2) = true := decide_eq_true c50
                                clear c50
                                obtain ⟨ji51, hji51⟩ : ∃ j_ : Int, (wrap64 (x9_2 - 1)) = j_ := ⟨_, rfl⟩
                                replace H : (if 0 ≤ (ji51) then (if (ji51) < (x5_1.length : Int) then (if rdOf false x5_1 (ji51) = true then (if ((rd_T99 l1 x18_1).f1) = true then (if 0 ≤ x9_2 then (if x9_2 < (x8_2.length : Int) then (spec_Fits.l1 k2 l0 x5_1 (x8_2.set (x9_2 : Int).toNat true) (wrap64 (x9_2 + 1)) l1 (l1.length : Int) x18_1 ((rd_T99 l1 x18_1).f0) ((rd_T99 l1 x18_1).f1) ((rd_T99 l1 x18_1).f2)) else (none)) else (none)) else (if (ji51) < (l0.length : Int) then (if 0 ≤ x9_2 then (if x9_2 < (x8_2.length : Int) then (spec_Fits.l1 k2 l0 x5_1 (x8_2.set (x9_2 : Int).toNat (((rd_T99 l1 x18_1).f2) == (rd l0 (ji51)))) (wrap64 (x9_2 + 1)) l1 (l1.length : Int) x18_1 ((rd_T99 l1 x18_1).f0) ((rd_T99 l1 x18_1).f1) ((rd_T99 l1 x18_1).f2)) else (none)) else (none)) else (none))) else (spec_Fits.l1 k2 l0 x5_1 x8_2 (wrap64 (x9_2 + 1)) l1 (l1.length : Int) x18_1 ((rd_T99 l1 x18_1).f0) ((rd_T99 l1 x18_1).f1) ((rd_T99 l1 x18_1).f2))) else (none)) else (none)) = some r := by first | (rw [hji51] at H; exact H) | (simp only [hji51] at H ⊢; exact H)
                                have hji51w : (IntKind.i64.wrap (x9_2 - 1)) = ji51 := (i64_w _).trans hji51
                                by_cases c52 : 0 ≤ (ji51)
                                · rw [if_pos c52] at H
                                  have c52b0 : decide (0 ≤ (ji51)) = true := decide_eq_true c52
                                  clear c52
                                  by_cases c53 : (ji51) < (x5_1.length : Int)
                                  · rw [if_pos c53] at H
                                    have c53b0 : decide ((ji51) < (x5_1.length : Int)) = true := decide_eq_true c53
                                    clear c53
                                    obtain ⟨bq54, hbq54⟩ : ∃ b_ : Bool, b_ = (rdOf false x5_1 (ji51)) := ⟨_, rfl⟩
                                    replace H : (if bq54 = true then (if ((rd_T99 l1 x18_1).f1) = true then (if 0 ≤ x9_2 then (if x9_2 < (x8_2.length : Int) then (spec_Fits.l1 k2 l0 x5_1 (x8_2.set (x9_2 : Int).toNat true) (wrap64 (x9_2 + 1)) l1 (l1.length : Int) x18_1 ((rd_T99 l1 x18_1).f0) ((rd_T99 l1 x18_1).f1) ((rd_T99 l1 x18_1).f2)) else (none)) else (none)) else (if (ji51) < (l0.length : Int) then (if 0 ≤ x9_2 then (if x9_2 < (x8_2.length : Int) then (spec_Fits.l1 k2 l0 x5_1 (x8_2.set (x9_2 : Int).toNat (((rd_T99 l1 x18_1).f2) == (rd l0 (ji51)))) (wrap64 (x9_2 + 1)) l1 (l1.length : Int) x18_1 ((rd_T99 l1 x18_1).f0) ((rd_T99 l1 x18_1).f1) ((rd_T99 l1 x18_1).f2)) else (none)) else (none)) else (none))) else (spec_Fits.l1 k2 l0 x5_1 x8_2 (wrap64 (x9_2 + 1)) l1 (l1.length : Int) x18_1 ((rd_T99 l1 x18_1).f0) ((rd_T99 l1 x18_1).f1) ((rd_T99 l1 x18_1).f2))) = some r := by rw [← hbq54] at H; exact H
                                    have Nbq54 := Aside0.mk hbq54
                                    clear hbq54
                                    by_cases c55 : bq54 = true
                                    · subst c55
                                      have H1 : (if ((rd_T99 l1 x18_1).f1) = true then (if 0 ≤ x9_2 then (if x9_2 < (x8_2.length : Int) then (spec_Fits.l1 k2 l0 x5_1 (x8_2.set (x9_2 : Int).toNat true) (wrap64 (x9_2 + 1)) l1 (l1.length : Int) x18_1 ((rd_T99 l1 x18_1).f0) ((rd_T99 l1 x18_1).f1) ((rd_T99 l1 x18_1).f2)) else (none)) else (none)) else (if (ji51) < (l0.length : Int) then (if 0 ≤ x9_2 then (if x9_2 < (x8_2.length : Int) then (spec_Fits.l1 k2 l0 x5_1 (x8_2.set (x9_2 : Int).toNat (((rd_T99 l1 x18_1).f2) == (rd l0 (ji51)))) (wrap64 (x9_2 + 1)) l1 (l1.length : Int) x18_1 ((rd_T99 l1 x18_1).f0) ((rd_T99 l1 x18_1).f1) ((rd_T99 l1 x18_1).f2)) else (none)) else (none)) else (none))) = some r := by rw [if_pos rfl] at H; exact H
                                      clear H
                                      have H := H1
                                      clear H1
                                      by_cases c56 : ((rd_T99 l1 x18_1).f1) = true
                                      · rw [if_pos c56] at H
                                        have c56b0 : ((rd_T99 l1 x18_1).f1) = true := c56
                                        clear c56
                                        by_cases c57 : 0 ≤ x9_2
                                        · rw [if_pos c57] at H
                                          have c57b0 : decide (0 ≤ x9_2) = true := decide_eq_true c57
                                          clear c57
                                          by_cases c58 : x9_2 < (x8_2.length : Int)
                                          · rw [if_pos c58] at H
                                            have c58b0 : decide (x9_2 < (x8_2.length : Int)) = true := decide_eq_true c58
                                            clear c58
                                            obtain ⟨y143, hy143⟩ : ∃ y_ : List Bool, y_ = (x8_2.set (x9_2 : Int).toNat true) := ⟨_, rfl⟩
                                            replace H : (spec_Fits.l1 k2 l0 x5_1 y143 (wrap64 (x9_2 + 1)) l1 (l1.length : Int) x18_1 ((rd_T99 l1 x18_1).f0) ((rd_T99 l1 x18_1).f1) ((rd_T99 l1 x18_1).f2)) = some r := by first | (rw [hy143]; with_reducible exact H) | (have H2_ := (Option.bind_some _ _).symm.trans H; rw [hy143]; with_reducible exact H2_) | (have H2_ := (Option.bind_some _ _).symm.trans H; with_reducible exact H2_) | with_reducible exact H | (rw [hy143]; exact H) | exact H
                                            have Ny143 := Aside0.mk hy143
                                            clear hy143
                                            have H' := Aside0.mk H
                                            clear H
                                            have hcz60_0 : wr.cell? ⟨gb133, 0, none⟩ = some (.bool ((rd_T99 l1 x18_1).f0)) := (blk_cell BK133.out 0).trans rfl
                                            have hcz60_1 : wr.cell? ⟨gb133, 1, none⟩ = some (.bool ((rd_T99 l1 x18_1).f1)) := (blk_cell BK133.out 1).trans rfl
                                            have hcz60_2 : wr.cell? ⟨gb133, 2, none⟩ = some (.int .i64 ((rd_T99 l1 x18_1).f2)) := (blk_cell BK133.out 2).trans rfl
                                            have hfz60_0 := blk_frozen BK133.out 0
                                            have hfz60_1 := blk_frozen BK133.out 1
                                            have hfz60_2 := blk_frozen BK133.out 2
                                            obtain ⟨Ao61, co61, eo61⟩ := Kd.R_slice HO_5.out
                                            subst eo61
                                            have p142 : 0 ≤ ((ji51) : Int) := of_decide_eq_true (by first | (with_reducible assumption) | assumption)
                                            have q142 : (ji51) < (x5_1.length : Int) := of_decide_eq_true (by first | (with_reducible assumption) | assumption)
                                            obtain ⟨ad142, e142, hx142_0⟩ := Kd.at_bool (Kd.R_reads' HO_5.out).2.2 (ji51) p142 q142
                                            (try rw [← Nbq54.out] at hx142_0)
                                            cases e142
                                            replace p142 := eq_true p142
                                            replace q142 := eq_true q142
                                            try go_wp2
                                            have n0_ := Aside0.mk (Kd.R_drew HO_5.out)
                                            have n1_ := Aside0.mk (Kd.R_drew HO_8.out)
                                            have n2_ := Aside0.mk (blk_drew BK133.out)
                                            have n3_ := Aside0.mk (below_drew1 HB.out)
                                            clear HO_5
                                            clear HO_8
                                            clear BK133
                                            clear HB
                                            have HO_5 := n0_
                                            have HO_8 := n1_
                                            have BK133 := n2_
                                            have HB := n3_
                                            clear n0_ n1_ n2_ n3_
                                            have p59 : 0 ≤ (x9_2 : Int) := of_decide_eq_true (by first | (with_reducible assumption) | assumption)
                                            have q59 : (x9_2 : Int) < ((x8_2.length : Int) : Int) := of_decide_eq_true (by first | (with_reducible assumption) | assumption)
                                            obtain ⟨go59, co59, eo59, gb59, gl59, cl59, HG59⟩ := Kd.R_form HO_8.out (by omega)
                                            (first | cases eo59 | (injection eo59 with ea_ en_ ec_; (first | subst ea_ | (injection ea_ with ea_; subst ea_)); subst ec_; clear en_))
                                            have GB59 := Aside0.mk gb59
                                            have GG59 := Aside0.mk HG59
                                            clear gb59 gl59 HG59
                                            obtain ⟨hx59_0, hf59_0⟩ := Kd.R_celln false HO_8.out (x9_2 : Int) p59 q59
                                            replace p59 := eq_true p59
                                            replace q59 := eq_true q59
                                            have HP63 := Kd.R_putn HO_8.out (x9_2 : Int) true
                                            rw [← Ny143.out] at HP63
                                            have HQ63 := Aside0.mk HP63
                                            clear HP63
                                            refine start_ (n := 16) (S := fun w' => w'.cell? ⟨gb133, 0, none⟩ = some (.bool ((rd_T99 l1 x18_1).f0)) ∧ w'.cell? ⟨gb133, 1, none⟩ = some (.bool ((rd_T99 l1 x18_1).f1)) ∧ w'.cell? ⟨gb133, 2, none⟩ = some (.int .i64 ((rd_T99 l1 x18_1).f2))) (ds := [15]) #[false, false, false, false, false, false, false, false, false, false, false, false, false, false, false, false] (by kernel_rfl) rfl rfl ⟨(blk_cell BK133.out 0).trans rfl, (blk_cell BK133.out 1).trans rfl, (blk_cell BK133.out 2).trans rfl⟩ (fun hHeld => ?_); refine with_tabW spec_Fits.tab13 spec_Fits.bits13 (fun HT_ HW_ => ?_)
                                            generalize wr.drew = w62 at HO_5 HO_8 BK133 HB GG59 HQ63 hf59_0 hx59_0 hHeld ⊢
                                            refine pure_ (i := 0) (N := some 63) (v := ?_) (a' := ?_) #[true, false, false, false, false, false, false, false, false, false, false, false, false, false, false, false] rfl rfl (any_of HT_.out (by kernel_rfl)) (fun _ _ _ h => h) (Or.inl ⟨by rfl, ?_⟩) ?_ ?_
                                            rotate_left
                                            · intro w'
                                              go_simp
                                              with_reducible rfl
                                            rotate_left
                                            · simp only [Act.put, List.setIfInBounds_toArray, List.set_cons_zero, List.set_cons_succ, i64_w, i32_w]
                                              rfl
                                            refine pure_ (i := 1) (N := some 64) (v := ?_) (a' := ?_) #[true, true, false, false, false, false, false, false, false, false, false, false, false, false, false, false] rfl rfl (any_of HT_.out (by kernel_rfl)) (fun _ _ _ h => h) (Or.inl ⟨by rfl, ?_⟩) ?_ ?_
                                            rotate_left
                                            · intro w'
                                              go_simp
                                              with_reducible rfl
                                            rotate_left
                                            · simp only [Act.put, List.setIfInBounds_toArray, List.set_cons_zero, List.set_cons_succ, i64_w, i32_w]
                                              rfl
                                            refine pure_ (i := 2) (N := some 65) (v := ?_) (a' := ?_) #[true, true, true, false, false, false, false, false, false, false, false, false, false, false, false, false] rfl rfl (any_of HT_.out (by kernel_rfl)) (fun _ _ _ h => h) (Or.inl ⟨by rfl, ?_⟩) ?_ ?_
                                            rotate_left
                                            · intro w'
                                              go_simp
                                              with_reducible rfl
                                            rotate_left
                                            · simp only [Act.put, List.setIfInBounds_toArray, List.set_cons_zero, List.set_cons_succ, i64_w, i32_w]
                                              rfl
                                            refine take_ (i := 3) (N := some 66) (v := ?_) (a' := ?_) #[true, true, true, true, false, false, false, false, false, false, false, false, false, false, false, false] rfl rfl (take_ofW HT_.out HW_.out (by kernel_rfl)) (fun _ _ _ h => h) (Or.inl ⟨by rfl, ?_⟩) hHeld ?_ ?_
                                            rotate_left
                                            · rintro w' ⟨s0, s1, s2⟩
                                              go_simp
                                              with_reducible rfl
                                            rotate_left
                                            · simp only [Act.put, List.setIfInBounds_toArray, List.set_cons_zero, List.set_cons_succ, i64_w, i32_w]
                                              rfl
                                            refine pure_ (i := 4) (N := some 67) (v := ?_) (a' := ?_) #[true, true, true, true, true, false, false, false, false, false, false, false, false, false, false, false] rfl rfl (any_of HT_.out (by kernel_rfl)) (fun _ _ _ h => h) (Or.inl ⟨by rfl, ?_⟩) ?_ ?_
                                            rotate_left
                                            · intro w'
                                              go_simp
                                              with_reducible rfl
                                            rotate_left
                                            · simp only [Act.put, List.setIfInBounds_toArray, List.set_cons_zero, List.set_cons_succ, i64_w, i32_w]
                                              rfl
                                            refine pure_ (i := 5) (N := some 68) (v := undef) (a' := ?_) #[true, true, true, true, true, true, false, false, false, false, false, false, false, false, false, false] rfl rfl (any_of HT_.out (by kernel_rfl)) (fun _ _ _ h => h) (Or.inr ⟨by rfl, rfl⟩) ?_ ?_
                                            rotate_left
                                            · simp only [Act.put, List.setIfInBounds_toArray, List.set_cons_zero, List.set_cons_succ, i64_w, i32_w]
                                              rfl
                                            refine pure_ (i := 6) (N := some 69) (v := undef) (a' := ?_) #[true, true, true, true, true, true, true, false, false, false, false, false, false, false, false, false] rfl rfl (any_of HT_.out (by kernel_rfl)) (fun _ _ _ h => h) (Or.inr ⟨by rfl, rfl⟩) ?_ ?_
                                            rotate_left
                                            · simp only [Act.put, List.setIfInBounds_toArray, List.set_cons_zero, List.set_cons_succ, i64_w, i32_w]
                                              rfl
                                            refine pure_ (i := 7) (N := some 70) (v := undef) (a' := ?_) #[true, true, true, true, true, true, true, true, false, false, false, false, false, false, false, false] rfl rfl (any_of HT_.out (by kernel_rfl)) (fun _ _ _ h => h) (Or.inr ⟨by rfl, rfl⟩) ?_ ?_
                                            rotate_left
                                            · simp only [Act.put, List.setIfInBounds_toArray, List.set_cons_zero, List.set_cons_succ, i64_w, i32_w]
                                              rfl
                                            refine pure_ (i := 8) (N := some 71) (v := undef) (a' := ?_) #[true, true, true, true, true, true, true, true, true, false, false, false, false, false, false, false] rfl rfl (any_of HT_.out (by kernel_rfl)) (fun _ _ _ h => h) (Or.inr ⟨by rfl, rfl⟩) ?_ ?_
                                            rotate_left
                                            · simp only [Act.put, List.setIfInBounds_toArray, List.set_cons_zero, List.set_cons_succ, i64_w, i32_w]
                                              rfl
                                            refine pure_ (i := 9) (N := some 72) (v := undef) (a' := ?_) #[true, true, true, true, true, true, true, true, true, true, false, false, false, false, false, false] rfl rfl (any_of HT_.out (by kernel_rfl)) (fun _ _ _ h => h) (Or.inr ⟨by rfl, rfl⟩) ?_ ?_
                                            rotate_left
                                            · simp only [Act.put, List.setIfInBounds_toArray, List.set_cons_zero, List.set_cons_succ, i64_w, i32_w]
                                              rfl
                                            refine pure_ (i := 10) (N := some 73) (v := undef) (a' := ?_) #[true, true, true, true, true, true, true, true, true, true, true, false, false, false, false, false] rfl rfl (any_of HT_.out (by kernel_rfl)) (fun _ _ _ h => h) (Or.inr ⟨by rfl, rfl⟩) ?_ ?_
                                            rotate_left
                                            · simp only [Act.put, List.setIfInBounds_toArray, List.set_cons_zero, List.set_cons_succ, i64_w, i32_w]
                                              rfl
                                            refine pure_ (i := 11) (N := some 74) (v := undef) (a' := ?_) #[true, true, true, true, true, true, true, true, true, true, true, true, false, false, false, false] rfl rfl (any_of HT_.out (by kernel_rfl)) (fun _ _ _ h => h) (Or.inr ⟨by rfl, rfl⟩) ?_ ?_
                                            rotate_left
                                            · simp only [Act.put, List.setIfInBounds_toArray, List.set_cons_zero, List.set_cons_succ, i64_w, i32_w]
                                              rfl
                                            refine pure_ (i := 12) (N := some 75) (v := undef) (a' := ?_) #[true, true, true, true, true, true, true, true, true, true, true, true, true, false, false, false] rfl rfl (any_of HT_.out (by kernel_rfl)) (fun _ _ _ h => h) (Or.inr ⟨by rfl, rfl⟩) ?_ ?_
                                            rotate_left
                                            · simp only [Act.put, List.setIfInBounds_toArray, List.set_cons_zero, List.set_cons_succ, i64_w, i32_w]
                                              rfl
                                            refine pure_ (i := 13) (N := some 76) (v := ?_) (a' := ?_) #[true, true, true, true, true, true, true, true, true, true, true, true, true, true, false, false] rfl rfl (any_of HT_.out (by kernel_rfl)) (fun _ _ _ h => h) (Or.inl ⟨by rfl, ?_⟩) ?_ ?_
                                            rotate_left
                                            · intro w'
                                              go_simp
                                              with_reducible rfl
                                            rotate_left
                                            · simp only [Act.put, List.setIfInBounds_toArray, List.set_cons_zero, List.set_cons_succ, i64_w, i32_w]
                                              rfl
                                            refine pure_ (i := 14) (N := some 77) (v := ?_) (a' := ?_) #[true, true, true, true, true, true, true, true, true, true, true, true, true, true, true, false] rfl rfl (any_of HT_.out (by kernel_rfl)) (fun _ _ _ h => h) (Or.inl ⟨by rfl, ?_⟩) ?_ ?_
                                            rotate_left
                                            · intro w'
                                              go_simp
                                              with_reducible rfl
                                            rotate_left
                                            · simp only [Act.put, List.setIfInBounds_toArray, List.set_cons_zero, List.set_cons_succ, i64_w, i32_w]
                                              rfl
                                            refine last_ (i := 15) (N := none) #[true, true, true, true, true, true, true, true, true, true, true, true, true, true, true, true] rfl rfl (one_of HT_.out (by kernel_rfl)) (by decide) (fun K hK => ?_)
                                            refine skip_ (w1 := ?_) (by rfl) rfl ?_ ?_
                                            rotate_left
                                            · go_simp
                                              rfl
                                            refine hK.out _ _ ?_
                                            clear hK K
                                            refine done_ (done_of HT_.out (by kernel_rfl)) ?_
                                            try go_wp2
                                            go_roundg k2
                                            case measure => have := HK1.out; have := HK2.out; omega
                                            case rel => exact ⟨(y143), (wrap64 (x9_2 + 1)), (by first | rfl | (simp; done) | (simp [*]; done)), H', ⟨by have := HK1.out; have := HK2.out; omega⟩, ⟨by (with_reducible repeat (first | apply Kd.R_alloc | apply Kd.R_drewN | apply Kd.R_drew)); exact Kd.R_mono (Kd.R_far (p := ⟨go59, (x9_2 : Int).toNat, none⟩) (Kd.R_mono HO_5.out (fun k_ hk => (⟨hk, fun e_ => hk (by rw [e_]; rfl)⟩ : _ ∧ k_ ≠ go59))) (fun _ hk => hk.2) (.bool true)) (fun _ hk => hk.1)⟩, ⟨by (with_reducible repeat (first | apply Kd.R_alloc | apply Kd.R_drewN | apply Kd.R_drew)); exact HQ63.out⟩, ⟨by (with_reducible repeat (first | refine blk_drewN ?_ _ | refine blk_drew ?_ | refine blk_alloc ?_ _)); refine blk_far ?_ (by have h_ := Kd.R_ne HO_8.out BK133.out (by decide); intro e_; exact h_ (by rw [e_]; rfl)) _; (with_reducible repeat (first | refine blk_drewN ?_ _ | refine blk_drew ?_ | refine blk_alloc ?_ _)); exact BK133.out⟩, ⟨by repeat (first | (with_reducible first | exact HB.out | apply below_alloc | apply pw_below_drewN | apply below_drew1 | refine below_set ?_ GB59.out | refine below_set ?_ GE133.out) | exact HB.out)⟩⟩
                                          · rw [if_neg c58] at H
                                            exact absurd H (by simp)
                                        · rw [if_neg c57] at H
                                          exact absurd H (by simp)
                                      · rw [if_neg c56] at H
                                        have c56b0 : ((rd_T99 l1 x18_1).f1) = false := by simpa using c56
                                        clear c56
                                        by_cases c64 : (ji51) < (l0.length : Int)
                                        · rw [if_pos c64] at H
                                          have c64b0 : decide ((ji51) < (l0.length : Int)) = true := decide_eq_true c64
                                          clear c64
                                          by_cases c65 : 0 ≤ x9_2
                                          · rw [if_pos c65] at H
                                            have c65b0 : decide (0 ≤ x9_2) = true := decide_eq_true c65
                                            clear c65
                                            by_cases c66 : x9_2 < (x8_2.length : Int)
                                            · rw [if_pos c66] at H
                                              have c66b0 : decide (x9_2 < (x8_2.length : Int)) = true := decide_eq_true c66
                                              clear c66
                                              obtain ⟨y145, hy145⟩ : ∃ y_ : List Bool, y_ = (x8_2.set (x9_2 : Int).toNat (((rd_T99 l1 x18_1).f2) == (rd l0 (ji51)))) := ⟨_, rfl⟩
                                              replace H : (spec_Fits.l1 k2 l0 x5_1 y145 (wrap64 (x9_2 + 1)) l1 (l1.length : Int) x18_1 ((rd_T99 l1 x18_1).f0) ((rd_T99 l1 x18_1).f1) ((rd_T99 l1 x18_1).f2)) = some r := by first | (rw [hy145]; with_reducible exact H) | (have H2_ := (Option.bind_some _ _).symm.trans H; rw [hy145]; with_reducible exact H2_) | (have H2_ := (Option.bind_some _ _).symm.trans H; with_reducible exact H2_) | with_reducible exact H | (rw [hy145]; exact H) | exact H
                                              have Ny145 := Aside0.mk hy145
                                              clear hy145
                                              have H' := Aside0.mk H
                                              clear H
                                              have hcz68_0 : wr.cell? ⟨gb133, 0, none⟩ = some (.bool ((rd_T99 l1 x18_1).f0)) := (blk_cell BK133.out 0).trans rfl
                                              have hcz68_1 : wr.cell? ⟨gb133, 1, none⟩ = some (.bool ((rd_T99 l1 x18_1).f1)) := (blk_cell BK133.out 1).trans rfl
                                              have hcz68_2 : wr.cell? ⟨gb133, 2, none⟩ = some (.int .i64 ((rd_T99 l1 x18_1).f2)) := (blk_cell BK133.out 2).trans rfl
                                              have hfz68_0 := blk_frozen BK133.out 0
                                              have hfz68_1 := blk_frozen BK133.out 1
                                              have hfz68_2 := blk_frozen BK133.out 2
                                              obtain ⟨Ao69, co69, eo69⟩ := Kd.R_slice HO_5.out
                                              subst eo69
                                              have p142 : 0 ≤ ((ji51) : Int) := of_decide_eq_true (by first | (with_reducible assumption) | assumption)
                                              have q142 : (ji51) < (x5_1.length : Int) := of_decide_eq_true (by first | (with_reducible assumption) | assumption)
                                              obtain ⟨ad142, e142, hx142_0⟩ := Kd.at_bool (Kd.R_reads' HO_5.out).2.2 (ji51) p142 q142
                                              (try rw [← Nbq54.out] at hx142_0)
                                              cases e142
                                              replace p142 := eq_true p142
                                              replace q142 := eq_true q142
                                              try go_wp2
                                              have n0_ := Aside0.mk (Kd.R_drew HO_5.out)
                                              have n1_ := Aside0.mk (Kd.R_drew HO_8.out)
                                              have n2_ := Aside0.mk (blk_drew BK133.out)
                                              have n3_ := Aside0.mk (below_drew1 HB.out)
                                              clear HO_5
                                              clear HO_8
                                              clear BK133
                                              clear HB
                                              have HO_5 := n0_
                                              have HO_8 := n1_
                                              have BK133 := n2_
                                              have HB := n3_
                                              clear n0_ n1_ n2_ n3_
                                              have p144 : 0 ≤ ((ji51) : Int) := of_decide_eq_true (by first | (with_reducible assumption) | assumption)
                                              have q144 : (ji51) < (l0.length : Int) := of_decide_eq_true (by first | (with_reducible assumption) | assumption)
                                              obtain ⟨ad144, e144, hx144_0⟩ := Kd.at_int HR0.out (ji51) p144 q144
                                              have hw144_0 := hx144_0
                                              cases e144
                                              replace hx144_0 := (HB.out.cell (World.block_lt_of_cell? w _ hx144_0)).trans hx144_0
                                              replace p144 := eq_true p144
                                              replace q144 := eq_true q144
                                              have p67 : 0 ≤ (x9_2 : Int) := of_decide_eq_true (by first | (with_reducible assumption) | assumption)
                                              have q67 : (x9_2 : Int) < ((x8_2.length : Int) : Int) := of_decide_eq_true (by first | (with_reducible assumption) | assumption)
                                              obtain ⟨go67, co67, eo67, gb67, gl67, cl67, HG67⟩ := Kd.R_form HO_8.out (by omega)
                                              (first | cases eo67 | (injection eo67 with ea_ en_ ec_; (first | subst ea_ | (injection ea_ with ea_; subst ea_)); subst ec_; clear en_))
                                              have GB67 := Aside0.mk gb67
                                              have GG67 := Aside0.mk HG67
                                              clear gb67 gl67 HG67
                                              obtain ⟨hx67_0, hf67_0⟩ := Kd.R_celln false HO_8.out (x9_2 : Int) p67 q67
                                              replace p67 := eq_true p67
                                              replace q67 := eq_true q67
                                              have HP71 := Kd.R_putn HO_8.out (x9_2 : Int) (((rd_T99 l1 x18_1).f2) == (rd l0 (ji51)))
                                              rw [← Ny145.out] at HP71
                                              have HQ71 := Aside0.mk HP71
                                              clear HP71
                                              refine start_ (n := 16) (S := fun w' => w'.cell? ⟨gb133, 0, none⟩ = some (.bool ((rd_T99 l1 x18_1).f0)) ∧ w'.cell? ⟨gb133, 1, none⟩ = some (.bool ((rd_T99 l1 x18_1).f1)) ∧ w'.cell? ⟨gb133, 2, none⟩ = some (.int .i64 ((rd_T99 l1 x18_1).f2)) ∧ w'.cell? (ad144.add ((ji51)).toNat) = some (.int .i64 (rd l0 (ji51)))) (ds := [15]) #[false, false, false, false, false, false, false, false, false, false, false, false, false, false, false, false] (by kernel_rfl) rfl rfl ⟨(blk_cell BK133.out 0).trans rfl, (blk_cell BK133.out 1).trans rfl, (blk_cell BK133.out 2).trans rfl, ((HB.out.cell (World.block_lt_of_cell? w _ hw144_0)).trans hw144_0)⟩ (fun hHeld => ?_); refine with_tabW spec_Fits.tab13 spec_Fits.bits13 (fun HT_ HW_ => ?_)
                                              generalize wr.drew = w70 at HO_5 HO_8 BK133 HB GG67 HQ71 hf67_0 hx144_0 hx67_0 hHeld ⊢
                                              refine pure_ (i := 0) (N := some 63) (v := ?_) (a' := ?_) #[true, false, false, false, false, false, false, false, false, false, false, false, false, false, false, false] rfl rfl (any_of HT_.out (by kernel_rfl)) (fun _ _ _ h => h) (Or.inl ⟨by rfl, ?_⟩) ?_ ?_
                                              rotate_left
                                              · intro w'
                                                go_simp
                                                with_reducible rfl
                                              rotate_left
                                              · simp only [Act.put, List.setIfInBounds_toArray, List.set_cons_zero, List.set_cons_succ, i64_w, i32_w]
                                                rfl
                                              refine pure_ (i := 1) (N := some 64) (v := ?_) (a' := ?_) #[true, true, false, false, false, false, false, false, false, false, false, false, false, false, false, false] rfl rfl (any_of HT_.out (by kernel_rfl)) (fun _ _ _ h => h) (Or.inl ⟨by rfl, ?_⟩) ?_ ?_
                                              rotate_left
                                              · intro w'
                                                go_simp
                                                with_reducible rfl
                                              rotate_left
                                              · simp only [Act.put, List.setIfInBounds_toArray, List.set_cons_zero, List.set_cons_succ, i64_w, i32_w]
                                                rfl
                                              refine pure_ (i := 2) (N := some 65) (v := ?_) (a' := ?_) #[true, true, true, false, false, false, false, false, false, false, false, false, false, false, false, false] rfl rfl (any_of HT_.out (by kernel_rfl)) (fun _ _ _ h => h) (Or.inl ⟨by rfl, ?_⟩) ?_ ?_
                                              rotate_left
                                              · intro w'
                                                go_simp
                                                with_reducible rfl
                                              rotate_left
                                              · simp only [Act.put, List.setIfInBounds_toArray, List.set_cons_zero, List.set_cons_succ, i64_w, i32_w]
                                                rfl
                                              refine take_ (i := 3) (N := some 66) (v := ?_) (a' := ?_) #[true, true, true, true, false, false, false, false, false, false, false, false, false, false, false, false] rfl rfl (take_ofW HT_.out HW_.out (by kernel_rfl)) (fun _ _ _ h => h) (Or.inl ⟨by rfl, ?_⟩) hHeld ?_ ?_
                                              rotate_left
                                              · rintro w' ⟨s0, s1, s2, s3⟩
                                                go_simp
                                                with_reducible rfl
                                              rotate_left
                                              · simp only [Act.put, List.setIfInBounds_toArray, List.set_cons_zero, List.set_cons_succ, i64_w, i32_w]
                                                rfl
                                              refine pure_ (i := 4) (N := some 67) (v := ?_) (a' := ?_) #[true, true, true, true, true, false, false, false, false, false, false, false, false, false, false, false] rfl rfl (any_of HT_.out (by kernel_rfl)) (fun _ _ _ h => h) (Or.inl ⟨by rfl, ?_⟩) ?_ ?_
                                              rotate_left
                                              · intro w'
                                                go_simp
                                                with_reducible rfl
                                              rotate_left
                                              · simp only [Act.put, List.setIfInBounds_toArray, List.set_cons_zero, List.set_cons_succ, i64_w, i32_w]
                                                rfl
                                              refine pure_ (i := 5) (N := some 68) (v := ?_) (a' := ?_) #[true, true, true, true, true, true, false, false, false, false, false, false, false, false, false, false] rfl rfl (any_of HT_.out (by kernel_rfl)) (fun _ _ _ h => h) (Or.inl ⟨by rfl, ?_⟩) ?_ ?_
                                              rotate_left
                                              · intro w'
                                                go_simp
                                                with_reducible rfl
                                              rotate_left
                                              · simp only [Act.put, List.setIfInBounds_toArray, List.set_cons_zero, List.set_cons_succ, i64_w, i32_w]
                                                rfl
                                              refine pure_ (i := 7) (N := some 70) (v := ?_) (a' := ?_) #[true, true, true, true, true, true, false, true, false, false, false, false, false, false, false, false] rfl rfl (any_of HT_.out (by kernel_rfl)) (fun _ _ _ h => h) (Or.inl ⟨by rfl, ?_⟩) ?_ ?_
                                              rotate_left
                                              · intro w'
                                                go_simp
                                                with_reducible rfl
                                              rotate_left
                                              · simp only [Act.put, List.setIfInBounds_toArray, List.set_cons_zero, List.set_cons_succ, i64_w, i32_w]
                                                rfl
                                              refine pure_ (i := 8) (N := some 71) (v := ?_) (a' := ?_) #[true, true, true, true, true, true, false, true, true, false, false, false, false, false, false, false] rfl rfl (any_of HT_.out (by kernel_rfl)) (fun _ _ _ h => h) (Or.inl ⟨by rfl, ?_⟩) ?_ ?_
                                              rotate_left
                                              · intro w'
                                                go_simp
                                                with_reducible rfl
                                              rotate_left
                                              · simp only [Act.put, List.setIfInBounds_toArray, List.set_cons_zero, List.set_cons_succ, i64_w, i32_w]
                                                rfl
                                              refine pure_ (i := 9) (N := some 72) (v := ?_) (a' := ?_) #[true, true, true, true, true, true, false, true, true, true, false, false, false, false, false, false] rfl rfl (any_of HT_.out (by kernel_rfl)) (fun _ _ _ h => h) (Or.inl ⟨by rfl, ?_⟩) ?_ ?_
                                              rotate_left
                                              · intro w'
                                                go_simp
                                                with_reducible rfl
                                              rotate_left
                                              · simp only [Act.put, List.setIfInBounds_toArray, List.set_cons_zero, List.set_cons_succ, i64_w, i32_w]
                                                rfl
                                              refine pure_ (i := 10) (N := some 73) (v := ?_) (a' := ?_) #[true, true, true, true, true, true, false, true, true, true, true, false, false, false, false, false] rfl rfl (any_of HT_.out (by kernel_rfl)) (fun _ _ _ h => h) (Or.inl ⟨by rfl, ?_⟩) ?_ ?_
                                              rotate_left
                                              · intro w'
                                                go_simp
                                                with_reducible rfl
                                              rotate_left
                                              · simp only [Act.put, List.setIfInBounds_toArray, List.set_cons_zero, List.set_cons_succ, i64_w, i32_w]
                                                rfl
                                              refine take_ (i := 6) (N := some 69) (v := ?_) (a' := ?_) #[true, true, true, true, true, true, true, true, true, true, true, false, false, false, false, false] rfl rfl (take_ofW HT_.out HW_.out (by kernel_rfl)) (fun _ _ _ h => h) (Or.inl ⟨by rfl, ?_⟩) hHeld ?_ ?_
                                              rotate_left
                                              · rintro w' ⟨s0, s1, s2, s3⟩
                                                go_simp
                                                with_reducible rfl
                                              rotate_left
                                              · simp only [Act.put, List.setIfInBounds_toArray, List.set_cons_zero, List.set_cons_succ, i64_w, i32_w]
                                                rfl
                                              refine take_ (i := 11) (N := some 74) (v := ?_) (a' := ?_) #[true, true, true, true, true, true, true, true, true, true, true, true, false, false, false, false] rfl rfl (take_ofW HT_.out HW_.out (by kernel_rfl)) (fun _ _ _ h => h) (Or.inl ⟨by rfl, ?_⟩) hHeld ?_ ?_
                                              rotate_left
                                              · rintro w' ⟨s0, s1, s2, s3⟩
                                                go_simp
                                                with_reducible rfl
                                              rotate_left
                                              · simp only [Act.put, List.setIfInBounds_toArray, List.set_cons_zero, List.set_cons_succ, i64_w, i32_w]
                                                rfl
                                              refine pure_ (i := 12) (N := some 75) (v := ?_) (a' := ?_) #[true, true, true, true, true, true, true, true, true, true, true, true, true, false, false, false] rfl rfl (any_of HT_.out (by kernel_rfl)) (fun _ _ _ h => h) (Or.inl ⟨by rfl, ?_⟩) ?_ ?_
                                              rotate_left
                                              · intro w'
                                                go_simp
                                                with_reducible rfl
                                              rotate_left
                                              · simp only [Act.put, List.setIfInBounds_toArray, List.set_cons_zero, List.set_cons_succ, i64_w, i32_w]
                                                rfl
                                              refine pure_ (i := 13) (N := some 76) (v := ?_) (a' := ?_) #[true, true, true, true, true, true, true, true, true, true, true, true, true, true, false, false] rfl rfl (any_of HT_.out (by kernel_rfl)) (fun _ _ _ h => h) (Or.inl ⟨by rfl, ?_⟩) ?_ ?_
                                              rotate_left
                                              · intro w'
                                                go_simp
                                                with_reducible rfl
                                              rotate_left
                                              · simp only [Act.put, List.setIfInBounds_toArray, List.set_cons_zero, List.set_cons_succ, i64_w, i32_w]
                                                rfl
                                              refine pure_ (i := 14) (N := some 77) (v := ?_) (a' := ?_) #[true, true, true, true, true, true, true, true, true, true, true, true, true, true, true, false] rfl rfl (any_of HT_.out (by kernel_rfl)) (fun _ _ _ h => h) (Or.inl ⟨by rfl, ?_⟩) ?_ ?_
                                              rotate_left
                                              · intro w'
                                                go_simp
                                                with_reducible rfl
                                              rotate_left
                                              · simp only [Act.put, List.setIfInBounds_toArray, List.set_cons_zero, List.set_cons_succ, i64_w, i32_w]
                                                rfl
                                              refine last_ (i := 15) (N := none) #[true, true, true, true, true, true, true, true, true, true, true, true, true, true, true, true] rfl rfl (one_of HT_.out (by kernel_rfl)) (by decide) (fun K hK => ?_)
                                              refine skip_ (w1 := ?_) (by rfl) rfl ?_ ?_
                                              rotate_left
                                              · go_simp
                                                rfl
                                              refine hK.out _ _ ?_
                                              clear hK K
                                              refine done_ (done_of HT_.out (by kernel_rfl)) ?_
                                              try go_wp2
                                              go_roundg k2
                                              case measure => have := HK1.out; have := HK2.out; omega
                                              case rel => exact ⟨(y145), (wrap64 (x9_2 + 1)), (by first | rfl | (simp; done) | (simp [*]; done)), H', ⟨by have := HK1.out; have := HK2.out; omega⟩, ⟨by (with_reducible repeat (first | apply Kd.R_alloc | apply Kd.R_drewN | apply Kd.R_drew)); exact Kd.R_mono (Kd.R_far (p := ⟨go67, (x9_2 : Int).toNat, none⟩) (Kd.R_mono HO_5.out (fun k_ hk => (⟨hk, fun e_ => hk (by rw [e_]; rfl)⟩ : _ ∧ k_ ≠ go67))) (fun _ hk => hk.2) (.bool (((rd_T99 l1 x18_1).f2) == (rd l0 (ji51))))) (fun _ hk => hk.1)⟩, ⟨by (with_reducible repeat (first | apply Kd.R_alloc | apply Kd.R_drewN | apply Kd.R_drew)); exact HQ71.out⟩, ⟨by (with_reducible repeat (first | refine blk_drewN ?_ _ | refine blk_drew ?_ | refine blk_alloc ?_ _)); refine blk_far ?_ (by have h_ := Kd.R_ne HO_8.out BK133.out (by decide); intro e_; exact h_ (by rw [e_]; rfl)) _; (with_reducible repeat (first | refine blk_drewN ?_ _ | refine blk_drew ?_ | refine blk_alloc ?_ _)); exact BK133.out⟩, ⟨by repeat (first | (with_reducible first | exact HB.out | apply below_alloc | apply pw_below_drewN | apply below_drew1 | refine below_set ?_ GB67.out | refine below_set ?_ GE133.out) | exact HB.out)⟩⟩
                                            · rw [if_neg c66] at H
                                              exact absurd H (by simp)
                                          · rw [if_neg c65] at H
                                            exact absurd H (by simp)
                                        · rw [if_neg c64] at H
                                          exact absurd H (by simp)
                                    · replace c55 := Bool.eq_false_iff.mpr c55
                                      subst c55
                                      have H1 : (spec_Fits.l1 k2 l0 x5_1 x8_2 (wrap64 (x9_2 + 1)) l1 (l1.length : Int) x18_1 ((rd_T99 l1 x18_1).f0) ((rd_T99 l1 x18_1).f1) ((rd_T99 l1 x18_1).f2)) = some r := by rw [if_neg (show ¬ (false = true) by decide)] at H; exact H
                                      clear H
                                      have H := H1
                                      clear H1
                                      have H' := Aside0.mk H
                                      clear H
                                      have hcz72_0 : wr.cell? ⟨gb133, 0, none⟩ = some (.bool ((rd_T99 l1 x18_1).f0)) := (blk_cell BK133.out 0).trans rfl
                                      have hcz72_1 : wr.cell? ⟨gb133, 1, none⟩ = some (.bool ((rd_T99 l1 x18_1).f1)) := (blk_cell BK133.out 1).trans rfl
                                      have hcz72_2 : wr.cell? ⟨gb133, 2, none⟩ = some (.int .i64 ((rd_T99 l1 x18_1).f2)) := (blk_cell BK133.out 2).trans rfl
                                      have hfz72_0 := blk_frozen BK133.out 0
                                      have hfz72_1 := blk_frozen BK133.out 1
                                      have hfz72_2 := blk_frozen BK133.out 2
                                      obtain ⟨Ao73, co73, eo73⟩ := Kd.R_slice HO_5.out
                                      subst eo73
                                      have p142 : 0 ≤ ((ji51) : Int) := of_decide_eq_true (by first | (with_reducible assumption) | assumption)
                                      have q142 : (ji51) < (x5_1.length : Int) := of_decide_eq_true (by first | (with_reducible assumption) | assumption)
                                      obtain ⟨ad142, e142, hx142_0⟩ := Kd.at_bool (Kd.R_reads' HO_5.out).2.2 (ji51) p142 q142
                                      (try rw [← Nbq54.out] at hx142_0)
                                      cases e142
                                      replace p142 := eq_true p142
                                      replace q142 := eq_true q142
                                      go_wp2
                                      go_roundg k2
                                      case measure => have := HK1.out; have := HK2.out; omega
                                      case rel => exact ⟨(x8_2), (wrap64 (x9_2 + 1)), (by first | rfl | (simp; done) | (simp [*]; done)), H', ⟨by have := HK1.out; have := HK2.out; omega⟩, ⟨by (with_reducible repeat (first | apply Kd.R_alloc | apply Kd.R_drewN | apply Kd.R_drew)); exact HO_5.out⟩, ⟨by (with_reducible repeat (first | apply Kd.R_alloc | apply Kd.R_drewN | apply Kd.R_drew)); exact HO_8.out⟩, ⟨by (with_reducible repeat (first | refine blk_drewN ?_ _ | refine blk_drew ?_ | refine blk_alloc ?_ _)); exact BK133.out⟩, ⟨by repeat (first | (with_reducible first | exact HB.out | apply below_alloc | apply pw_below_drewN | apply below_drew1 | refine below_set ?_ GE133.out) | exact HB.out)⟩⟩
                                  · rw [if_neg c53] at H
                                    exact absurd H (by simp)
                                · rw [if_neg c52] at H
                                  exact absurd H (by simp)
                              · rw [if_neg c50] at H
                                have c50b0 : decide (0 < x9_2) = false := decide_eq_false c50
                                clear c50
                                have H' := Aside0.mk H
                                clear H
                                have hcz74_0 : wr.cell? ⟨gb133, 0, none⟩ = some (.bool ((rd_T99 l1 x18_1).f0)) := (blk_cell BK133.out 0).trans rfl
                                have hcz74_1 : wr.cell? ⟨gb133, 1, none⟩ = some (.bool ((rd_T99 l1 x18_1).f1)) := (blk_cell BK133.out 1).trans rfl
                                have hcz74_2 : wr.cell? ⟨gb133, 2, none⟩ = some (.int .i64 ((rd_T99 l1 x18_1).f2)) := (blk_cell BK133.out 2).trans rfl
                                have hfz74_0 := blk_frozen BK133.out 0
                                have hfz74_1 := blk_frozen BK133.out 1
                                have hfz74_2 := blk_frozen BK133.out 2
                                go_wp2
                                go_roundg k2
                                case measure => have := HK1.out; have := HK2.out; omega
                                case rel => exact ⟨(x8_2), (wrap64 (x9_2 + 1)), (by first | rfl | (simp; done) | (simp [*]; done)), H', ⟨by have := HK1.out; have := HK2.out; omega⟩, ⟨by (with_reducible repeat (first | apply Kd.R_alloc | apply Kd.R_drewN | apply Kd.R_drew)); exact HO_5.out⟩, ⟨by (with_reducible repeat (first | apply Kd.R_alloc | apply Kd.R_drewN | apply Kd.R_drew)); exact HO_8.out⟩, ⟨by (with_reducible repeat (first | refine blk_drewN ?_ _ | refine blk_drew ?_ | refine blk_alloc ?_ _)); exact BK133.out⟩, ⟨by repeat (first | (with_reducible first | exact HB.out | apply below_alloc | apply pw_below_drewN | apply below_drew1 | refine below_set ?_ GE133.out) | exact HB.out)⟩⟩
                          · rw [if_neg c21] at H
                            have c21b0 : decide (x9_2 ≤ (l0.length : Int)) = false := decide_eq_false c21
                            clear c21
                            have H' := Aside0.mk H
                            clear H
                            go_wp2
                            go_roundg k2
                            case measure => have := HK1.out; have := HK2.out; omega
                            case rel => exact ⟨(x8_2), (wrap64 (x18_1 + 1)), (by first | rfl | (simp; done) | (simp [*]; done)), H', ⟨by have := HK1.out; have := HK2.out; omega⟩, ⟨by (with_reducible repeat (first | apply Kd.R_alloc | apply Kd.R_drewN | apply Kd.R_drew)); exact Kd.R_mono HO_8.out (fun _ hk => trivial)⟩, ⟨by repeat (first | (with_reducible first | exact HB.out | apply below_alloc | apply pw_below_drewN | apply below_drew1 | refine below_set ?_ GE133.out) | exact HB.out)⟩⟩
                    · rw [if_neg c16] at H
                      exact absurd H (by simp)
                  · rw [if_neg c15] at H
                    exact absurd H (by simp)
                · rw [if_neg c14] at H
                  exact absurd H (by simp)
              · rw [if_neg c13] at H
                exact absurd H (by simp)
            · rw [if_neg c12] at H
              have c12b0 : decide (x18_1 < (l1.length : Int)) = false := decide_eq_false c12
              clear c12
              by_cases c75 : 0 ≤ (l0.length : Int)
              · rw [if_pos c75] at H
                have c75b0 : decide (0 ≤ (l0.length : Int)) = true := decide_eq_true c75
                have c75b1 : decide (0 ≤ l0.length) = true := decide_eq_true (by omega)
                clear c75
                by_cases c76 : (l0.length : Int) < (x5_1.length : Int)
                · rw [if_pos c76] at H
                  have c76b0 : decide ((l0.length : Int) < (x5_1.length : Int)) = true := decide_eq_true c76
                  have c76b1 : decide (l0.length < x5_1.length) = true := decide_eq_true (Int.ofNat_lt.mp c76)
                  clear c76
                  obtain rfl := Option.some.inj H
                  obtain ⟨Ao77, co77, eo77⟩ := Kd.R_slice HO_5.out
                  subst eo77
                  have p131 : 0 ≤ ((l0.length : Int) : Int) := of_decide_eq_true (by first | (with_reducible assumption) | assumption)
                  have q131 : (l0.length : Int) < (x5_1.length : Int) := of_decide_eq_true (by first | (with_reducible assumption) | assumption)
                  obtain ⟨ad131, e131, hx131_0⟩ := Kd.at_bool (Kd.R_reads' HO_5.out).2.2 (l0.length : Int) p131 q131
                  cases e131
                  (try simp only [Go.IntWalk.toNatUp] at hx131_0)
                  replace p131 := eq_true p131
                  replace q131 := eq_true q131
                  go_wp2
                  go_ret
                  exact ⟨by first | rfl | (simp [errW_none, errW_some] <;> rfl) | (simp only [← hji3]; first | rfl | (simp [errW_none, errW_some] <;> rfl)) | (simp [*, errW_none, errW_some] <;> rfl), by repeat (first | (with_reducible first | exact HB.out | apply below_alloc | apply pw_below_drewN | apply below_drew1) | exact HB.out)⟩
                · rw [if_neg c76] at H
                  exact absurd H (by simp)
              · rw [if_neg c75] at H
                exact absurd H (by simp)
      · rw [if_neg c6] at H
        exact absurd H (by simp)
    · rw [if_neg c5] at H
      exact absurd H (by simp)
  · rw [if_neg c4] at H
    exact absurd H (by simp)

end Go.Proofs.YtkdpkenhhcgnbaaDoor.PFnMtTrimSuffix
