-- Written for this claim by this session's own program (wip/xprint).
import Derived.Test.YtikdecjojfmjaaaPFnSjPathx0
import Derived.Test.YtikdecjojfmjaaaPFnSjPathx1
import Derived.Test.YtikdecjojfmjaaaPFnSjPathx2
import Derived.Test.YtikdecjojfmjaaaPFnSjPathx4
namespace Go.Proofs.Ytikdecjojfmjaaa.PFnSjPath
open Go.RowKit Go.Proofs.YtikdecjojfmjaaaW.PrintWords Go.Proofs.YtikdecjojfmjaaaW.PrintLast Go.Proofs.YtikdecjojfmjaaaW.PrintMore
attribute [local go_sem] max2_int min2_int max_two min_two max_three min_three max_four min_four   -- for this text's walks alone
set_option linter.unusedVariables false
set_option linter.unusedSimpArgs false

/-! ### spec_ColonPath: function 23 -/
mutual
def spec_ColonPath.l0 : Nat → List ByteArray → Int → ByteArray → Int → Int → Option (ByteArray)
  | 0, _, _, _, _, _ => none
  | k + 1, x0, x1, x5, x8, x9 => if x9 < x8 then (if x9 > 0 then (if x5.size + 1 ≤ 9223372036854775807 then (spec_ColonPath.j1 k x0 x1 (x5 ++ (⟨#[46]⟩ : ByteArray)) x9 x8 x9) else (none)) else (spec_ColonPath.j1 k x0 x1 x5 x9 x8 x9)) else (some x5)
def spec_ColonPath.j1 : Nat → List ByteArray → Int → ByteArray → Int → Int → Int → Option (ByteArray)
  | 0, _, _, _, _, _, _ => none
  | k + 1, x0, x1, x5, x6, x8, x9 => (spec_isName.f x1 x6).bind fun t168 => (if t168 = true then (if x5.size + 1 ≤ 9223372036854775807 then (if 0 ≤ x6 then (if x6 ≤ (wrap64 (x6 + 1)) then (if (wrap64 (x6 + 1)) ≤ (x0.length : Int) then ((spec_PathOf.f k ((x0.take ((wrap64 (x6 + 1)) : Int).toNat).drop (x6 : Int).toNat)).bind fun t170 => (if (x5 ++ (⟨#[58]⟩ : ByteArray)).size + t170.size ≤ 9223372036854775807 then (spec_ColonPath.l0 k x0 x1 ((x5 ++ (⟨#[58]⟩ : ByteArray)) ++ t170) x8 (wrap64 (x9 + 1))) else (none))) else (none)) else (none)) else (none)) else (none)) else (if 0 ≤ x6 then (if x6 ≤ (wrap64 (x6 + 1)) then (if (wrap64 (x6 + 1)) ≤ (x0.length : Int) then ((spec_PathOf.f k ((x0.take ((wrap64 (x6 + 1)) : Int).toNat).drop (x6 : Int).toNat)).bind fun t172 => (if x5.size + t172.size ≤ 9223372036854775807 then (spec_ColonPath.l0 k x0 x1 (x5 ++ t172) x8 (wrap64 (x9 + 1))) else (none))) else (none)) else (none)) else (none)))
end
def spec_ColonPath.f (k : Nat) (l0 : List ByteArray) (a1 : Int) : Option (ByteArray) := spec_ColonPath.l0 k l0 a1 (⟨#[]⟩ : ByteArray) (l0.length : Int) 0
theorem spec_ColonPath.mono_l : ∀ k, (∀ y0 y1 y2 y3 y4, LeO (spec_ColonPath.l0 k y0 y1 y2 y3 y4) (spec_ColonPath.l0 (k + 1) y0 y1 y2 y3 y4)) ∧ (∀ y0 y1 y2 y3 y4 y5, LeO (spec_ColonPath.j1 k y0 y1 y2 y3 y4 y5) (spec_ColonPath.j1 (k + 1) y0 y1 y2 y3 y4 y5))
  | 0 => ⟨fun _ _ _ _ _ r h => by simp [spec_ColonPath.l0] at h, fun _ _ _ _ _ _ r h => by simp [spec_ColonPath.j1] at h⟩
  | k + 1 => by
    obtain ⟨ih0, ih1⟩ := spec_ColonPath.mono_l k
    refine ⟨?_, ?_⟩
    · intro y0 y1 y2 y3 y4
      unfold spec_ColonPath.l0
      repeat' first
      | (with_reducible exact ih0 _ _ _ _ _)
      | (with_reducible exact ih1 _ _ _ _ _ _)
      | (with_reducible exact spec_PathOf.mono _ _)
      | (with_reducible exact LeO.refl _)
      | (with_reducible exact LeO.none _)
      | (with_reducible refine LeO.ite ?_ ?_)
      | (with_reducible refine LeO.bind ?_ (fun _ => ?_))
      | exact ih0 _ _ _ _ _
      | exact ih1 _ _ _ _ _ _
      | exact spec_PathOf.mono _ _
      | exact LeO.none _
      | refine LeO.ite ?_ ?_
      | refine LeO.bind ?_ (fun _ => ?_)
    · intro y0 y1 y2 y3 y4 y5
      unfold spec_ColonPath.j1
      repeat' first
      | (with_reducible exact ih0 _ _ _ _ _)
      | (with_reducible exact ih1 _ _ _ _ _ _)
      | (with_reducible exact spec_PathOf.mono _ _)
      | (with_reducible exact LeO.refl _)
      | (with_reducible exact LeO.none _)
      | (with_reducible refine LeO.ite ?_ ?_)
      | (with_reducible refine LeO.bind ?_ (fun _ => ?_))
      | exact ih0 _ _ _ _ _
      | exact ih1 _ _ _ _ _ _
      | exact spec_PathOf.mono _ _
      | exact LeO.none _
      | refine LeO.ite ?_ ?_
      | refine LeO.bind ?_ (fun _ => ?_)
theorem spec_ColonPath.mono : ∀ a0 a1 k, LeO (spec_ColonPath.f k a0 a1) (spec_ColonPath.f (k + 1) a0 a1) := by
  intro a0 a1 k
  obtain ⟨ih0, ih1⟩ := spec_ColonPath.mono_l k
  unfold spec_ColonPath.f
  repeat' first
      | (with_reducible exact ih0 _ _ _ _ _)
      | (with_reducible exact ih1 _ _ _ _ _ _)
      | (with_reducible exact spec_PathOf.mono _ _)
      | (with_reducible exact LeO.refl _)
      | (with_reducible exact LeO.none _)
      | (with_reducible refine LeO.ite ?_ ?_)
      | (with_reducible refine LeO.bind ?_ (fun _ => ?_))
      | exact ih0 _ _ _ _ _
      | exact ih1 _ _ _ _ _ _
      | exact spec_PathOf.mono _ _
      | exact LeO.none _
      | refine LeO.ite ?_ ?_
      | refine LeO.bind ?_ (fun _ => ?_)
set_option maxHeartbeats 8000000 in
set_option maxRecDepth 100000 in
theorem spec_ColonPath.calls (k : Nat) (A0 : Option Addr) (c0 : Nat) (l0 : List ByteArray) (a1 : Int) (r : ByteArray) (w : World) (hr0 : Kd.C Kd.string w A0 l0.length l0) (hc0 : l0.length ≤ c0) (h : spec_ColonPath.f k l0 a1 = some r) :
    Calls Try.prog 23 #[.slice A0 l0.length c0, .int .u64 a1] w fun e w' => e = .returned (.string r) ∧ Below w.heap.size w w' := by
  have HR0 := Aside0.mk hr0
  have HC0 := Aside0.mk hc0
  clear hr0 hc0
  have HB := Aside0.mk (Below.refl w.heap.size w)
  have H : (spec_ColonPath.l0 k l0 a1 (⟨#[]⟩ : ByteArray) (l0.length : Int) 0) = some r := h
  clear h
  have H' := Aside0.mk H
  clear H
  go_enter Try.func23, Try.ntmps23
  go_wp2
  (try simp only [Act.put, List.setIfInBounds_toArray, List.set_cons_zero, List.set_cons_succ])
  go_loopg [5, 9] k (fun kq v5 v9 w' => ∃ (x5_1 : ByteArray) (x9_1 : Int), v5 = .string x5_1 ∧ v9 = .int .i64 x9_1 ∧ Aside0 (spec_ColonPath.l0 kq l0 a1 x5_1 (l0.length : Int) x9_1 = some r) ∧ Aside0 (kq ≤ k) ∧ Aside0 (Below w.heap.size w w'))
  case atStart => exact ⟨((⟨#[]⟩ : ByteArray)), (0), (by first | rfl | (simp; done) | (simp [*]; done)), (by first | rfl | (simp; done) | (simp [*]; done)), H', ⟨Nat.le_refl _⟩, ⟨by repeat (first | (with_reducible first | exact HB.out | apply below_alloc | apply pw_below_drewN | apply below_drew1) | exact HB.out)⟩⟩
  case round =>
    clear H'
    try clear c2
    try clear p2
    obtain ⟨x5_1, x9_1, rfl, rfl, HA, HK1, HB⟩ := hrel
    cases gk with
    | zero => exact absurd HA.out (by simp [spec_ColonPath.l0])
    | succ k1 =>
      have H := HA.out
      clear HA
      simp only [spec_ColonPath.l0] at H
      by_cases c3 : x9_1 < (l0.length : Int)
      · rw [if_pos c3] at H
        have c3b0 : decide (x9_1 < (l0.length : Int)) = true := decide_eq_true c3
        clear c3
        have HC4 := Aside0.mk H
        clear H
        go_upto_if 13 with (fail)
        go_cut [5] (fun v5 wc => ∃ (kq : Nat) (x5_3 : ByteArray), v5 = .string x5_3 ∧ Aside0 (spec_ColonPath.j1 kq l0 a1 x5_3 x9_1 (l0.length : Int) x9_1 = some r) ∧ Aside0 (kq ≤ k1) ∧ Aside0 (Below w.heap.size w wc))
        case first =>
          have H := HC4.out
          clear HC4
          by_cases c5 : x9_1 > 0
          · rw [if_pos c5] at H
            have c5b0 : decide (0 < x9_1) = true := decide_eq_true c5
            clear c5
            (first | rw [c5b0] | (simp only [i64_w, i32_w]; rw [c5b0]) | skip)
            by_cases c6 : x5_1.size + 1 ≤ 9223372036854775807
            · rw [if_pos c6] at H
              have c6b0 := eq_true c6
              have c6b1 : decide (x5_1.size + 1 ≤ 9223372036854775807) = true := decide_eq_true c6
              try have c6b2 : (9223372036854775807 < x5_1.size + 1) = False := eq_false (Nat.not_lt.2 c6)
              have H' := Aside0.mk H
              clear H
              go_wp2
              go_meet
              case rel => exact ⟨_, (x5_1 ++ (⟨#[46]⟩ : ByteArray)), (by first | rfl | (simp; done) | (simp [*]; done)), H', ⟨by have := HK1.out; first | omega | exact Nat.le_refl _⟩, ⟨by repeat (first | (with_reducible first | exact HB.out | apply below_alloc | apply pw_below_drewN | apply below_drew1) | exact HB.out)⟩⟩
            · rw [if_neg c6] at H
              exact absurd H (by simp)
          · rw [if_neg c5] at H
            have c5b0 : decide (0 < x9_1) = false := decide_eq_false c5
            clear c5
            (first | rw [c5b0] | (simp only [i64_w, i32_w]; rw [c5b0]) | skip)
            have H' := Aside0.mk H
            clear H
            go_wp2
            go_meet
            case rel => exact ⟨_, (x5_1), (by first | rfl | (simp; done) | (simp [*]; done)), H', ⟨by have := HK1.out; first | omega | exact Nat.le_refl _⟩, ⟨by repeat (first | (with_reducible first | exact HB.out | apply below_alloc | apply pw_below_drewN | apply below_drew1) | exact HB.out)⟩⟩
        case rest =>
          clear HC4
          try clear c2
          try clear p2
          try clear c3
          try clear c3b0
          try clear c5
          try clear c5b0
          try clear c6
          try clear c6b0
          try clear c6b1
          try clear c6b2
          try clear p2
          obtain ⟨kq, x5_3, rfl, HA, HJ3, HB⟩ := hcut
          cases kq with
          | zero => exact absurd HA.out (by simp [spec_ColonPath.j1])
          | succ kj3 =>
            have H := HA.out
            clear HA
            simp only [spec_ColonPath.j1] at H
            replace H := Option.bind_eq_some_iff.mp H
            obtain ⟨t168, A70, H⟩ := H
            replace H : (if t168 = true then (if x5_3.size + 1 ≤ 9223372036854775807 then (if 0 ≤ x9_1 then (if x9_1 ≤ (wrap64 (x9_1 + 1)) then (if (wrap64 (x9_1 + 1)) ≤ (l0.length : Int) then ((spec_PathOf.f kj3 ((l0.take ((wrap64 (x9_1 + 1)) : Int).toNat).drop (x9_1 : Int).toNat)).bind fun t170 => (if (x5_3 ++ (⟨#[58]⟩ : ByteArray)).size + t170.size ≤ 9223372036854775807 then (spec_ColonPath.l0 kj3 l0 a1 ((x5_3 ++ (⟨#[58]⟩ : ByteArray)) ++ t170) (l0.length : Int) (wrap64 (x9_1 + 1))) else (none))) else (none)) else (none)) else (none)) else (none)) else (if 0 ≤ x9_1 then (if x9_1 ≤ (wrap64 (x9_1 + 1)) then (if (wrap64 (x9_1 + 1)) ≤ (l0.length : Int) then ((spec_PathOf.f kj3 ((l0.take ((wrap64 (x9_1 + 1)) : Int).toNat).drop (x9_1 : Int).toNat)).bind fun t172 => (if x5_3.size + t172.size ≤ 9223372036854775807 then (spec_ColonPath.l0 kj3 l0 a1 (x5_3 ++ t172) (l0.length : Int) (wrap64 (x9_1 + 1))) else (none))) else (none)) else (none)) else (none))) = some r := H
            have A7 := Aside0.mk A70
            clear A70
            by_cases c8 : t168 = true
            · subst c8
              have H1 : (if x5_3.size + 1 ≤ 9223372036854775807 then (if 0 ≤ x9_1 then (if x9_1 ≤ (wrap64 (x9_1 + 1)) then (if (wrap64 (x9_1 + 1)) ≤ (l0.length : Int) then ((spec_PathOf.f kj3 ((l0.take ((wrap64 (x9_1 + 1)) : Int).toNat).drop (x9_1 : Int).toNat)).bind fun t170 => (if (x5_3 ++ (⟨#[58]⟩ : ByteArray)).size + t170.size ≤ 9223372036854775807 then (spec_ColonPath.l0 kj3 l0 a1 ((x5_3 ++ (⟨#[58]⟩ : ByteArray)) ++ t170) (l0.length : Int) (wrap64 (x9_1 + 1))) else (none))) else (none)) else (none)) else (none)) else (none)) = some r := by rw [if_pos rfl] at H; exact H
              clear H
              have H := H1
              clear H1
              by_cases c9 : x5_3.size + 1 ≤ 9223372036854775807
              · rw [if_pos c9] at H
                have c9b0 := eq_true c9
                have c9b1 : decide (x5_3.size + 1 ≤ 9223372036854775807) = true := decide_eq_true c9
                try have c9b2 : (9223372036854775807 < x5_3.size + 1) = False := eq_false (Nat.not_lt.2 c9)
                by_cases c10 : 0 ≤ x9_1
                · rw [if_pos c10] at H
                  have c10b0 := eq_true c10
                  have c10b1 : decide (0 ≤ x9_1) = true := decide_eq_true c10
                  clear c10
                  by_cases c11 : x9_1 ≤ (wrap64 (x9_1 + 1))
                  · rw [if_pos c11] at H
                    have c11b0 := eq_true c11
                    have c11b1 : decide (x9_1 ≤ (wrap64 (x9_1 + 1))) = true := decide_eq_true c11
                    by_cases c12 : (wrap64 (x9_1 + 1)) ≤ (l0.length : Int)
                    · rw [if_pos c12] at H
                      have c12b0 := eq_true c12
                      have c12b1 : decide ((wrap64 (x9_1 + 1)) ≤ (l0.length : Int)) = true := decide_eq_true c12
                      replace H := Option.bind_eq_some_iff.mp H
                      obtain ⟨t170, A130, H⟩ := H
                      replace H : (if (x5_3 ++ (⟨#[58]⟩ : ByteArray)).size + t170.size ≤ 9223372036854775807 then (spec_ColonPath.l0 kj3 l0 a1 ((x5_3 ++ (⟨#[58]⟩ : ByteArray)) ++ t170) (l0.length : Int) (wrap64 (x9_1 + 1))) else (none)) = some r := H
                      have A13 := Aside0.mk A130
                      clear A130
                      by_cases c14 : (x5_3 ++ (⟨#[58]⟩ : ByteArray)).size + t170.size ≤ 9223372036854775807
                      · rw [if_pos c14] at H
                        have c14b0 := eq_true c14
                        have c14b1 : decide ((x5_3 ++ (⟨#[58]⟩ : ByteArray)).size + t170.size ≤ 9223372036854775807) = true := decide_eq_true c14
                        try have c14b2 : (9223372036854775807 < (x5_3 ++ (⟨#[58]⟩ : ByteArray)).size + t170.size) = False := eq_false (Nat.not_lt.2 c14)
                        try have c14b3 : (9223372036854775807 < x5_3.size + 1 + t170.size) = False := eq_false (Nat.not_lt.2 (by have z_ := c14; simp only [ByteArray.size_append] at z_; exact z_))
                        have H' := Aside0.mk H
                        clear H
                        go_wp2_with (first | ((with_reducible refine gate_callee (f := 36) rfl ?_); refine goesL_ (some 18) rfl rfl Try.func36 (by kernel_rfl) rfl #[.int .u64 a1, .int .i64 x9_1] rfl (by (try simp only [List.map_toArray, List.map_cons, List.map_nil]); first | done | rfl | (simp only [List.length_drop, List.length_take]; rfl)) ?_; (with_reducible refine (spec_isName.calls a1 x9_1 true _ A7.out).mono ?_); rintro e w' ⟨rfl, ⟨nd, rfl⟩⟩; refine ⟨_, rfl, ?_⟩; obtain ⟨i015, hi015, _, hsz15, _⟩ := info_parts info9; obtain ⟨A15, hcut15, hA15, hC15⟩ := print_mid_of (P := Try.prog) Value.string (⟨#[]⟩ : ByteArray) 23 9 .i64 .i64 Try.underlying23 hi015 hsz15 A0 c0 l0 x9_1 (wrap64 (x9_1 + 1)) (of_decide_eq_true (by first | (with_reducible assumption) | assumption)) (by first | omega | exact of_decide_eq_true (by first | (with_reducible assumption) | assumption)) (of_decide_eq_true (by first | (with_reducible assumption) | assumption)) HC0.out; have HR169 := Aside0.mk (Kd.C_of_reads (h1 := fun _ => rfl) (hA15 _ (Kd.reads_of_C HR0.out))); have HC169 := Aside0.mk hC15; clear hA15 hC15 hi015 hsz15) | ((with_reducible refine gate_callee (f := 24) rfl ?_); refine goesL_ (some 27) rfl rfl Try.func24 (by kernel_rfl) rfl #[.slice A15 ((l0.take ((wrap64 (x9_1 + 1)) : Int).toNat).drop (x9_1 : Int).toNat).length (c0 - x9_1.toNat)] rfl (by (try simp only [List.map_toArray, List.map_cons, List.map_nil]); first | done | (rw [show ((l0.take ((wrap64 (x9_1 + 1)) : Int).toNat).drop (x9_1 : Int).toNat).length = ((wrap64 (x9_1 + 1)).toNat - x9_1.toNat) from (by rw [List.length_drop, List.length_take]; have h_ : ((wrap64 (x9_1 + 1)) : Int) ≤ (l0.length : Int) := of_decide_eq_true (by first | (with_reducible assumption) | assumption); omega)] <;> rfl) | rfl | (simp only [List.length_drop, List.length_take]; rfl)) ?_; (with_reducible refine (spec_PathOf.calls kj3 _ _ ((l0.take ((wrap64 (x9_1 + 1)) : Int).toNat).drop (x9_1 : Int).toNat) t170 _ ?side1 ?side2 A13.out).mono ?_); (case side1 => repeat (first | exact (Kd.C_below HR169.out (by repeat (first | (with_reducible first | exact HB.out | apply below_alloc | apply pw_below_drewN | apply below_drew1) | exact HB.out))) | (with_reducible refine Kd.C_alloc ?_ _) | (with_reducible refine Kd.C_drewN ?_ _) | (with_reducible refine Kd.C_drew ?_))); (case side2 => exact HC169.out); rintro e w16 ⟨rfl, hb⟩; refine ⟨_, rfl, ?_⟩; have n0_ := Aside0.mk (below_step (by repeat (first | (with_reducible first | exact HB.out | apply below_alloc | apply pw_below_drewN | apply below_drew1) | exact HB.out)) hb); clear HB; have HB := n0_; clear n0_; (try clear hb); (try clear hb2); (try clear hk); (try clear hi)))
                        go_roundg kj3
                        case measure => have := HK1.out; have := HJ3.out; omega
                        case rel => exact ⟨((x5_3 ++ (⟨#[58]⟩ : ByteArray)) ++ t170), (wrap64 (x9_1 + 1)), (by first | rfl | (simp; done) | (simp [*]; done)), (by first | rfl | (simp; done) | (simp [*]; done)), H', ⟨by have := HK1.out; have := HJ3.out; omega⟩, ⟨by repeat (first | (with_reducible first | exact HB.out | apply below_alloc | apply pw_below_drewN | apply below_drew1) | exact HB.out)⟩⟩
                      · rw [if_neg c14] at H
                        exact absurd H (by simp)
                    · rw [if_neg c12] at H
                      exact absurd H (by simp)
                  · rw [if_neg c11] at H
                    exact absurd H (by simp)
                · rw [if_neg c10] at H
                  exact absurd H (by simp)
              · rw [if_neg c9] at H
                exact absurd H (by simp)
            · replace c8 := Bool.eq_false_iff.mpr c8
              subst c8
              have H1 : (if 0 ≤ x9_1 then (if x9_1 ≤ (wrap64 (x9_1 + 1)) then (if (wrap64 (x9_1 + 1)) ≤ (l0.length : Int) then ((spec_PathOf.f kj3 ((l0.take ((wrap64 (x9_1 + 1)) : Int).toNat).drop (x9_1 : Int).toNat)).bind fun t172 => (if x5_3.size + t172.size ≤ 9223372036854775807 then (spec_ColonPath.l0 kj3 l0 a1 (x5_3 ++ t172) (l0.length : Int) (wrap64 (x9_1 + 1))) else (none))) else (none)) else (none)) else (none)) = some r := by rw [if_neg (show ¬ (false = true) by decide)] at H; exact H
              clear H
              have H := H1
              clear H1
              by_cases c17 : 0 ≤ x9_1
              · rw [if_pos c17] at H
                have c17b0 := eq_true c17
                have c17b1 : decide (0 ≤ x9_1) = true := decide_eq_true c17
                clear c17
                by_cases c18 : x9_1 ≤ (wrap64 (x9_1 + 1))
                · rw [if_pos c18] at H
                  have c18b0 := eq_true c18
                  have c18b1 : decide (x9_1 ≤ (wrap64 (x9_1 + 1))) = true := decide_eq_true c18
                  by_cases c19 : (wrap64 (x9_1 + 1)) ≤ (l0.length : Int)
                  · rw [if_pos c19] at H
                    have c19b0 := eq_true c19
                    have c19b1 : decide ((wrap64 (x9_1 + 1)) ≤ (l0.length : Int)) = true := decide_eq_true c19
                    replace H := Option.bind_eq_some_iff.mp H
                    obtain ⟨t172, A200, H⟩ := H
                    replace H : (if x5_3.size + t172.size ≤ 9223372036854775807 then (spec_ColonPath.l0 kj3 l0 a1 (x5_3 ++ t172) (l0.length : Int) (wrap64 (x9_1 + 1))) else (none)) = some r := H
                    have A20 := Aside0.mk A200
                    clear A200
                    by_cases c21 : x5_3.size + t172.size ≤ 9223372036854775807
                    · rw [if_pos c21] at H
                      have c21b0 := eq_true c21
                      have c21b1 : decide (x5_3.size + t172.size ≤ 9223372036854775807) = true := decide_eq_true c21
                      try have c21b2 : (9223372036854775807 < x5_3.size + t172.size) = False := eq_false (Nat.not_lt.2 c21)
                      have H' := Aside0.mk H
                      clear H
                      go_wp2_with (first | ((with_reducible refine gate_callee (f := 36) rfl ?_); refine goesL_ (some 18) rfl rfl Try.func36 (by kernel_rfl) rfl #[.int .u64 a1, .int .i64 x9_1] rfl (by (try simp only [List.map_toArray, List.map_cons, List.map_nil]); first | done | rfl | (simp only [List.length_drop, List.length_take]; rfl)) ?_; (with_reducible refine (spec_isName.calls a1 x9_1 false _ A7.out).mono ?_); rintro e w' ⟨rfl, ⟨nd, rfl⟩⟩; refine ⟨_, rfl, ?_⟩; obtain ⟨i022, hi022, _, hsz22, _⟩ := info_parts info9; obtain ⟨A22, hcut22, hA22, hC22⟩ := print_mid_of (P := Try.prog) Value.string (⟨#[]⟩ : ByteArray) 23 9 .i64 .i64 Try.underlying23 hi022 hsz22 A0 c0 l0 x9_1 (wrap64 (x9_1 + 1)) (of_decide_eq_true (by first | (with_reducible assumption) | assumption)) (by first | omega | exact of_decide_eq_true (by first | (with_reducible assumption) | assumption)) (of_decide_eq_true (by first | (with_reducible assumption) | assumption)) HC0.out; have HR171 := Aside0.mk (Kd.C_of_reads (h1 := fun _ => rfl) (hA22 _ (Kd.reads_of_C HR0.out))); have HC171 := Aside0.mk hC22; clear hA22 hC22 hi022 hsz22) | ((with_reducible refine gate_callee (f := 24) rfl ?_); refine goesL_ (some 27) rfl rfl Try.func24 (by kernel_rfl) rfl #[.slice A22 ((l0.take ((wrap64 (x9_1 + 1)) : Int).toNat).drop (x9_1 : Int).toNat).length (c0 - x9_1.toNat)] rfl (by (try simp only [List.map_toArray, List.map_cons, List.map_nil]); first | done | (rw [show ((l0.take ((wrap64 (x9_1 + 1)) : Int).toNat).drop (x9_1 : Int).toNat).length = ((wrap64 (x9_1 + 1)).toNat - x9_1.toNat) from (by rw [List.length_drop, List.length_take]; have h_ : ((wrap64 (x9_1 + 1)) : Int) ≤ (l0.length : Int) := of_decide_eq_true (by first | (with_reducible assumption) | assumption); omega)] <;> rfl) | rfl | (simp only [List.length_drop, List.length_take]; rfl)) ?_; (with_reducible refine (spec_PathOf.calls kj3 _ _ ((l0.take ((wrap64 (x9_1 + 1)) : Int).toNat).drop (x9_1 : Int).toNat) t172 _ ?side1 ?side2 A20.out).mono ?_); (case side1 => repeat (first | exact (Kd.C_below HR171.out (by repeat (first | (with_reducible first | exact HB.out | apply below_alloc | apply pw_below_drewN | apply below_drew1) | exact HB.out))) | (with_reducible refine Kd.C_alloc ?_ _) | (with_reducible refine Kd.C_drewN ?_ _) | (with_reducible refine Kd.C_drew ?_))); (case side2 => exact HC171.out); rintro e w23 ⟨rfl, hb⟩; refine ⟨_, rfl, ?_⟩; have n0_ := Aside0.mk (below_step (by repeat (first | (with_reducible first | exact HB.out | apply below_alloc | apply pw_below_drewN | apply below_drew1) | exact HB.out)) hb); clear HB; have HB := n0_; clear n0_; (try clear hb); (try clear hb2); (try clear hk); (try clear hi)))
                      go_roundg kj3
                      case measure => have := HK1.out; have := HJ3.out; omega
                      case rel => exact ⟨(x5_3 ++ t172), (wrap64 (x9_1 + 1)), (by first | rfl | (simp; done) | (simp [*]; done)), (by first | rfl | (simp; done) | (simp [*]; done)), H', ⟨by have := HK1.out; have := HJ3.out; omega⟩, ⟨by repeat (first | (with_reducible first | exact HB.out | apply below_alloc | apply pw_below_drewN | apply below_drew1) | exact HB.out)⟩⟩
                    · rw [if_neg c21] at H
                      exact absurd H (by simp)
                  · rw [if_neg c19] at H
                    exact absurd H (by simp)
                · rw [if_neg c18] at H
                  exact absurd H (by simp)
              · rw [if_neg c17] at H
                exact absurd H (by simp)
      · rw [if_neg c3] at H
        have c3b0 : decide (x9_1 < (l0.length : Int)) = false := decide_eq_false c3
        clear c3
        obtain rfl := Option.some.inj H
        go_wp2
        go_ret
        exact ⟨by first | rfl | (simp [errW_none, errW_some] <;> rfl) | (simp [*, errW_none, errW_some] <;> rfl), by repeat (first | (with_reducible first | exact HB.out | apply below_alloc | apply pw_below_drewN | apply below_drew1) | exact HB.out)⟩

/-! ### laws_FnSjPath: function 8 -/
def laws_FnSjPath.f (k : Nat) (l0 : List ByteArray) (a1 : Int) : Option (Bool) := (laws_zzFits1.f k l0).bind fun t173 => (if t173 = true then ((laws_sjKeys.f k l0).bind fun t174 => (if t174 = true then ((spec_ColonPath.f k l0 a1).bind fun t175 => ((impl_SjPath.f k t175).bind fun bt176 => (if bt176.2.2.2.2.2 = true then (if 0 < (l0.length : Int) then (if bt176.1.toList = (rdOf ByteArray.empty l0 0).toList then (if 1 ≤ (l0.length : Int) then ((spec_PathOf.f k (l0.take 1)).bind fun t184 => (if bt176.2.1.toList = t184.toList then (if (bt176.2.2.2.1 == ((Go.bits .and .u64 a1 1) == 1)) = true then (if (bt176.2.2.2.2.1 == (decide ((l0.length : Int) > 1))) = true then (if bt176.2.2.2.2.1 = true then ((spec_ColonPath.f k (l0.drop 1) (a1 / 2)).bind fun t186 => (some (bt176.2.2.1.toList == t186.toList))) else (some true)) else (some false)) else (some false)) else (some false))) else (none)) else (some false)) else (none)) else (some false)))) else (some true))) else (some true))
theorem laws_FnSjPath.mono : ∀ a0 a1 k, LeO (laws_FnSjPath.f k a0 a1) (laws_FnSjPath.f (k + 1) a0 a1) := by
  intro a0 a1 k
  unfold laws_FnSjPath.f
  repeat' first
      | (with_reducible exact impl_SjPath.mono _ _)
      | (with_reducible exact laws_sjKeys.mono _ _)
      | (with_reducible exact laws_zzFits1.mono _ _)
      | (with_reducible exact spec_ColonPath.mono _ _ _)
      | (with_reducible exact spec_PathOf.mono _ _)
      | (with_reducible exact LeO.refl _)
      | (with_reducible exact LeO.none _)
      | (with_reducible refine LeO.ite ?_ ?_)
      | (with_reducible refine LeO.bind ?_ (fun _ => ?_))
      | exact impl_SjPath.mono _ _
      | exact laws_sjKeys.mono _ _
      | exact laws_zzFits1.mono _ _
      | exact spec_ColonPath.mono _ _ _
      | exact spec_PathOf.mono _ _
      | exact LeO.none _
      | refine LeO.ite ?_ ?_
      | refine LeO.bind ?_ (fun _ => ?_)
set_option maxHeartbeats 8000000 in
set_option maxRecDepth 100000 in
theorem laws_FnSjPath.calls (k : Nat) (A0 : Option Addr) (c0 : Nat) (l0 : List ByteArray) (a1 : Int) (r : Bool) (w : World) (hr0 : Kd.C Kd.string w A0 l0.length l0) (hc0 : l0.length ≤ c0) (h : laws_FnSjPath.f k l0 a1 = some r) :
    Calls Try.prog 8 #[.slice A0 l0.length c0, .int .u64 a1] w fun e w' => e = .returned (.bool r) ∧ Below w.heap.size w w' := by
  have HR0 := Aside0.mk hr0
  have HC0 := Aside0.mk hc0
  clear hr0 hc0
  have HB := Aside0.mk (Below.refl w.heap.size w)
  have H : ((laws_zzFits1.f k l0).bind fun t173 => (if t173 = true then ((laws_sjKeys.f k l0).bind fun t174 => (if t174 = true then ((spec_ColonPath.f k l0 a1).bind fun t175 => ((impl_SjPath.f k t175).bind fun bt176 => (if bt176.2.2.2.2.2 = true then (if 0 < (l0.length : Int) then (if bt176.1.toList = (rdOf ByteArray.empty l0 0).toList then (if 1 ≤ (l0.length : Int) then ((spec_PathOf.f k (l0.take 1)).bind fun t184 => (if bt176.2.1.toList = t184.toList then (if (bt176.2.2.2.1 == ((Go.bits .and .u64 a1 1) == 1)) = true then (if (bt176.2.2.2.2.1 == (decide ((l0.length : Int) > 1))) = true then (if bt176.2.2.2.2.1 = true then ((spec_ColonPath.f k (l0.drop 1) (a1 / 2)).bind fun t186 => (some (bt176.2.2.1.toList == t186.toList))) else (some true)) else (some false)) else (some false)) else (some false))) else (none)) else (some false)) else (none)) else (some false)))) else (some true))) else (some true))) = some r := h
  clear h
  replace H := Option.bind_eq_some_iff.mp H
  obtain ⟨t173, A30, H⟩ := H
  replace H : (if t173 = true then ((laws_sjKeys.f k l0).bind fun t174 => (if t174 = true then ((spec_ColonPath.f k l0 a1).bind fun t175 => ((impl_SjPath.f k t175).bind fun bt176 => (if bt176.2.2.2.2.2 = true then (if 0 < (l0.length : Int) then (if bt176.1.toList = (rdOf ByteArray.empty l0 0).toList then (if 1 ≤ (l0.length : Int) then ((spec_PathOf.f k (l0.take 1)).bind fun t184 => (if bt176.2.1.toList = t184.toList then (if (bt176.2.2.2.1 == ((Go.bits .and .u64 a1 1) == 1)) = true then (if (bt176.2.2.2.2.1 == (decide ((l0.length : Int) > 1))) = true then (if bt176.2.2.2.2.1 = true then ((spec_ColonPath.f k (l0.drop 1) (a1 / 2)).bind fun t186 => (some (bt176.2.2.1.toList == t186.toList))) else (some true)) else (some false)) else (some false)) else (some false))) else (none)) else (some false)) else (none)) else (some false)))) else (some true))) else (some true)) = some r := H
  have A3 := Aside0.mk A30
  clear A30
  by_cases c4 : t173 = true
  · subst c4
    have H1 : ((laws_sjKeys.f k l0).bind fun t174 => (if t174 = true then ((spec_ColonPath.f k l0 a1).bind fun t175 => ((impl_SjPath.f k t175).bind fun bt176 => (if bt176.2.2.2.2.2 = true then (if 0 < (l0.length : Int) then (if bt176.1.toList = (rdOf ByteArray.empty l0 0).toList then (if 1 ≤ (l0.length : Int) then ((spec_PathOf.f k (l0.take 1)).bind fun t184 => (if bt176.2.1.toList = t184.toList then (if (bt176.2.2.2.1 == ((Go.bits .and .u64 a1 1) == 1)) = true then (if (bt176.2.2.2.2.1 == (decide ((l0.length : Int) > 1))) = true then (if bt176.2.2.2.2.1 = true then ((spec_ColonPath.f k (l0.drop 1) (a1 / 2)).bind fun t186 => (some (bt176.2.2.1.toList == t186.toList))) else (some true)) else (some false)) else (some false)) else (some false))) else (none)) else (some false)) else (none)) else (some false)))) else (some true))) = some r := by rw [if_pos rfl] at H; exact H
    clear H
    have H := H1
    clear H1
    replace H := Option.bind_eq_some_iff.mp H
    obtain ⟨t174, A50, H⟩ := H
    replace H : (if t174 = true then ((spec_ColonPath.f k l0 a1).bind fun t175 => ((impl_SjPath.f k t175).bind fun bt176 => (if bt176.2.2.2.2.2 = true then (if 0 < (l0.length : Int) then (if bt176.1.toList = (rdOf ByteArray.empty l0 0).toList then (if 1 ≤ (l0.length : Int) then ((spec_PathOf.f k (l0.take 1)).bind fun t184 => (if bt176.2.1.toList = t184.toList then (if (bt176.2.2.2.1 == ((Go.bits .and .u64 a1 1) == 1)) = true then (if (bt176.2.2.2.2.1 == (decide ((l0.length : Int) > 1))) = true then (if bt176.2.2.2.2.1 = true then ((spec_ColonPath.f k (l0.drop 1) (a1 / 2)).bind fun t186 => (some (bt176.2.2.1.toList == t186.toList))) else (some true)) else (some false)) else (some false)) else (some false))) else (none)) else (some false)) else (none)) else (some false)))) else (some true)) = some r := H
    have A5 := Aside0.mk A50
    clear A50
    by_cases c6 : t174 = true
    · subst c6
      have H1 : ((spec_ColonPath.f k l0 a1).bind fun t175 => ((impl_SjPath.f k t175).bind fun bt176 => (if bt176.2.2.2.2.2 = true then (if 0 < (l0.length : Int) then (if bt176.1.toList = (rdOf ByteArray.empty l0 0).toList then (if 1 ≤ (l0.length : Int) then ((spec_PathOf.f k (l0.take 1)).bind fun t184 => (if bt176.2.1.toList = t184.toList then (if (bt176.2.2.2.1 == ((Go.bits .and .u64 a1 1) == 1)) = true then (if (bt176.2.2.2.2.1 == (decide ((l0.length : Int) > 1))) = true then (if bt176.2.2.2.2.1 = true then ((spec_ColonPath.f k (l0.drop 1) (a1 / 2)).bind fun t186 => (some (bt176.2.2.1.toList == t186.toList))) else (some true)) else (some false)) else (some false)) else (some false))) else (none)) else (some false)) else (none)) else (some false)))) = some r := by rw [if_pos rfl] at H; exact H
      clear H
      have H := H1
      clear H1
      replace H := Option.bind_eq_some_iff.mp H
      obtain ⟨t175, A70, H⟩ := H
      replace H : ((impl_SjPath.f k t175).bind fun bt176 => (if bt176.2.2.2.2.2 = true then (if 0 < (l0.length : Int) then (if bt176.1.toList = (rdOf ByteArray.empty l0 0).toList then (if 1 ≤ (l0.length : Int) then ((spec_PathOf.f k (l0.take 1)).bind fun t184 => (if bt176.2.1.toList = t184.toList then (if (bt176.2.2.2.1 == ((Go.bits .and .u64 a1 1) == 1)) = true then (if (bt176.2.2.2.2.1 == (decide ((l0.length : Int) > 1))) = true then (if bt176.2.2.2.2.1 = true then ((spec_ColonPath.f k (l0.drop 1) (a1 / 2)).bind fun t186 => (some (bt176.2.2.1.toList == t186.toList))) else (some true)) else (some false)) else (some false)) else (some false))) else (none)) else (some false)) else (none)) else (some false))) = some r := H
      have A7 := Aside0.mk A70
      clear A70
      replace H := Option.bind_eq_some_iff.mp H
      obtain ⟨⟨t176, t177, t178, t179, t180, t181⟩, A80, H⟩ := H
      replace H : (if t181 = true then (if 0 < (l0.length : Int) then (if t176.toList = (rdOf ByteArray.empty l0 0).toList then (if 1 ≤ (l0.length : Int) then ((spec_PathOf.f k (l0.take 1)).bind fun t184 => (if t177.toList = t184.toList then (if (t179 == ((Go.bits .and .u64 a1 1) == 1)) = true then (if (t180 == (decide ((l0.length : Int) > 1))) = true then (if t180 = true then ((spec_ColonPath.f k (l0.drop 1) (a1 / 2)).bind fun t186 => (some (t178.toList == t186.toList))) else (some true)) else (some false)) else (some false)) else (some false))) else (none)) else (some false)) else (none)) else (some false)) = some r := H
      have A8 := Aside0.mk A80
      clear A80
      by_cases c9 : t181 = true
      · subst c9
        have H1 : (if 0 < (l0.length : Int) then (if t176.toList = (rdOf ByteArray.empty l0 0).toList then (if 1 ≤ (l0.length : Int) then ((spec_PathOf.f k (l0.take 1)).bind fun t184 => (if t177.toList = t184.toList then (if (t179 == ((Go.bits .and .u64 a1 1) == 1)) = true then (if (t180 == (decide ((l0.length : Int) > 1))) = true then (if t180 = true then ((spec_ColonPath.f k (l0.drop 1) (a1 / 2)).bind fun t186 => (some (t178.toList == t186.toList))) else (some true)) else (some false)) else (some false)) else (some false))) else (none)) else (some false)) else (none)) = some r := by rw [if_pos rfl] at H; exact H
        clear H
        have H := H1
        clear H1
        by_cases c10 : 0 < (l0.length : Int)
        · rw [if_pos c10] at H
          have c10b0 : decide (0 < (l0.length : Int)) = true := decide_eq_true c10
          have c10b1 : decide (0 < l0.length) = true := decide_eq_true (by omega)
          clear c10
          by_cases c11 : t176.toList = (rdOf ByteArray.empty l0 0).toList
          · rw [if_pos c11] at H
            have c11b0 : (t176.toList == (rdOf ByteArray.empty l0 0).toList) = true := beq_iff_eq.mpr c11
            have c11b1 : (t176.toList != (rdOf ByteArray.empty l0 0).toList) = false := bne_eq_false_iff_eq.mpr c11
            clear c11
            by_cases c12 : 1 ≤ (l0.length : Int)
            · rw [if_pos c12] at H
              have c12b0 := eq_true c12
              have c12b1 : decide (1 ≤ (l0.length : Int)) = true := decide_eq_true c12
              clear c12
              replace H := Option.bind_eq_some_iff.mp H
              obtain ⟨t184, A130, H⟩ := H
              replace H : (if t177.toList = t184.toList then (if (t179 == ((Go.bits .and .u64 a1 1) == 1)) = true then (if (t180 == (decide ((l0.length : Int) > 1))) = true then (if t180 = true then ((spec_ColonPath.f k (l0.drop 1) (a1 / 2)).bind fun t186 => (some (t178.toList == t186.toList))) else (some true)) else (some false)) else (some false)) else (some false)) = some r := H
              have A13 := Aside0.mk A130
              clear A130
              by_cases c14 : t177.toList = t184.toList
              · rw [if_pos c14] at H
                have c14b0 : (t177.toList == t184.toList) = true := beq_iff_eq.mpr c14
                have c14b1 : (t177.toList != t184.toList) = false := bne_eq_false_iff_eq.mpr c14
                clear c14
                by_cases c15 : (t179 == ((Go.bits .and .u64 a1 1) == 1)) = true
                · rw [if_pos c15] at H
                  have c15b0 : (t179 == ((Go.bits .and .u64 a1 1) == 1)) = true := c15
                  (try (have c15b1 : decide (t179 = ((Go.bits .and .u64 a1 1) == 1)) = true := by simpa using c15))
                  (try (have c15b2 : (t179 == ((Go.bits .and .u64 a1 1) == 1)) = true := by simpa using c15))
                  clear c15
                  by_cases c16 : (t180 == (decide ((l0.length : Int) > 1))) = true
                  · rw [if_pos c16] at H
                    have c16b0 : (t180 == (decide ((l0.length : Int) > 1))) = true := c16
                    (try (have c16b1 : decide (t180 = (decide ((l0.length : Int) > 1))) = true := by simpa using c16))
                    (try (have c16b2 : (t180 == (decide ((l0.length : Int) > 1))) = true := by simpa using c16))
                    clear c16
                    by_cases c17 : t180 = true
                    · subst c17
                      have H1 : ((spec_ColonPath.f k (l0.drop 1) (a1 / 2)).bind fun t186 => (some (t178.toList == t186.toList))) = some r := by rw [if_pos rfl] at H; exact H
                      clear H
                      have H := H1
                      clear H1
                      have c18b0 := eq_true (of_decide_eq_true (by first | (with_reducible assumption) | assumption) : 1 ≤ (l0.length : Int))
                      replace H := Option.bind_eq_some_iff.mp H
                      obtain ⟨t186, A190, H⟩ := H
                      replace H : (some (t178.toList == t186.toList)) = some r := H
                      have A19 := Aside0.mk A190
                      clear A190
                      obtain rfl := Option.some.inj H
                      go_enter Try.func8, Try.ntmps8
                      go_wp2_with (first | ((with_reducible refine gate_callee (f := 20) rfl ?_); refine goesL_ (some 12) rfl rfl Try.func20 (by kernel_rfl) rfl #[.slice A0 l0.length c0] rfl (by (try simp only [List.map_toArray, List.map_cons, List.map_nil]); first | done | rfl | (simp only [List.length_drop, List.length_take]; rfl)) ?_; (with_reducible refine (laws_zzFits1.calls k _ _ l0 true _ ?side1 ?side2 A3.out).mono ?_); (case side1 => repeat (first | exact HR0.out | (with_reducible refine Kd.C_alloc ?_ _) | (with_reducible refine Kd.C_drewN ?_ _) | (with_reducible refine Kd.C_drew ?_))); (case side2 => exact HC0.out); rintro e w' ⟨rfl, ⟨nd, rfl⟩⟩; refine ⟨_, rfl, ?_⟩) | ((with_reducible refine gate_callee (f := 21) rfl ?_); refine goesL_ (some 15) rfl rfl Try.func21 (by kernel_rfl) rfl #[.slice A0 l0.length c0] rfl (by (try simp only [List.map_toArray, List.map_cons, List.map_nil]); first | done | rfl | (simp only [List.length_drop, List.length_take]; rfl)) ?_; (with_reducible refine (laws_sjKeys.calls k _ _ l0 true _ ?side1 ?side2 A5.out).mono ?_); (case side1 => repeat (first | exact HR0.out | (with_reducible refine Kd.C_alloc ?_ _) | (with_reducible refine Kd.C_drewN ?_ _) | (with_reducible refine Kd.C_drew ?_))); (case side2 => exact HC0.out); rintro e w' ⟨rfl, ⟨nd, rfl⟩⟩; refine ⟨_, rfl, ?_⟩) | ((with_reducible refine gate_callee (f := 23) rfl ?_); refine goesL_ (some 20) rfl rfl Try.func23 (by kernel_rfl) rfl #[.slice A0 l0.length c0, .int .u64 a1] rfl (by (try simp only [List.map_toArray, List.map_cons, List.map_nil]); first | done | rfl | (simp only [List.length_drop, List.length_take]; rfl)) ?_; (with_reducible refine (spec_ColonPath.calls k _ _ l0 a1 t175 _ ?side1 ?side2 A7.out).mono ?_); (case side1 => repeat (first | exact HR0.out | (with_reducible refine Kd.C_alloc ?_ _) | (with_reducible refine Kd.C_drewN ?_ _) | (with_reducible refine Kd.C_drew ?_))); (case side2 => exact HC0.out); rintro e w20 ⟨rfl, hb⟩; refine ⟨_, rfl, ?_⟩; have n0_ := Aside0.mk (below_step (by repeat (first | (with_reducible first | exact HB.out | apply below_alloc | apply pw_below_drewN | apply below_drew1) | exact HB.out)) hb); clear HB; have HB := n0_; clear n0_; (try clear hb); (try clear hb2); (try clear hk); (try clear hi)) | ((with_reducible refine gate_callee (f := 22) rfl ?_); refine goesL_ (some 21) rfl rfl Try.func22 (by kernel_rfl) rfl #[.string t175] rfl (by (try simp only [List.map_toArray, List.map_cons, List.map_nil]); first | done | rfl | (simp only [List.length_drop, List.length_take]; rfl)) ?_; (with_reducible refine (impl_SjPath.calls k t175 t176 t177 t178 t179 true true _ A8.out).mono ?_); rintro e w21 ⟨rfl, hb⟩; refine ⟨_, rfl, ?_⟩; have n0_ := Aside0.mk (below_step (by repeat (first | (with_reducible first | exact HB.out | apply below_alloc | apply pw_below_drewN | apply below_drew1) | exact HB.out)) hb); clear HB; have HB := n0_; clear n0_; (try clear hb); (try clear hb2); (try clear hk); (try clear hi); have p182 : 0 ≤ (0 : Int) := (by omega); have q182 : 0 < (l0.length : Int) := of_decide_eq_true (by first | (with_reducible assumption) | assumption); obtain ⟨ad182, e182, hx182_0⟩ := Kd.at_string HR0.out 0 p182 q182; cases e182; have qi182 : (0 < l0.length) = True := eq_true (by omega); (try rw [show ((0 : Int)).toNat = 0 from rfl] at hx182_0); (try rw [Addr.add_zero'] at hx182_0); replace hx182_0 := (HB.out.cell (World.block_lt_of_cell? w _ hx182_0)).trans hx182_0; replace p182 := eq_true p182; replace q182 := eq_true q182; obtain ⟨i022, hi022, _, hsz22, _⟩ := info_parts info9; obtain ⟨hcut22, hA22, hC22⟩ := print_take_of (P := Try.prog) Value.string (⟨#[]⟩ : ByteArray) 23 9 .i64 Try.underlying23 hi022 hsz22 (some ad182) c0 l0 1 (by omega) (of_decide_eq_true (by first | (with_reducible assumption) | assumption)) HC0.out; have HR183 := Aside0.mk (Kd.C_of_reads (h1 := fun _ => rfl) (hA22 _ (Kd.reads_of_C HR0.out))); have HC183 := Aside0.mk hC22; clear hA22 hC22 hi022 hsz22) | (go_at_call 24; (try rw [← (List.length_take (i := 1) (l := l0))]); (with_reducible refine (spec_PathOf.calls k _ _ (l0.take 1) t184 _ ?side1 ?side2 A13.out).mono ?_); (case side1 => repeat (first | exact (Kd.C_below HR183.out HB.out) | (with_reducible refine Kd.C_alloc ?_ _) | (with_reducible refine Kd.C_drewN ?_ _) | (with_reducible refine Kd.C_drew ?_))); (case side2 => exact HC183.out); rintro e w23 ⟨rfl, hb⟩; have n0_ := Aside0.mk (below_step (by repeat (first | (with_reducible first | exact HB.out | apply below_alloc | apply pw_below_drewN | apply below_drew1) | exact HB.out)) hb); clear HB; have HB := n0_; clear n0_; (try clear hb); (try clear hb2); (try clear hk); (try clear hi); obtain ⟨i024, hi024, _, hsz24, _⟩ := info_parts info9; obtain ⟨A24, hcut24, hA24, hC24⟩ := print_drop_of (P := Try.prog) Value.string (⟨#[]⟩ : ByteArray) 23 9 .i64 Try.underlying23 hi024 hsz24 (some ad182) c0 l0 1 (by omega) (of_decide_eq_true (by first | (with_reducible assumption) | assumption)) HC0.out; have HR185 := Aside0.mk (Kd.C_of_reads (h1 := fun _ => rfl) (hA24 _ (Kd.reads_of_C HR0.out))); have HC185 := Aside0.mk hC24; clear hA24 hC24 hi024 hsz24) | (go_at_call 23; (try rw [← (List.length_drop (i := 1) (l := l0))]); (with_reducible refine (spec_ColonPath.calls k _ _ (l0.drop 1) (a1 / 2) t186 _ ?side1 ?side2 A19.out).mono ?_); (case side1 => repeat (first | exact (Kd.C_below HR185.out HB.out) | (with_reducible refine Kd.C_alloc ?_ _) | (with_reducible refine Kd.C_drewN ?_ _) | (with_reducible refine Kd.C_drew ?_))); (case side2 => exact HC185.out); rintro e w25 ⟨rfl, hb⟩; have n0_ := Aside0.mk (below_step (by repeat (first | (with_reducible first | exact HB.out | apply below_alloc | apply pw_below_drewN | apply below_drew1) | exact HB.out)) hb); clear HB; have HB := n0_; clear n0_; (try clear hb); (try clear hb2); (try clear hk); (try clear hi)))
                      go_ret
                      exact ⟨by first | rfl | (simp [errW_none, errW_some] <;> rfl) | (simp [*, errW_none, errW_some] <;> rfl), by repeat (first | (with_reducible first | exact HB.out | apply below_alloc | apply pw_below_drewN | apply below_drew1) | exact HB.out)⟩
                    · replace c17 := Bool.eq_false_iff.mpr c17
                      subst c17
                      have H1 : (some true) = some r := by rw [if_neg (show ¬ (false = true) by decide)] at H; exact H
                      clear H
                      have H := H1
                      clear H1
                      obtain rfl := Option.some.inj H
                      go_enter Try.func8, Try.ntmps8
                      go_wp2_with (first | ((with_reducible refine gate_callee (f := 20) rfl ?_); refine goesL_ (some 12) rfl rfl Try.func20 (by kernel_rfl) rfl #[.slice A0 l0.length c0] rfl (by (try simp only [List.map_toArray, List.map_cons, List.map_nil]); first | done | rfl | (simp only [List.length_drop, List.length_take]; rfl)) ?_; (with_reducible refine (laws_zzFits1.calls k _ _ l0 true _ ?side1 ?side2 A3.out).mono ?_); (case side1 => repeat (first | exact HR0.out | (with_reducible refine Kd.C_alloc ?_ _) | (with_reducible refine Kd.C_drewN ?_ _) | (with_reducible refine Kd.C_drew ?_))); (case side2 => exact HC0.out); rintro e w' ⟨rfl, ⟨nd, rfl⟩⟩; refine ⟨_, rfl, ?_⟩) | ((with_reducible refine gate_callee (f := 21) rfl ?_); refine goesL_ (some 15) rfl rfl Try.func21 (by kernel_rfl) rfl #[.slice A0 l0.length c0] rfl (by (try simp only [List.map_toArray, List.map_cons, List.map_nil]); first | done | rfl | (simp only [List.length_drop, List.length_take]; rfl)) ?_; (with_reducible refine (laws_sjKeys.calls k _ _ l0 true _ ?side1 ?side2 A5.out).mono ?_); (case side1 => repeat (first | exact HR0.out | (with_reducible refine Kd.C_alloc ?_ _) | (with_reducible refine Kd.C_drewN ?_ _) | (with_reducible refine Kd.C_drew ?_))); (case side2 => exact HC0.out); rintro e w' ⟨rfl, ⟨nd, rfl⟩⟩; refine ⟨_, rfl, ?_⟩) | ((with_reducible refine gate_callee (f := 23) rfl ?_); refine goesL_ (some 20) rfl rfl Try.func23 (by kernel_rfl) rfl #[.slice A0 l0.length c0, .int .u64 a1] rfl (by (try simp only [List.map_toArray, List.map_cons, List.map_nil]); first | done | rfl | (simp only [List.length_drop, List.length_take]; rfl)) ?_; (with_reducible refine (spec_ColonPath.calls k _ _ l0 a1 t175 _ ?side1 ?side2 A7.out).mono ?_); (case side1 => repeat (first | exact HR0.out | (with_reducible refine Kd.C_alloc ?_ _) | (with_reducible refine Kd.C_drewN ?_ _) | (with_reducible refine Kd.C_drew ?_))); (case side2 => exact HC0.out); rintro e w26 ⟨rfl, hb⟩; refine ⟨_, rfl, ?_⟩; have n0_ := Aside0.mk (below_step (by repeat (first | (with_reducible first | exact HB.out | apply below_alloc | apply pw_below_drewN | apply below_drew1) | exact HB.out)) hb); clear HB; have HB := n0_; clear n0_; (try clear hb); (try clear hb2); (try clear hk); (try clear hi)) | ((with_reducible refine gate_callee (f := 22) rfl ?_); refine goesL_ (some 21) rfl rfl Try.func22 (by kernel_rfl) rfl #[.string t175] rfl (by (try simp only [List.map_toArray, List.map_cons, List.map_nil]); first | done | rfl | (simp only [List.length_drop, List.length_take]; rfl)) ?_; (with_reducible refine (impl_SjPath.calls k t175 t176 t177 t178 t179 false true _ A8.out).mono ?_); rintro e w27 ⟨rfl, hb⟩; refine ⟨_, rfl, ?_⟩; have n0_ := Aside0.mk (below_step (by repeat (first | (with_reducible first | exact HB.out | apply below_alloc | apply pw_below_drewN | apply below_drew1) | exact HB.out)) hb); clear HB; have HB := n0_; clear n0_; (try clear hb); (try clear hb2); (try clear hk); (try clear hi); have p182 : 0 ≤ (0 : Int) := (by omega); have q182 : 0 < (l0.length : Int) := of_decide_eq_true (by first | (with_reducible assumption) | assumption); obtain ⟨ad182, e182, hx182_0⟩ := Kd.at_string HR0.out 0 p182 q182; cases e182; have qi182 : (0 < l0.length) = True := eq_true (by omega); (try rw [show ((0 : Int)).toNat = 0 from rfl] at hx182_0); (try rw [Addr.add_zero'] at hx182_0); replace hx182_0 := (HB.out.cell (World.block_lt_of_cell? w _ hx182_0)).trans hx182_0; replace p182 := eq_true p182; replace q182 := eq_true q182; obtain ⟨i028, hi028, _, hsz28, _⟩ := info_parts info9; obtain ⟨hcut28, hA28, hC28⟩ := print_take_of (P := Try.prog) Value.string (⟨#[]⟩ : ByteArray) 23 9 .i64 Try.underlying23 hi028 hsz28 (some ad182) c0 l0 1 (by omega) (of_decide_eq_true (by first | (with_reducible assumption) | assumption)) HC0.out; have HR183 := Aside0.mk (Kd.C_of_reads (h1 := fun _ => rfl) (hA28 _ (Kd.reads_of_C HR0.out))); have HC183 := Aside0.mk hC28; clear hA28 hC28 hi028 hsz28) | (go_at_call 24; (try rw [← (List.length_take (i := 1) (l := l0))]); (with_reducible refine (spec_PathOf.calls k _ _ (l0.take 1) t184 _ ?side1 ?side2 A13.out).mono ?_); (case side1 => repeat (first | exact (Kd.C_below HR183.out HB.out) | (with_reducible refine Kd.C_alloc ?_ _) | (with_reducible refine Kd.C_drewN ?_ _) | (with_reducible refine Kd.C_drew ?_))); (case side2 => exact HC183.out); rintro e w29 ⟨rfl, hb⟩; have n0_ := Aside0.mk (below_step (by repeat (first | (with_reducible first | exact HB.out | apply below_alloc | apply pw_below_drewN | apply below_drew1) | exact HB.out)) hb); clear HB; have HB := n0_; clear n0_; (try clear hb); (try clear hb2); (try clear hk); (try clear hi)))
                      go_ret
                      exact ⟨by first | rfl | (simp [errW_none, errW_some] <;> rfl) | (simp [*, errW_none, errW_some] <;> rfl), by repeat (first | (with_reducible first | exact HB.out | apply below_alloc | apply pw_below_drewN | apply below_drew1) | exact HB.out)⟩
                  · rw [if_neg c16] at H
                    have c16b0 : (t180 == (decide ((l0.length : Int) > 1))) = false := by simpa using c16
                    (try (have c16b1 : decide (t180 = (decide ((l0.length : Int) > 1))) = false := by simpa using c16))
                    (try (have c16b2 : (t180 == (decide ((l0.length : Int) > 1))) = false := by simpa using c16))
                    (try (have c16b3 : ¬ (t180 = (decide ((l0.length : Int) > 1))) := by simpa using c16))
                    clear c16
                    obtain rfl := Option.some.inj H
                    go_enter Try.func8, Try.ntmps8
                    go_wp2_with (first | ((with_reducible refine gate_callee (f := 20) rfl ?_); refine goesL_ (some 12) rfl rfl Try.func20 (by kernel_rfl) rfl #[.slice A0 l0.length c0] rfl (by (try simp only [List.map_toArray, List.map_cons, List.map_nil]); first | done | rfl | (simp only [List.length_drop, List.length_take]; rfl)) ?_; (with_reducible refine (laws_zzFits1.calls k _ _ l0 true _ ?side1 ?side2 A3.out).mono ?_); (case side1 => repeat (first | exact HR0.out | (with_reducible refine Kd.C_alloc ?_ _) | (with_reducible refine Kd.C_drewN ?_ _) | (with_reducible refine Kd.C_drew ?_))); (case side2 => exact HC0.out); rintro e w' ⟨rfl, ⟨nd, rfl⟩⟩; refine ⟨_, rfl, ?_⟩) | ((with_reducible refine gate_callee (f := 21) rfl ?_); refine goesL_ (some 15) rfl rfl Try.func21 (by kernel_rfl) rfl #[.slice A0 l0.length c0] rfl (by (try simp only [List.map_toArray, List.map_cons, List.map_nil]); first | done | rfl | (simp only [List.length_drop, List.length_take]; rfl)) ?_; (with_reducible refine (laws_sjKeys.calls k _ _ l0 true _ ?side1 ?side2 A5.out).mono ?_); (case side1 => repeat (first | exact HR0.out | (with_reducible refine Kd.C_alloc ?_ _) | (with_reducible refine Kd.C_drewN ?_ _) | (with_reducible refine Kd.C_drew ?_))); (case side2 => exact HC0.out); rintro e w' ⟨rfl, ⟨nd, rfl⟩⟩; refine ⟨_, rfl, ?_⟩) | ((with_reducible refine gate_callee (f := 23) rfl ?_); refine goesL_ (some 20) rfl rfl Try.func23 (by kernel_rfl) rfl #[.slice A0 l0.length c0, .int .u64 a1] rfl (by (try simp only [List.map_toArray, List.map_cons, List.map_nil]); first | done | rfl | (simp only [List.length_drop, List.length_take]; rfl)) ?_; (with_reducible refine (spec_ColonPath.calls k _ _ l0 a1 t175 _ ?side1 ?side2 A7.out).mono ?_); (case side1 => repeat (first | exact HR0.out | (with_reducible refine Kd.C_alloc ?_ _) | (with_reducible refine Kd.C_drewN ?_ _) | (with_reducible refine Kd.C_drew ?_))); (case side2 => exact HC0.out); rintro e w30 ⟨rfl, hb⟩; refine ⟨_, rfl, ?_⟩; have n0_ := Aside0.mk (below_step (by repeat (first | (with_reducible first | exact HB.out | apply below_alloc | apply pw_below_drewN | apply below_drew1) | exact HB.out)) hb); clear HB; have HB := n0_; clear n0_; (try clear hb); (try clear hb2); (try clear hk); (try clear hi)) | ((with_reducible refine gate_callee (f := 22) rfl ?_); refine goesL_ (some 21) rfl rfl Try.func22 (by kernel_rfl) rfl #[.string t175] rfl (by (try simp only [List.map_toArray, List.map_cons, List.map_nil]); first | done | rfl | (simp only [List.length_drop, List.length_take]; rfl)) ?_; (with_reducible refine (impl_SjPath.calls k t175 t176 t177 t178 t179 t180 true _ A8.out).mono ?_); rintro e w31 ⟨rfl, hb⟩; refine ⟨_, rfl, ?_⟩; have n0_ := Aside0.mk (below_step (by repeat (first | (with_reducible first | exact HB.out | apply below_alloc | apply pw_below_drewN | apply below_drew1) | exact HB.out)) hb); clear HB; have HB := n0_; clear n0_; (try clear hb); (try clear hb2); (try clear hk); (try clear hi); have p182 : 0 ≤ (0 : Int) := (by omega); have q182 : 0 < (l0.length : Int) := of_decide_eq_true (by first | (with_reducible assumption) | assumption); obtain ⟨ad182, e182, hx182_0⟩ := Kd.at_string HR0.out 0 p182 q182; cases e182; have qi182 : (0 < l0.length) = True := eq_true (by omega); (try rw [show ((0 : Int)).toNat = 0 from rfl] at hx182_0); (try rw [Addr.add_zero'] at hx182_0); replace hx182_0 := (HB.out.cell (World.block_lt_of_cell? w _ hx182_0)).trans hx182_0; replace p182 := eq_true p182; replace q182 := eq_true q182; obtain ⟨i032, hi032, _, hsz32, _⟩ := info_parts info9; obtain ⟨hcut32, hA32, hC32⟩ := print_take_of (P := Try.prog) Value.string (⟨#[]⟩ : ByteArray) 23 9 .i64 Try.underlying23 hi032 hsz32 (some ad182) c0 l0 1 (by omega) (of_decide_eq_true (by first | (with_reducible assumption) | assumption)) HC0.out; have HR183 := Aside0.mk (Kd.C_of_reads (h1 := fun _ => rfl) (hA32 _ (Kd.reads_of_C HR0.out))); have HC183 := Aside0.mk hC32; clear hA32 hC32 hi032 hsz32) | (go_at_call 24; (try rw [← (List.length_take (i := 1) (l := l0))]); (with_reducible refine (spec_PathOf.calls k _ _ (l0.take 1) t184 _ ?side1 ?side2 A13.out).mono ?_); (case side1 => repeat (first | exact (Kd.C_below HR183.out HB.out) | (with_reducible refine Kd.C_alloc ?_ _) | (with_reducible refine Kd.C_drewN ?_ _) | (with_reducible refine Kd.C_drew ?_))); (case side2 => exact HC183.out); rintro e w33 ⟨rfl, hb⟩; have n0_ := Aside0.mk (below_step (by repeat (first | (with_reducible first | exact HB.out | apply below_alloc | apply pw_below_drewN | apply below_drew1) | exact HB.out)) hb); clear HB; have HB := n0_; clear n0_; (try clear hb); (try clear hb2); (try clear hk); (try clear hi)))
                    go_ret
                    exact ⟨by first | rfl | (simp [errW_none, errW_some] <;> rfl) | (simp [*, errW_none, errW_some] <;> rfl), by repeat (first | (with_reducible first | exact HB.out | apply below_alloc | apply pw_below_drewN | apply below_drew1) | exact HB.out)⟩
                · rw [if_neg c15] at H
                  have c15b0 : (t179 == ((Go.bits .and .u64 a1 1) == 1)) = false := by simpa using c15
                  (try (have c15b1 : decide (t179 = ((Go.bits .and .u64 a1 1) == 1)) = false := by simpa using c15))
                  (try (have c15b2 : (t179 == ((Go.bits .and .u64 a1 1) == 1)) = false := by simpa using c15))
                  (try (have c15b3 : ¬ (t179 = ((Go.bits .and .u64 a1 1) == 1)) := by simpa using c15))
                  clear c15
                  obtain rfl := Option.some.inj H
                  go_enter Try.func8, Try.ntmps8
                  go_wp2_with (first | ((with_reducible refine gate_callee (f := 20) rfl ?_); refine goesL_ (some 12) rfl rfl Try.func20 (by kernel_rfl) rfl #[.slice A0 l0.length c0] rfl (by (try simp only [List.map_toArray, List.map_cons, List.map_nil]); first | done | rfl | (simp only [List.length_drop, List.length_take]; rfl)) ?_; (with_reducible refine (laws_zzFits1.calls k _ _ l0 true _ ?side1 ?side2 A3.out).mono ?_); (case side1 => repeat (first | exact HR0.out | (with_reducible refine Kd.C_alloc ?_ _) | (with_reducible refine Kd.C_drewN ?_ _) | (with_reducible refine Kd.C_drew ?_))); (case side2 => exact HC0.out); rintro e w' ⟨rfl, ⟨nd, rfl⟩⟩; refine ⟨_, rfl, ?_⟩) | ((with_reducible refine gate_callee (f := 21) rfl ?_); refine goesL_ (some 15) rfl rfl Try.func21 (by kernel_rfl) rfl #[.slice A0 l0.length c0] rfl (by (try simp only [List.map_toArray, List.map_cons, List.map_nil]); first | done | rfl | (simp only [List.length_drop, List.length_take]; rfl)) ?_; (with_reducible refine (laws_sjKeys.calls k _ _ l0 true _ ?side1 ?side2 A5.out).mono ?_); (case side1 => repeat (first | exact HR0.out | (with_reducible refine Kd.C_alloc ?_ _) | (with_reducible refine Kd.C_drewN ?_ _) | (with_reducible refine Kd.C_drew ?_))); (case side2 => exact HC0.out); rintro e w' ⟨rfl, ⟨nd, rfl⟩⟩; refine ⟨_, rfl, ?_⟩) | ((with_reducible refine gate_callee (f := 23) rfl ?_); refine goesL_ (some 20) rfl rfl Try.func23 (by kernel_rfl) rfl #[.slice A0 l0.length c0, .int .u64 a1] rfl (by (try simp only [List.map_toArray, List.map_cons, List.map_nil]); first | done | rfl | (simp only [List.length_drop, List.length_take]; rfl)) ?_; (with_reducible refine (spec_ColonPath.calls k _ _ l0 a1 t175 _ ?side1 ?side2 A7.out).mono ?_); (case side1 => repeat (first | exact HR0.out | (with_reducible refine Kd.C_alloc ?_ _) | (with_reducible refine Kd.C_drewN ?_ _) | (with_reducible refine Kd.C_drew ?_))); (case side2 => exact HC0.out); rintro e w34 ⟨rfl, hb⟩; refine ⟨_, rfl, ?_⟩; have n0_ := Aside0.mk (below_step (by repeat (first | (with_reducible first | exact HB.out | apply below_alloc | apply pw_below_drewN | apply below_drew1) | exact HB.out)) hb); clear HB; have HB := n0_; clear n0_; (try clear hb); (try clear hb2); (try clear hk); (try clear hi)) | ((with_reducible refine gate_callee (f := 22) rfl ?_); refine goesL_ (some 21) rfl rfl Try.func22 (by kernel_rfl) rfl #[.string t175] rfl (by (try simp only [List.map_toArray, List.map_cons, List.map_nil]); first | done | rfl | (simp only [List.length_drop, List.length_take]; rfl)) ?_; (with_reducible refine (impl_SjPath.calls k t175 t176 t177 t178 t179 t180 true _ A8.out).mono ?_); rintro e w35 ⟨rfl, hb⟩; refine ⟨_, rfl, ?_⟩; have n0_ := Aside0.mk (below_step (by repeat (first | (with_reducible first | exact HB.out | apply below_alloc | apply pw_below_drewN | apply below_drew1) | exact HB.out)) hb); clear HB; have HB := n0_; clear n0_; (try clear hb); (try clear hb2); (try clear hk); (try clear hi); have p182 : 0 ≤ (0 : Int) := (by omega); have q182 : 0 < (l0.length : Int) := of_decide_eq_true (by first | (with_reducible assumption) | assumption); obtain ⟨ad182, e182, hx182_0⟩ := Kd.at_string HR0.out 0 p182 q182; cases e182; have qi182 : (0 < l0.length) = True := eq_true (by omega); (try rw [show ((0 : Int)).toNat = 0 from rfl] at hx182_0); (try rw [Addr.add_zero'] at hx182_0); replace hx182_0 := (HB.out.cell (World.block_lt_of_cell? w _ hx182_0)).trans hx182_0; replace p182 := eq_true p182; replace q182 := eq_true q182; obtain ⟨i036, hi036, _, hsz36, _⟩ := info_parts info9; obtain ⟨hcut36, hA36, hC36⟩ := print_take_of (P := Try.prog) Value.string (⟨#[]⟩ : ByteArray) 23 9 .i64 Try.underlying23 hi036 hsz36 (some ad182) c0 l0 1 (by omega) (of_decide_eq_true (by first | (with_reducible assumption) | assumption)) HC0.out; have HR183 := Aside0.mk (Kd.C_of_reads (h1 := fun _ => rfl) (hA36 _ (Kd.reads_of_C HR0.out))); have HC183 := Aside0.mk hC36; clear hA36 hC36 hi036 hsz36) | (go_at_call 24; (try rw [← (List.length_take (i := 1) (l := l0))]); (with_reducible refine (spec_PathOf.calls k _ _ (l0.take 1) t184 _ ?side1 ?side2 A13.out).mono ?_); (case side1 => repeat (first | exact (Kd.C_below HR183.out HB.out) | (with_reducible refine Kd.C_alloc ?_ _) | (with_reducible refine Kd.C_drewN ?_ _) | (with_reducible refine Kd.C_drew ?_))); (case side2 => exact HC183.out); rintro e w37 ⟨rfl, hb⟩; have n0_ := Aside0.mk (below_step (by repeat (first | (with_reducible first | exact HB.out | apply below_alloc | apply pw_below_drewN | apply below_drew1) | exact HB.out)) hb); clear HB; have HB := n0_; clear n0_; (try clear hb); (try clear hb2); (try clear hk); (try clear hi)))
                  go_ret
                  exact ⟨by first | rfl | (simp [errW_none, errW_some] <;> rfl) | (simp [*, errW_none, errW_some] <;> rfl), by repeat (first | (with_reducible first | exact HB.out | apply below_alloc | apply pw_below_drewN | apply below_drew1) | exact HB.out)⟩
              · rw [if_neg c14] at H
                have c14b0 : (t177.toList == t184.toList) = false := beq_eq_false_iff_ne.mpr c14
                have c14b1 : (t177.toList != t184.toList) = true := bne_iff_ne.mpr c14
                obtain rfl := Option.some.inj H
                go_enter Try.func8, Try.ntmps8
                go_wp2_with (first | ((with_reducible refine gate_callee (f := 20) rfl ?_); refine goesL_ (some 12) rfl rfl Try.func20 (by kernel_rfl) rfl #[.slice A0 l0.length c0] rfl (by (try simp only [List.map_toArray, List.map_cons, List.map_nil]); first | done | rfl | (simp only [List.length_drop, List.length_take]; rfl)) ?_; (with_reducible refine (laws_zzFits1.calls k _ _ l0 true _ ?side1 ?side2 A3.out).mono ?_); (case side1 => repeat (first | exact HR0.out | (with_reducible refine Kd.C_alloc ?_ _) | (with_reducible refine Kd.C_drewN ?_ _) | (with_reducible refine Kd.C_drew ?_))); (case side2 => exact HC0.out); rintro e w' ⟨rfl, ⟨nd, rfl⟩⟩; refine ⟨_, rfl, ?_⟩) | ((with_reducible refine gate_callee (f := 21) rfl ?_); refine goesL_ (some 15) rfl rfl Try.func21 (by kernel_rfl) rfl #[.slice A0 l0.length c0] rfl (by (try simp only [List.map_toArray, List.map_cons, List.map_nil]); first | done | rfl | (simp only [List.length_drop, List.length_take]; rfl)) ?_; (with_reducible refine (laws_sjKeys.calls k _ _ l0 true _ ?side1 ?side2 A5.out).mono ?_); (case side1 => repeat (first | exact HR0.out | (with_reducible refine Kd.C_alloc ?_ _) | (with_reducible refine Kd.C_drewN ?_ _) | (with_reducible refine Kd.C_drew ?_))); (case side2 => exact HC0.out); rintro e w' ⟨rfl, ⟨nd, rfl⟩⟩; refine ⟨_, rfl, ?_⟩) | ((with_reducible refine gate_callee (f := 23) rfl ?_); refine goesL_ (some 20) rfl rfl Try.func23 (by kernel_rfl) rfl #[.slice A0 l0.length c0, .int .u64 a1] rfl (by (try simp only [List.map_toArray, List.map_cons, List.map_nil]); first | done | rfl | (simp only [List.length_drop, List.length_take]; rfl)) ?_; (with_reducible refine (spec_ColonPath.calls k _ _ l0 a1 t175 _ ?side1 ?side2 A7.out).mono ?_); (case side1 => repeat (first | exact HR0.out | (with_reducible refine Kd.C_alloc ?_ _) | (with_reducible refine Kd.C_drewN ?_ _) | (with_reducible refine Kd.C_drew ?_))); (case side2 => exact HC0.out); rintro e w38 ⟨rfl, hb⟩; refine ⟨_, rfl, ?_⟩; have n0_ := Aside0.mk (below_step (by repeat (first | (with_reducible first | exact HB.out | apply below_alloc | apply pw_below_drewN | apply below_drew1) | exact HB.out)) hb); clear HB; have HB := n0_; clear n0_; (try clear hb); (try clear hb2); (try clear hk); (try clear hi)) | ((with_reducible refine gate_callee (f := 22) rfl ?_); refine goesL_ (some 21) rfl rfl Try.func22 (by kernel_rfl) rfl #[.string t175] rfl (by (try simp only [List.map_toArray, List.map_cons, List.map_nil]); first | done | rfl | (simp only [List.length_drop, List.length_take]; rfl)) ?_; (with_reducible refine (impl_SjPath.calls k t175 t176 t177 t178 t179 t180 true _ A8.out).mono ?_); rintro e w39 ⟨rfl, hb⟩; refine ⟨_, rfl, ?_⟩; have n0_ := Aside0.mk (below_step (by repeat (first | (with_reducible first | exact HB.out | apply below_alloc | apply pw_below_drewN | apply below_drew1) | exact HB.out)) hb); clear HB; have HB := n0_; clear n0_; (try clear hb); (try clear hb2); (try clear hk); (try clear hi); have p182 : 0 ≤ (0 : Int) := (by omega); have q182 : 0 < (l0.length : Int) := of_decide_eq_true (by first | (with_reducible assumption) | assumption); obtain ⟨ad182, e182, hx182_0⟩ := Kd.at_string HR0.out 0 p182 q182; cases e182; have qi182 : (0 < l0.length) = True := eq_true (by omega); (try rw [show ((0 : Int)).toNat = 0 from rfl] at hx182_0); (try rw [Addr.add_zero'] at hx182_0); replace hx182_0 := (HB.out.cell (World.block_lt_of_cell? w _ hx182_0)).trans hx182_0; replace p182 := eq_true p182; replace q182 := eq_true q182; obtain ⟨i040, hi040, _, hsz40, _⟩ := info_parts info9; obtain ⟨hcut40, hA40, hC40⟩ := print_take_of (P := Try.prog) Value.string (⟨#[]⟩ : ByteArray) 23 9 .i64 Try.underlying23 hi040 hsz40 (some ad182) c0 l0 1 (by omega) (of_decide_eq_true (by first | (with_reducible assumption) | assumption)) HC0.out; have HR183 := Aside0.mk (Kd.C_of_reads (h1 := fun _ => rfl) (hA40 _ (Kd.reads_of_C HR0.out))); have HC183 := Aside0.mk hC40; clear hA40 hC40 hi040 hsz40) | (go_at_call 24; (try rw [← (List.length_take (i := 1) (l := l0))]); (with_reducible refine (spec_PathOf.calls k _ _ (l0.take 1) t184 _ ?side1 ?side2 A13.out).mono ?_); (case side1 => repeat (first | exact (Kd.C_below HR183.out HB.out) | (with_reducible refine Kd.C_alloc ?_ _) | (with_reducible refine Kd.C_drewN ?_ _) | (with_reducible refine Kd.C_drew ?_))); (case side2 => exact HC183.out); rintro e w41 ⟨rfl, hb⟩; have n0_ := Aside0.mk (below_step (by repeat (first | (with_reducible first | exact HB.out | apply below_alloc | apply pw_below_drewN | apply below_drew1) | exact HB.out)) hb); clear HB; have HB := n0_; clear n0_; (try clear hb); (try clear hb2); (try clear hk); (try clear hi)))
                go_ret
                exact ⟨by first | rfl | (simp [errW_none, errW_some] <;> rfl) | (simp [*, errW_none, errW_some] <;> rfl), by repeat (first | (with_reducible first | exact HB.out | apply below_alloc | apply pw_below_drewN | apply below_drew1) | exact HB.out)⟩
            · rw [if_neg c12] at H
              exact absurd H (by simp)
          · rw [if_neg c11] at H
            have c11b0 : (t176.toList == (rdOf ByteArray.empty l0 0).toList) = false := beq_eq_false_iff_ne.mpr c11
            have c11b1 : (t176.toList != (rdOf ByteArray.empty l0 0).toList) = true := bne_iff_ne.mpr c11
            obtain rfl := Option.some.inj H
            go_enter Try.func8, Try.ntmps8
            go_wp2_with (first | ((with_reducible refine gate_callee (f := 20) rfl ?_); refine goesL_ (some 12) rfl rfl Try.func20 (by kernel_rfl) rfl #[.slice A0 l0.length c0] rfl (by (try simp only [List.map_toArray, List.map_cons, List.map_nil]); first | done | rfl | (simp only [List.length_drop, List.length_take]; rfl)) ?_; (with_reducible refine (laws_zzFits1.calls k _ _ l0 true _ ?side1 ?side2 A3.out).mono ?_); (case side1 => repeat (first | exact HR0.out | (with_reducible refine Kd.C_alloc ?_ _) | (with_reducible refine Kd.C_drewN ?_ _) | (with_reducible refine Kd.C_drew ?_))); (case side2 => exact HC0.out); rintro e w' ⟨rfl, ⟨nd, rfl⟩⟩; refine ⟨_, rfl, ?_⟩) | ((with_reducible refine gate_callee (f := 21) rfl ?_); refine goesL_ (some 15) rfl rfl Try.func21 (by kernel_rfl) rfl #[.slice A0 l0.length c0] rfl (by (try simp only [List.map_toArray, List.map_cons, List.map_nil]); first | done | rfl | (simp only [List.length_drop, List.length_take]; rfl)) ?_; (with_reducible refine (laws_sjKeys.calls k _ _ l0 true _ ?side1 ?side2 A5.out).mono ?_); (case side1 => repeat (first | exact HR0.out | (with_reducible refine Kd.C_alloc ?_ _) | (with_reducible refine Kd.C_drewN ?_ _) | (with_reducible refine Kd.C_drew ?_))); (case side2 => exact HC0.out); rintro e w' ⟨rfl, ⟨nd, rfl⟩⟩; refine ⟨_, rfl, ?_⟩) | ((with_reducible refine gate_callee (f := 23) rfl ?_); refine goesL_ (some 20) rfl rfl Try.func23 (by kernel_rfl) rfl #[.slice A0 l0.length c0, .int .u64 a1] rfl (by (try simp only [List.map_toArray, List.map_cons, List.map_nil]); first | done | rfl | (simp only [List.length_drop, List.length_take]; rfl)) ?_; (with_reducible refine (spec_ColonPath.calls k _ _ l0 a1 t175 _ ?side1 ?side2 A7.out).mono ?_); (case side1 => repeat (first | exact HR0.out | (with_reducible refine Kd.C_alloc ?_ _) | (with_reducible refine Kd.C_drewN ?_ _) | (with_reducible refine Kd.C_drew ?_))); (case side2 => exact HC0.out); rintro e w42 ⟨rfl, hb⟩; refine ⟨_, rfl, ?_⟩; have n0_ := Aside0.mk (below_step (by repeat (first | (with_reducible first | exact HB.out | apply below_alloc | apply pw_below_drewN | apply below_drew1) | exact HB.out)) hb); clear HB; have HB := n0_; clear n0_; (try clear hb); (try clear hb2); (try clear hk); (try clear hi)) | ((with_reducible refine gate_callee (f := 22) rfl ?_); refine goesL_ (some 21) rfl rfl Try.func22 (by kernel_rfl) rfl #[.string t175] rfl (by (try simp only [List.map_toArray, List.map_cons, List.map_nil]); first | done | rfl | (simp only [List.length_drop, List.length_take]; rfl)) ?_; (with_reducible refine (impl_SjPath.calls k t175 t176 t177 t178 t179 t180 true _ A8.out).mono ?_); rintro e w43 ⟨rfl, hb⟩; refine ⟨_, rfl, ?_⟩; have n0_ := Aside0.mk (below_step (by repeat (first | (with_reducible first | exact HB.out | apply below_alloc | apply pw_below_drewN | apply below_drew1) | exact HB.out)) hb); clear HB; have HB := n0_; clear n0_; (try clear hb); (try clear hb2); (try clear hk); (try clear hi); have p182 : 0 ≤ (0 : Int) := (by omega); have q182 : 0 < (l0.length : Int) := of_decide_eq_true (by first | (with_reducible assumption) | assumption); obtain ⟨ad182, e182, hx182_0⟩ := Kd.at_string HR0.out 0 p182 q182; cases e182; have qi182 : (0 < l0.length) = True := eq_true (by omega); (try rw [show ((0 : Int)).toNat = 0 from rfl] at hx182_0); (try rw [Addr.add_zero'] at hx182_0); replace hx182_0 := (HB.out.cell (World.block_lt_of_cell? w _ hx182_0)).trans hx182_0; replace p182 := eq_true p182; replace q182 := eq_true q182))
            go_ret
            exact ⟨by first | rfl | (simp [errW_none, errW_some] <;> rfl) | (simp [*, errW_none, errW_some] <;> rfl), by repeat (first | (with_reducible first | exact HB.out | apply below_alloc | apply pw_below_drewN | apply below_drew1) | exact HB.out)⟩
        · rw [if_neg c10] at H
          exact absurd H (by simp)
      · replace c9 := Bool.eq_false_iff.mpr c9
        subst c9
        have H1 : (some false) = some r := by rw [if_neg (show ¬ (false = true) by decide)] at H; exact H
        clear H
        have H := H1
        clear H1
        obtain rfl := Option.some.inj H
        go_enter Try.func8, Try.ntmps8
        go_wp2_with (first | ((with_reducible refine gate_callee (f := 20) rfl ?_); refine goesL_ (some 12) rfl rfl Try.func20 (by kernel_rfl) rfl #[.slice A0 l0.length c0] rfl (by (try simp only [List.map_toArray, List.map_cons, List.map_nil]); first | done | rfl | (simp only [List.length_drop, List.length_take]; rfl)) ?_; (with_reducible refine (laws_zzFits1.calls k _ _ l0 true _ ?side1 ?side2 A3.out).mono ?_); (case side1 => repeat (first | exact HR0.out | (with_reducible refine Kd.C_alloc ?_ _) | (with_reducible refine Kd.C_drewN ?_ _) | (with_reducible refine Kd.C_drew ?_))); (case side2 => exact HC0.out); rintro e w' ⟨rfl, ⟨nd, rfl⟩⟩; refine ⟨_, rfl, ?_⟩) | ((with_reducible refine gate_callee (f := 21) rfl ?_); refine goesL_ (some 15) rfl rfl Try.func21 (by kernel_rfl) rfl #[.slice A0 l0.length c0] rfl (by (try simp only [List.map_toArray, List.map_cons, List.map_nil]); first | done | rfl | (simp only [List.length_drop, List.length_take]; rfl)) ?_; (with_reducible refine (laws_sjKeys.calls k _ _ l0 true _ ?side1 ?side2 A5.out).mono ?_); (case side1 => repeat (first | exact HR0.out | (with_reducible refine Kd.C_alloc ?_ _) | (with_reducible refine Kd.C_drewN ?_ _) | (with_reducible refine Kd.C_drew ?_))); (case side2 => exact HC0.out); rintro e w' ⟨rfl, ⟨nd, rfl⟩⟩; refine ⟨_, rfl, ?_⟩) | ((with_reducible refine gate_callee (f := 23) rfl ?_); refine goesL_ (some 20) rfl rfl Try.func23 (by kernel_rfl) rfl #[.slice A0 l0.length c0, .int .u64 a1] rfl (by (try simp only [List.map_toArray, List.map_cons, List.map_nil]); first | done | rfl | (simp only [List.length_drop, List.length_take]; rfl)) ?_; (with_reducible refine (spec_ColonPath.calls k _ _ l0 a1 t175 _ ?side1 ?side2 A7.out).mono ?_); (case side1 => repeat (first | exact HR0.out | (with_reducible refine Kd.C_alloc ?_ _) | (with_reducible refine Kd.C_drewN ?_ _) | (with_reducible refine Kd.C_drew ?_))); (case side2 => exact HC0.out); rintro e w44 ⟨rfl, hb⟩; refine ⟨_, rfl, ?_⟩; have n0_ := Aside0.mk (below_step (by repeat (first | (with_reducible first | exact HB.out | apply below_alloc | apply pw_below_drewN | apply below_drew1) | exact HB.out)) hb); clear HB; have HB := n0_; clear n0_; (try clear hb); (try clear hb2); (try clear hk); (try clear hi)) | ((with_reducible refine gate_callee (f := 22) rfl ?_); refine goesL_ (some 21) rfl rfl Try.func22 (by kernel_rfl) rfl #[.string t175] rfl (by (try simp only [List.map_toArray, List.map_cons, List.map_nil]); first | done | rfl | (simp only [List.length_drop, List.length_take]; rfl)) ?_; (with_reducible refine (impl_SjPath.calls k t175 t176 t177 t178 t179 t180 false _ A8.out).mono ?_); rintro e w45 ⟨rfl, hb⟩; refine ⟨_, rfl, ?_⟩; have n0_ := Aside0.mk (below_step (by repeat (first | (with_reducible first | exact HB.out | apply below_alloc | apply pw_below_drewN | apply below_drew1) | exact HB.out)) hb); clear HB; have HB := n0_; clear n0_; (try clear hb); (try clear hb2); (try clear hk); (try clear hi)))
        go_ret
        exact ⟨by first | rfl | (simp [errW_none, errW_some] <;> rfl) | (simp [*, errW_none, errW_some] <;> rfl), by repeat (first | (with_reducible first | exact HB.out | apply below_alloc | apply pw_below_drewN | apply below_drew1) | exact HB.out)⟩
    · replace c6 := Bool.eq_false_iff.mpr c6
      subst c6
      have H1 : (some true) = some r := by rw [if_neg (show ¬ (false = true) by decide)] at H; exact H
      clear H
      have H := H1
      clear H1
      obtain rfl := Option.some.inj H
      go_enter Try.func8, Try.ntmps8
      go_wp2_with (first | ((with_reducible refine gate_callee (f := 20) rfl ?_); refine goesL_ (some 12) rfl rfl Try.func20 (by kernel_rfl) rfl #[.slice A0 l0.length c0] rfl (by (try simp only [List.map_toArray, List.map_cons, List.map_nil]); first | done | rfl | (simp only [List.length_drop, List.length_take]; rfl)) ?_; (with_reducible refine (laws_zzFits1.calls k _ _ l0 true _ ?side1 ?side2 A3.out).mono ?_); (case side1 => repeat (first | exact HR0.out | (with_reducible refine Kd.C_alloc ?_ _) | (with_reducible refine Kd.C_drewN ?_ _) | (with_reducible refine Kd.C_drew ?_))); (case side2 => exact HC0.out); rintro e w' ⟨rfl, ⟨nd, rfl⟩⟩; refine ⟨_, rfl, ?_⟩) | ((with_reducible refine gate_callee (f := 21) rfl ?_); refine goesL_ (some 15) rfl rfl Try.func21 (by kernel_rfl) rfl #[.slice A0 l0.length c0] rfl (by (try simp only [List.map_toArray, List.map_cons, List.map_nil]); first | done | rfl | (simp only [List.length_drop, List.length_take]; rfl)) ?_; (with_reducible refine (laws_sjKeys.calls k _ _ l0 false _ ?side1 ?side2 A5.out).mono ?_); (case side1 => repeat (first | exact HR0.out | (with_reducible refine Kd.C_alloc ?_ _) | (with_reducible refine Kd.C_drewN ?_ _) | (with_reducible refine Kd.C_drew ?_))); (case side2 => exact HC0.out); rintro e w' ⟨rfl, ⟨nd, rfl⟩⟩; refine ⟨_, rfl, ?_⟩))
      go_ret
      exact ⟨by first | rfl | (simp [errW_none, errW_some] <;> rfl) | (simp [*, errW_none, errW_some] <;> rfl), by repeat (first | (with_reducible first | exact HB.out | apply below_alloc | apply pw_below_drewN | apply below_drew1) | exact HB.out)⟩
  · replace c4 := Bool.eq_false_iff.mpr c4
    subst c4
    have H1 : (some true) = some r := by rw [if_neg (show ¬ (false = true) by decide)] at H; exact H
    clear H
    have H := H1
    clear H1
    obtain rfl := Option.some.inj H
    go_enter Try.func8, Try.ntmps8
    go_wp2_with (first | ((with_reducible refine gate_callee (f := 20) rfl ?_); refine goesL_ (some 12) rfl rfl Try.func20 (by kernel_rfl) rfl #[.slice A0 l0.length c0] rfl (by (try simp only [List.map_toArray, List.map_cons, List.map_nil]); first | done | rfl | (simp only [List.length_drop, List.length_take]; rfl)) ?_; (with_reducible refine (laws_zzFits1.calls k _ _ l0 false _ ?side1 ?side2 A3.out).mono ?_); (case side1 => repeat (first | exact HR0.out | (with_reducible refine Kd.C_alloc ?_ _) | (with_reducible refine Kd.C_drewN ?_ _) | (with_reducible refine Kd.C_drew ?_))); (case side2 => exact HC0.out); rintro e w' ⟨rfl, ⟨nd, rfl⟩⟩; refine ⟨_, rfl, ?_⟩))
    go_ret
    exact ⟨by first | rfl | (simp [errW_none, errW_some] <;> rfl) | (simp [*, errW_none, errW_some] <;> rfl), by repeat (first | (with_reducible first | exact HB.out | apply below_alloc | apply pw_below_drewN | apply below_drew1) | exact HB.out)⟩

/-- THE ONE PURE STATEMENT of laws_FnSjPath: yours. -/
def laws_FnSjPath.Pure : Prop := ∀ (l0 : List ByteArray) (a1 : Int), l0.length ≤ maxLen → l0.length * 16 ≤ 140737488351232 → (∀ x ∈ l0, x.size ≤ maxLen) → (Lit.int .u64 a1).wf = true → ∃ k, laws_FnSjPath.f k l0 a1 = some true
theorem laws_FnSjPath.walk (P : laws_FnSjPath.Pure) (a0 : Option Addr) (len0 cap0 : Nat) (z0 : List ByteArray) (a1 : Int) (w : World) (w0 : IsRowS w a0 len0 cap0 z0) (y0 : len0 * 16 ≤ 140737488351232) (w1 : (Lit.int .u64 a1).wf = true) :
    Calls Try.prog 8 #[.slice a0 len0 cap0, .int .u64 a1] w fun e w' => e = .returned (.bool true) ∧ Below w.heap.size w w' := by
  obtain ⟨l0, rfl, hr0, hm0, hw0, hc0⟩ := ofRowS w0
  obtain ⟨k, h⟩ := P l0 a1 hm0 y0 hw0 w1
  refine (laws_FnSjPath.calls k _ _ l0 a1 true w hr0 hc0 h).mono ?_
  rintro e w' ⟨rfl, hd⟩
  exact ⟨rfl, hd⟩

end Go.Proofs.Ytikdecjojfmjaaa.PFnSjPath
