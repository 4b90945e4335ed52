-- Written for this claim by this session's own program (wip/xprint).
import Derived.Test.YtikdecjojfmjaaaPFnSjPathx0
import Derived.Test.YtikdecjojfmjaaaPFnSjPathx1
namespace Go.Proofs.Ytikdecjojfmjaaa.PFnSjPath
open Go.RowKit Go.Proofs.YtikdecjojfmjaaaW.PrintWords Go.Proofs.YtikdecjojfmjaaaW.PrintLast Go.Proofs.YtikdecjojfmjaaaW.PrintMore
attribute [local go_sem] max2_int min2_int max_two min_two max_three min_three max_four min_four   -- for this text's walks alone
set_option linter.unusedVariables false
set_option linter.unusedSimpArgs false

/-! ### laws_sjKeys: function 21 -/
def laws_sjKeys.l0 : Nat → List ByteArray → Int → List ByteArray → Int → Int → Option (Bool)
  | 0, _, _, _, _, _ => none
  | k + 1, x0, x3, x6, x7, x8 => if x8 < x7 then (if 0 ≤ x8 then (if x8 < (x6.length : Int) then (if (rdOf ByteArray.empty x6 x8).toList = ([] : List UInt8) then (some false) else ((spec_UTF8.f k (rdOf ByteArray.empty x6 x8)).bind fun t108 => (if t108 = true then (if ((rdOf ByteArray.empty x6 x8).size : Int) > 1 then (if 0 < ((rdOf ByteArray.empty x6 x8).size : Int) then (if (bt (rdOf ByteArray.empty x6 x8) 0) = 48 then (if 1 < ((rdOf ByteArray.empty x6 x8).size : Int) then (if 48 ≤ (bt (rdOf ByteArray.empty x6 x8) 1) then (if (bt (rdOf ByteArray.empty x6 x8) 1) ≤ 57 then (some false) else (laws_sjKeys.l0 k x0 (wrap64 (x3 + ((rdOf ByteArray.empty x6 x8).size : Int))) x6 x7 (wrap64 (x8 + 1)))) else (laws_sjKeys.l0 k x0 (wrap64 (x3 + ((rdOf ByteArray.empty x6 x8).size : Int))) x6 x7 (wrap64 (x8 + 1)))) else (none)) else (laws_sjKeys.l0 k x0 (wrap64 (x3 + ((rdOf ByteArray.empty x6 x8).size : Int))) x6 x7 (wrap64 (x8 + 1)))) else (none)) else (laws_sjKeys.l0 k x0 (wrap64 (x3 + ((rdOf ByteArray.empty x6 x8).size : Int))) x6 x7 (wrap64 (x8 + 1)))) else (some false)))) else (none)) else (none)) else (if (x0.length : Int) > 0 then (if (x0.length : Int) ≤ 32 then (some (decide (x3 ≤ 4096))) else (some false)) else (some false))
def laws_sjKeys.f (k : Nat) (l0 : List ByteArray) : Option (Bool) := laws_sjKeys.l0 k l0 0 l0 (l0.length : Int) 0
theorem laws_sjKeys.mono_l : ∀ k, (∀ y0 y1 y2 y3 y4, LeO (laws_sjKeys.l0 k y0 y1 y2 y3 y4) (laws_sjKeys.l0 (k + 1) y0 y1 y2 y3 y4))
  | 0 => fun _ _ _ _ _ r h => by simp [laws_sjKeys.l0] at h
  | k + 1 => by
    have ih0 := laws_sjKeys.mono_l k
    · intro y0 y1 y2 y3 y4
      unfold laws_sjKeys.l0
      repeat' first
      | (with_reducible exact ih0 _ _ _ _ _)
      | (with_reducible exact spec_UTF8.mono _ _)
      | (with_reducible exact LeO.refl _)
      | (with_reducible exact LeO.none _)
      | (with_reducible refine LeO.ite ?_ ?_)
      | (with_reducible refine LeO.bind ?_ (fun _ => ?_))
      | exact ih0 _ _ _ _ _
      | exact spec_UTF8.mono _ _
      | exact LeO.none _
      | refine LeO.ite ?_ ?_
      | refine LeO.bind ?_ (fun _ => ?_)
theorem laws_sjKeys.mono : ∀ a0 k, LeO (laws_sjKeys.f k a0) (laws_sjKeys.f (k + 1) a0) := by
  intro a0 k
  have ih0 := laws_sjKeys.mono_l k
  unfold laws_sjKeys.f
  repeat' first
      | (with_reducible exact ih0 _ _ _ _ _)
      | (with_reducible exact spec_UTF8.mono _ _)
      | (with_reducible exact LeO.refl _)
      | (with_reducible exact LeO.none _)
      | (with_reducible refine LeO.ite ?_ ?_)
      | (with_reducible refine LeO.bind ?_ (fun _ => ?_))
      | exact ih0 _ _ _ _ _
      | exact spec_UTF8.mono _ _
      | exact LeO.none _
      | refine LeO.ite ?_ ?_
      | refine LeO.bind ?_ (fun _ => ?_)
set_option maxHeartbeats 8000000 in
set_option maxRecDepth 100000 in
theorem laws_sjKeys.calls (k : Nat) (A0 : Option Addr) (c0 : Nat) (l0 : List ByteArray) (r : Bool) (w : World) (hr0 : Kd.C Kd.string w A0 l0.length l0) (hc0 : l0.length ≤ c0) (h : laws_sjKeys.f k l0 = some r) :
    Calls Try.prog 21 #[.slice A0 l0.length c0] w fun e w' => e = .returned (.bool r) ∧ Drawn0 w w' := by
  have HR0 := Aside0.mk hr0
  have HC0 := Aside0.mk hc0
  clear hr0 hc0
  have H : (laws_sjKeys.l0 k l0 0 l0 (l0.length : Int) 0) = some r := h
  clear h
  have H' := Aside0.mk H
  clear H
  go_enter Try.func21, Try.ntmps21
  go_wp2
  (try simp only [Act.put, List.setIfInBounds_toArray, List.set_cons_zero, List.set_cons_succ])
  go_loopg [3, 8] k (fun kq v3 v8 w' => ∃ (x3_1 : Int) (x8_1 : Int), v3 = .int .i64 x3_1 ∧ v8 = .int .i64 x8_1 ∧ Aside0 (laws_sjKeys.l0 kq l0 x3_1 l0 (l0.length : Int) x8_1 = some r) ∧ Aside0 (kq ≤ k) ∧ Drawn0 w w')
  case atStart => exact ⟨(0), (0), (by first | rfl | (simp; done) | (simp [*]; done)), (by first | rfl | (simp; done) | (simp [*]; done)), H', ⟨Nat.le_refl _⟩, by repeat (first | exact Drawn0.refl _ | apply Drawn0.step)⟩
  case round =>
    clear H'
    obtain ⟨x3_1, x8_1, rfl, rfl, HA, HK1, ⟨m1, rfl⟩⟩ := hrel
    cases gk with
    | zero => exact absurd HA.out (by simp [laws_sjKeys.l0])
    | succ k1 =>
      have H := HA.out
      clear HA
      simp only [laws_sjKeys.l0] at H
      by_cases c2 : x8_1 < (l0.length : Int)
      · rw [if_pos c2] at H
        have c2b0 : decide (x8_1 < (l0.length : Int)) = true := decide_eq_true c2
        clear c2
        by_cases c3 : 0 ≤ x8_1
        · rw [if_pos c3] at H
          have c3b0 : decide (0 ≤ x8_1) = true := decide_eq_true c3
          clear c3
          by_cases c4 : x8_1 < (l0.length : Int)
          · rw [if_pos c4] at H
            have c4b0 : decide (x8_1 < (l0.length : Int)) = true := decide_eq_true c4
            clear c4
            by_cases c5 : (rdOf ByteArray.empty l0 x8_1).toList = ([] : List UInt8)
            · rw [if_pos c5] at H
              have c5b0 : ((rdOf ByteArray.empty l0 x8_1).toList == ([] : List UInt8)) = true := beq_iff_eq.mpr c5
              have c5b1 : ((rdOf ByteArray.empty l0 x8_1).toList != ([] : List UInt8)) = false := bne_eq_false_iff_eq.mpr c5
              clear c5
              obtain rfl := Option.some.inj H
              have p107 : 0 ≤ (x8_1 : Int) := of_decide_eq_true (by first | (with_reducible assumption) | assumption)
              have q107 : x8_1 < (l0.length : Int) := of_decide_eq_true (by first | (with_reducible assumption) | assumption)
              obtain ⟨ad107, e107, hx107_0⟩ := Kd.at_string HR0.out x8_1 p107 q107
              cases e107
              replace p107 := eq_true p107
              replace q107 := eq_true q107
              go_wp2
              go_ret
              exact ⟨by first | rfl | (simp; done) | (simp [*]; done), by repeat (first | exact Drawn0.refl _ | apply Drawn0.step)⟩
            · rw [if_neg c5] at H
              have c5b0 : ((rdOf ByteArray.empty l0 x8_1).toList == ([] : List UInt8)) = false := beq_eq_false_iff_ne.mpr c5
              have c5b1 : ((rdOf ByteArray.empty l0 x8_1).toList != ([] : List UInt8)) = true := bne_iff_ne.mpr c5
              replace H := Option.bind_eq_some_iff.mp H
              obtain ⟨t108, A60, H⟩ := H
              replace H : (if t108 = true then (if ((rdOf ByteArray.empty l0 x8_1).size : Int) > 1 then (if 0 < ((rdOf ByteArray.empty l0 x8_1).size : Int) then (if (bt (rdOf ByteArray.empty l0 x8_1) 0) = 48 then (if 1 < ((rdOf ByteArray.empty l0 x8_1).size : Int) then (if 48 ≤ (bt (rdOf ByteArray.empty l0 x8_1) 1) then (if (bt (rdOf ByteArray.empty l0 x8_1) 1) ≤ 57 then (some false) else (laws_sjKeys.l0 k1 l0 (wrap64 (x3_1 + ((rdOf ByteArray.empty l0 x8_1).size : Int))) l0 (l0.length : Int) (wrap64 (x8_1 + 1)))) else (laws_sjKeys.l0 k1 l0 (wrap64 (x3_1 + ((rdOf ByteArray.empty l0 x8_1).size : Int))) l0 (l0.length : Int) (wrap64 (x8_1 + 1)))) else (none)) else (laws_sjKeys.l0 k1 l0 (wrap64 (x3_1 + ((rdOf ByteArray.empty l0 x8_1).size : Int))) l0 (l0.length : Int) (wrap64 (x8_1 + 1)))) else (none)) else (laws_sjKeys.l0 k1 l0 (wrap64 (x3_1 + ((rdOf ByteArray.empty l0 x8_1).size : Int))) l0 (l0.length : Int) (wrap64 (x8_1 + 1)))) else (some false)) = some r := H
              have A6 := Aside0.mk A60
              clear A60
              by_cases c7 : t108 = true
              · subst c7
                have H1 : (if ((rdOf ByteArray.empty l0 x8_1).size : Int) > 1 then (if 0 < ((rdOf ByteArray.empty l0 x8_1).size : Int) then (if (bt (rdOf ByteArray.empty l0 x8_1) 0) = 48 then (if 1 < ((rdOf ByteArray.empty l0 x8_1).size : Int) then (if 48 ≤ (bt (rdOf ByteArray.empty l0 x8_1) 1) then (if (bt (rdOf ByteArray.empty l0 x8_1) 1) ≤ 57 then (some false) else (laws_sjKeys.l0 k1 l0 (wrap64 (x3_1 + ((rdOf ByteArray.empty l0 x8_1).size : Int))) l0 (l0.length : Int) (wrap64 (x8_1 + 1)))) else (laws_sjKeys.l0 k1 l0 (wrap64 (x3_1 + ((rdOf ByteArray.empty l0 x8_1).size : Int))) l0 (l0.length : Int) (wrap64 (x8_1 + 1)))) else (none)) else (laws_sjKeys.l0 k1 l0 (wrap64 (x3_1 + ((rdOf ByteArray.empty l0 x8_1).size : Int))) l0 (l0.length : Int) (wrap64 (x8_1 + 1)))) else (none)) else (laws_sjKeys.l0 k1 l0 (wrap64 (x3_1 + ((rdOf ByteArray.empty l0 x8_1).size : Int))) l0 (l0.length : Int) (wrap64 (x8_1 + 1)))) = some r := by rw [if_pos rfl] at H; exact H
                clear H
                have H := H1
                clear H1
                by_cases c8 : ((rdOf ByteArray.empty l0 x8_1).size : Int) > 1
                · rw [if_pos c8] at H
                  have c8b0 : decide (1 < ((rdOf ByteArray.empty l0 x8_1).size : Int)) = true := decide_eq_true c8
                  have c8b1 : decide (1 < (rdOf ByteArray.empty l0 x8_1).size) = true := decide_eq_true (by omega)
                  clear c8
                  by_cases c9 : 0 < ((rdOf ByteArray.empty l0 x8_1).size : Int)
                  · rw [if_pos c9] at H
                    have c9b0 : decide (0 < ((rdOf ByteArray.empty l0 x8_1).size : Int)) = true := decide_eq_true c9
                    have c9b1 : decide (0 < (rdOf ByteArray.empty l0 x8_1).size) = true := decide_eq_true (by omega)
                    clear c9
                    by_cases c11 : (bt (rdOf ByteArray.empty l0 x8_1) 0) = 48
                    · rw [if_pos c11] at H
                      have c11b0 : ((bt (rdOf ByteArray.empty l0 x8_1) 0) == 48) = true := beq_iff_eq.mpr c11
                      have c11b1 : ((bt (rdOf ByteArray.empty l0 x8_1) 0) != 48) = false := bne_eq_false_iff_eq.mpr c11
                      clear c11
                      by_cases c12 : 1 < ((rdOf ByteArray.empty l0 x8_1).size : Int)
                      · rw [if_pos c12] at H
                        have c12b0 : decide (1 < ((rdOf ByteArray.empty l0 x8_1).size : Int)) = true := decide_eq_true c12
                        have c12b1 : decide (1 < (rdOf ByteArray.empty l0 x8_1).size) = true := decide_eq_true (by omega)
                        clear c12
                        by_cases c14 : 48 ≤ (bt (rdOf ByteArray.empty l0 x8_1) 1)
                        · rw [if_pos c14] at H
                          have c14b0 : decide (48 ≤ (bt (rdOf ByteArray.empty l0 x8_1) 1)) = true := decide_eq_true c14
                          clear c14
                          by_cases c16 : (bt (rdOf ByteArray.empty l0 x8_1) 1) ≤ 57
                          · rw [if_pos c16] at H
                            have c16b0 : decide ((bt (rdOf ByteArray.empty l0 x8_1) 1) ≤ 57) = true := decide_eq_true c16
                            clear c16
                            obtain rfl := Option.some.inj H
                            have p107 : 0 ≤ (x8_1 : Int) := of_decide_eq_true (by first | (with_reducible assumption) | assumption)
                            have q107 : x8_1 < (l0.length : Int) := of_decide_eq_true (by first | (with_reducible assumption) | assumption)
                            obtain ⟨ad107, e107, hx107_0⟩ := Kd.at_string HR0.out x8_1 p107 q107
                            cases e107
                            replace p107 := eq_true p107
                            replace q107 := eq_true q107
                            go_wp2_with (first | (go_at_call 34; (with_reducible refine (spec_UTF8.calls k1 (rdOf ByteArray.empty l0 x8_1) true _ A6.out).mono ?_); rintro e w' ⟨rfl, ⟨nd, rfl⟩⟩; have p10 : 0 ≤ (0 : Int) := (by omega); have q10 : 0 < (rdOf ByteArray.empty l0 x8_1).size := (by have : (0 : Int) < ((rdOf ByteArray.empty l0 x8_1).size : Int) := of_decide_eq_true (by first | (with_reducible assumption) | assumption); omega); have hx10 : ∀ h : 0 < (rdOf ByteArray.empty l0 x8_1).size, (((rdOf ByteArray.empty l0 x8_1)[0]'h).toNat : Int) = bt (rdOf ByteArray.empty l0 x8_1) 0 := bt_at (rdOf ByteArray.empty l0 x8_1) 0; clear p10; have qi10 : (0 < ((rdOf ByteArray.empty l0 x8_1).size : Int)) = True := eq_true (of_decide_eq_true (by first | (with_reducible assumption) | assumption)); replace q10 := eq_true q10; have p13 : 0 ≤ (1 : Int) := (by omega); have q13 : 1 < (rdOf ByteArray.empty l0 x8_1).size := (by have : (1 : Int) < ((rdOf ByteArray.empty l0 x8_1).size : Int) := of_decide_eq_true (by first | (with_reducible assumption) | assumption); omega); have hx13 : ∀ h : 1 < (rdOf ByteArray.empty l0 x8_1).size, (((rdOf ByteArray.empty l0 x8_1)[1]'h).toNat : Int) = bt (rdOf ByteArray.empty l0 x8_1) 1 := bt_at (rdOf ByteArray.empty l0 x8_1) 1; clear p13; have qi13 : (1 < ((rdOf ByteArray.empty l0 x8_1).size : Int)) = True := eq_true (of_decide_eq_true (by first | (with_reducible assumption) | assumption)); replace q13 := eq_true q13; have p15 : 0 ≤ (1 : Int) := (by omega); have q15 : 1 < (rdOf ByteArray.empty l0 x8_1).size := (by have : (1 : Int) < ((rdOf ByteArray.empty l0 x8_1).size : Int) := of_decide_eq_true (by first | (with_reducible assumption) | assumption); omega); have hx15 : ∀ h : 1 < (rdOf ByteArray.empty l0 x8_1).size, (((rdOf ByteArray.empty l0 x8_1)[1]'h).toNat : Int) = bt (rdOf ByteArray.empty l0 x8_1) 1 := bt_at (rdOf ByteArray.empty l0 x8_1) 1; clear p15; have qi15 : (1 < ((rdOf ByteArray.empty l0 x8_1).size : Int)) = True := eq_true (of_decide_eq_true (by first | (with_reducible assumption) | assumption)); replace q15 := eq_true q15))
                            go_ret
                            exact ⟨by first | rfl | (simp; done) | (simp [*]; done), by repeat (first | exact Drawn0.refl _ | apply Drawn0.step)⟩
                          · rw [if_neg c16] at H
                            have c16b0 : decide ((bt (rdOf ByteArray.empty l0 x8_1) 1) ≤ 57) = false := decide_eq_false c16
                            clear c16
                            have H' := Aside0.mk H
                            clear H
                            have p107 : 0 ≤ (x8_1 : Int) := of_decide_eq_true (by first | (with_reducible assumption) | assumption)
                            have q107 : x8_1 < (l0.length : Int) := of_decide_eq_true (by first | (with_reducible assumption) | assumption)
                            obtain ⟨ad107, e107, hx107_0⟩ := Kd.at_string HR0.out x8_1 p107 q107
                            cases e107
                            replace p107 := eq_true p107
                            replace q107 := eq_true q107
                            go_wp2_with (first | (go_at_call 34; (with_reducible refine (spec_UTF8.calls k1 (rdOf ByteArray.empty l0 x8_1) true _ A6.out).mono ?_); rintro e w' ⟨rfl, ⟨nd, rfl⟩⟩; have p10 : 0 ≤ (0 : Int) := (by omega); have q10 : 0 < (rdOf ByteArray.empty l0 x8_1).size := (by have : (0 : Int) < ((rdOf ByteArray.empty l0 x8_1).size : Int) := of_decide_eq_true (by first | (with_reducible assumption) | assumption); omega); have hx10 : ∀ h : 0 < (rdOf ByteArray.empty l0 x8_1).size, (((rdOf ByteArray.empty l0 x8_1)[0]'h).toNat : Int) = bt (rdOf ByteArray.empty l0 x8_1) 0 := bt_at (rdOf ByteArray.empty l0 x8_1) 0; clear p10; have qi10 : (0 < ((rdOf ByteArray.empty l0 x8_1).size : Int)) = True := eq_true (of_decide_eq_true (by first | (with_reducible assumption) | assumption)); replace q10 := eq_true q10; have p13 : 0 ≤ (1 : Int) := (by omega); have q13 : 1 < (rdOf ByteArray.empty l0 x8_1).size := (by have : (1 : Int) < ((rdOf ByteArray.empty l0 x8_1).size : Int) := of_decide_eq_true (by first | (with_reducible assumption) | assumption); omega); have hx13 : ∀ h : 1 < (rdOf ByteArray.empty l0 x8_1).size, (((rdOf ByteArray.empty l0 x8_1)[1]'h).toNat : Int) = bt (rdOf ByteArray.empty l0 x8_1) 1 := bt_at (rdOf ByteArray.empty l0 x8_1) 1; clear p13; have qi13 : (1 < ((rdOf ByteArray.empty l0 x8_1).size : Int)) = True := eq_true (of_decide_eq_true (by first | (with_reducible assumption) | assumption)); replace q13 := eq_true q13; have p15 : 0 ≤ (1 : Int) := (by omega); have q15 : 1 < (rdOf ByteArray.empty l0 x8_1).size := (by have : (1 : Int) < ((rdOf ByteArray.empty l0 x8_1).size : Int) := of_decide_eq_true (by first | (with_reducible assumption) | assumption); omega); have hx15 : ∀ h : 1 < (rdOf ByteArray.empty l0 x8_1).size, (((rdOf ByteArray.empty l0 x8_1)[1]'h).toNat : Int) = bt (rdOf ByteArray.empty l0 x8_1) 1 := bt_at (rdOf ByteArray.empty l0 x8_1) 1; clear p15; have qi15 : (1 < ((rdOf ByteArray.empty l0 x8_1).size : Int)) = True := eq_true (of_decide_eq_true (by first | (with_reducible assumption) | assumption)); replace q15 := eq_true q15))
                            go_roundg k1
                            case measure => have := HK1.out; omega
                            case rel => exact ⟨(wrap64 (x3_1 + ((rdOf ByteArray.empty l0 x8_1).size : Int))), (wrap64 (x8_1 + 1)), (by first | rfl | (simp; done) | (simp [*]; done)), (by first | rfl | (simp; done) | (simp [*]; done)), H', ⟨by have := HK1.out; omega⟩, by repeat (first | exact Drawn0.refl _ | apply Drawn0.step)⟩
                        · rw [if_neg c14] at H
                          have c14b0 : decide (48 ≤ (bt (rdOf ByteArray.empty l0 x8_1) 1)) = false := decide_eq_false c14
                          clear c14
                          have H' := Aside0.mk H
                          clear H
                          have p107 : 0 ≤ (x8_1 : Int) := of_decide_eq_true (by first | (with_reducible assumption) | assumption)
                          have q107 : x8_1 < (l0.length : Int) := of_decide_eq_true (by first | (with_reducible assumption) | assumption)
                          obtain ⟨ad107, e107, hx107_0⟩ := Kd.at_string HR0.out x8_1 p107 q107
                          cases e107
                          replace p107 := eq_true p107
                          replace q107 := eq_true q107
                          go_wp2_with (first | (go_at_call 34; (with_reducible refine (spec_UTF8.calls k1 (rdOf ByteArray.empty l0 x8_1) true _ A6.out).mono ?_); rintro e w' ⟨rfl, ⟨nd, rfl⟩⟩; have p10 : 0 ≤ (0 : Int) := (by omega); have q10 : 0 < (rdOf ByteArray.empty l0 x8_1).size := (by have : (0 : Int) < ((rdOf ByteArray.empty l0 x8_1).size : Int) := of_decide_eq_true (by first | (with_reducible assumption) | assumption); omega); have hx10 : ∀ h : 0 < (rdOf ByteArray.empty l0 x8_1).size, (((rdOf ByteArray.empty l0 x8_1)[0]'h).toNat : Int) = bt (rdOf ByteArray.empty l0 x8_1) 0 := bt_at (rdOf ByteArray.empty l0 x8_1) 0; clear p10; have qi10 : (0 < ((rdOf ByteArray.empty l0 x8_1).size : Int)) = True := eq_true (of_decide_eq_true (by first | (with_reducible assumption) | assumption)); replace q10 := eq_true q10; have p13 : 0 ≤ (1 : Int) := (by omega); have q13 : 1 < (rdOf ByteArray.empty l0 x8_1).size := (by have : (1 : Int) < ((rdOf ByteArray.empty l0 x8_1).size : Int) := of_decide_eq_true (by first | (with_reducible assumption) | assumption); omega); have hx13 : ∀ h : 1 < (rdOf ByteArray.empty l0 x8_1).size, (((rdOf ByteArray.empty l0 x8_1)[1]'h).toNat : Int) = bt (rdOf ByteArray.empty l0 x8_1) 1 := bt_at (rdOf ByteArray.empty l0 x8_1) 1; clear p13; have qi13 : (1 < ((rdOf ByteArray.empty l0 x8_1).size : Int)) = True := eq_true (of_decide_eq_true (by first | (with_reducible assumption) | assumption)); replace q13 := eq_true q13))
                          go_roundg k1
                          case measure => have := HK1.out; omega
                          case rel => exact ⟨(wrap64 (x3_1 + ((rdOf ByteArray.empty l0 x8_1).size : Int))), (wrap64 (x8_1 + 1)), (by first | rfl | (simp; done) | (simp [*]; done)), (by first | rfl | (simp; done) | (simp [*]; done)), H', ⟨by have := HK1.out; omega⟩, by repeat (first | exact Drawn0.refl _ | apply Drawn0.step)⟩
                      · rw [if_neg c12] at H
                        exact absurd H (by simp)
                    · rw [if_neg c11] at H
                      have c11b0 : ((bt (rdOf ByteArray.empty l0 x8_1) 0) == 48) = false := beq_eq_false_iff_ne.mpr c11
                      have c11b1 : ((bt (rdOf ByteArray.empty l0 x8_1) 0) != 48) = true := bne_iff_ne.mpr c11
                      have H' := Aside0.mk H
                      clear H
                      have p107 : 0 ≤ (x8_1 : Int) := of_decide_eq_true (by first | (with_reducible assumption) | assumption)
                      have q107 : x8_1 < (l0.length : Int) := of_decide_eq_true (by first | (with_reducible assumption) | assumption)
                      obtain ⟨ad107, e107, hx107_0⟩ := Kd.at_string HR0.out x8_1 p107 q107
                      cases e107
                      replace p107 := eq_true p107
                      replace q107 := eq_true q107
                      go_wp2_with (first | (go_at_call 34; (with_reducible refine (spec_UTF8.calls k1 (rdOf ByteArray.empty l0 x8_1) true _ A6.out).mono ?_); rintro e w' ⟨rfl, ⟨nd, rfl⟩⟩; have p10 : 0 ≤ (0 : Int) := (by omega); have q10 : 0 < (rdOf ByteArray.empty l0 x8_1).size := (by have : (0 : Int) < ((rdOf ByteArray.empty l0 x8_1).size : Int) := of_decide_eq_true (by first | (with_reducible assumption) | assumption); omega); have hx10 : ∀ h : 0 < (rdOf ByteArray.empty l0 x8_1).size, (((rdOf ByteArray.empty l0 x8_1)[0]'h).toNat : Int) = bt (rdOf ByteArray.empty l0 x8_1) 0 := bt_at (rdOf ByteArray.empty l0 x8_1) 0; clear p10; have qi10 : (0 < ((rdOf ByteArray.empty l0 x8_1).size : Int)) = True := eq_true (of_decide_eq_true (by first | (with_reducible assumption) | assumption)); replace q10 := eq_true q10))
                      go_roundg k1
                      case measure => have := HK1.out; omega
                      case rel => exact ⟨(wrap64 (x3_1 + ((rdOf ByteArray.empty l0 x8_1).size : Int))), (wrap64 (x8_1 + 1)), (by first | rfl | (simp; done) | (simp [*]; done)), (by first | rfl | (simp; done) | (simp [*]; done)), H', ⟨by have := HK1.out; omega⟩, by repeat (first | exact Drawn0.refl _ | apply Drawn0.step)⟩
                  · rw [if_neg c9] at H
                    exact absurd H (by simp)
                · rw [if_neg c8] at H
                  have c8b0 : decide (1 < ((rdOf ByteArray.empty l0 x8_1).size : Int)) = false := decide_eq_false c8
                  have c8b1 : decide (1 < (rdOf ByteArray.empty l0 x8_1).size) = false := decide_eq_false (by omega)
                  clear c8
                  have H' := Aside0.mk H
                  clear H
                  have p107 : 0 ≤ (x8_1 : Int) := of_decide_eq_true (by first | (with_reducible assumption) | assumption)
                  have q107 : x8_1 < (l0.length : Int) := of_decide_eq_true (by first | (with_reducible assumption) | assumption)
                  obtain ⟨ad107, e107, hx107_0⟩ := Kd.at_string HR0.out x8_1 p107 q107
                  cases e107
                  replace p107 := eq_true p107
                  replace q107 := eq_true q107
                  go_wp2_with (first | (go_at_call 34; (with_reducible refine (spec_UTF8.calls k1 (rdOf ByteArray.empty l0 x8_1) true _ A6.out).mono ?_); rintro e w' ⟨rfl, ⟨nd, rfl⟩⟩))
                  go_roundg k1
                  case measure => have := HK1.out; omega
                  case rel => exact ⟨(wrap64 (x3_1 + ((rdOf ByteArray.empty l0 x8_1).size : Int))), (wrap64 (x8_1 + 1)), (by first | rfl | (simp; done) | (simp [*]; done)), (by first | rfl | (simp; done) | (simp [*]; done)), H', ⟨by have := HK1.out; omega⟩, by repeat (first | exact Drawn0.refl _ | apply Drawn0.step)⟩
              · replace c7 := Bool.eq_false_iff.mpr c7
                subst c7
                have H1 : (some false) = some r := by rw [if_neg (show ¬ (false = true) by decide)] at H; exact H
                clear H
                have H := H1
                clear H1
                obtain rfl := Option.some.inj H
                have p107 : 0 ≤ (x8_1 : Int) := of_decide_eq_true (by first | (with_reducible assumption) | assumption)
                have q107 : x8_1 < (l0.length : Int) := of_decide_eq_true (by first | (with_reducible assumption) | assumption)
                obtain ⟨ad107, e107, hx107_0⟩ := Kd.at_string HR0.out x8_1 p107 q107
                cases e107
                replace p107 := eq_true p107
                replace q107 := eq_true q107
                go_wp2_with (first | (go_at_call 34; (with_reducible refine (spec_UTF8.calls k1 (rdOf ByteArray.empty l0 x8_1) false _ A6.out).mono ?_); rintro e w' ⟨rfl, ⟨nd, rfl⟩⟩))
                go_ret
                exact ⟨by first | rfl | (simp; done) | (simp [*]; done), by repeat (first | exact Drawn0.refl _ | apply Drawn0.step)⟩
          · rw [if_neg c4] at H
            exact absurd H (by simp)
        · rw [if_neg c3] at H
          exact absurd H (by simp)
      · rw [if_neg c2] at H
        have c2b0 : decide (x8_1 < (l0.length : Int)) = false := decide_eq_false c2
        clear c2
        by_cases c17 : (l0.length : Int) > 0
        · rw [if_pos c17] at H
          have c17b0 : decide (0 < (l0.length : Int)) = true := decide_eq_true c17
          have c17b1 : decide (0 < l0.length) = true := decide_eq_true (by omega)
          clear c17
          by_cases c18 : (l0.length : Int) ≤ 32
          · rw [if_pos c18] at H
            have c18b0 : decide ((l0.length : Int) ≤ 32) = true := decide_eq_true c18
            have c18b1 : decide (l0.length ≤ 32) = true := decide_eq_true (by omega)
            clear c18
            obtain rfl := Option.some.inj H
            go_wp2
            go_ret
            exact ⟨by first | rfl | (simp; done) | (simp [*]; done), by repeat (first | exact Drawn0.refl _ | apply Drawn0.step)⟩
          · rw [if_neg c18] at H
            have c18b0 : decide ((l0.length : Int) ≤ 32) = false := decide_eq_false c18
            have c18b1 : decide (l0.length ≤ 32) = false := decide_eq_false (by omega)
            clear c18
            obtain rfl := Option.some.inj H
            go_wp2
            go_ret
            exact ⟨by first | rfl | (simp; done) | (simp [*]; done), by repeat (first | exact Drawn0.refl _ | apply Drawn0.step)⟩
        · rw [if_neg c17] at H
          have c17b0 : decide (0 < (l0.length : Int)) = false := decide_eq_false c17
          have c17b1 : decide (0 < l0.length) = false := decide_eq_false (by omega)
          clear c17
          obtain rfl := Option.some.inj H
          go_wp2
          go_ret
          exact ⟨by first | rfl | (simp; done) | (simp [*]; done), by repeat (first | exact Drawn0.refl _ | apply Drawn0.step)⟩

/-! ### sjson_isSimpleChar: function 61 -/
def sjson_isSimpleChar.f (a0 : Int) : Option (Bool) := if a0 = 124 then (some false) else (if a0 = 35 then (some false) else (if a0 = 64 then (some false) else (if a0 = 42 then (some false) else (if a0 = 63 then (some false) else (some true)))))
set_option maxHeartbeats 8000000 in
set_option maxRecDepth 100000 in
theorem sjson_isSimpleChar.calls (a0 : Int) (r : Bool) (w : World) (h : sjson_isSimpleChar.f a0 = some r) :
    Calls Try.prog 61 #[.int .u8 a0] w fun e w' => e = .returned (.bool r) ∧ Drawn0 w w' := by
  have H : (if a0 = 124 then (some false) else (if a0 = 35 then (some false) else (if a0 = 64 then (some false) else (if a0 = 42 then (some false) else (if a0 = 63 then (some false) else (some true)))))) = some r := h
  clear h
  by_cases c2 : a0 = 124
  · rw [if_pos c2] at H
    have c2b0 : (a0 == 124) = true := beq_iff_eq.mpr c2
    have c2b1 : (a0 != 124) = false := bne_eq_false_iff_eq.mpr c2
    clear c2
    obtain rfl := Option.some.inj H
    go_enter Try.func61, Try.ntmps61
    go_wp2
    go_ret
    exact ⟨by first | rfl | (simp; done) | (simp [*]; done), by repeat (first | exact Drawn0.refl _ | apply Drawn0.step)⟩
  · rw [if_neg c2] at H
    have c2b0 : (a0 == 124) = false := beq_eq_false_iff_ne.mpr c2
    have c2b1 : (a0 != 124) = true := bne_iff_ne.mpr c2
    by_cases c3 : a0 = 35
    · rw [if_pos c3] at H
      have c3b0 : (a0 == 35) = true := beq_iff_eq.mpr c3
      have c3b1 : (a0 != 35) = false := bne_eq_false_iff_eq.mpr c3
      clear c3
      obtain rfl := Option.some.inj H
      go_enter Try.func61, Try.ntmps61
      go_wp2
      go_ret
      exact ⟨by first | rfl | (simp; done) | (simp [*]; done), by repeat (first | exact Drawn0.refl _ | apply Drawn0.step)⟩
    · rw [if_neg c3] at H
      have c3b0 : (a0 == 35) = false := beq_eq_false_iff_ne.mpr c3
      have c3b1 : (a0 != 35) = true := bne_iff_ne.mpr c3
      by_cases c4 : a0 = 64
      · rw [if_pos c4] at H
        have c4b0 : (a0 == 64) = true := beq_iff_eq.mpr c4
        have c4b1 : (a0 != 64) = false := bne_eq_false_iff_eq.mpr c4
        clear c4
        obtain rfl := Option.some.inj H
        go_enter Try.func61, Try.ntmps61
        go_wp2
        go_ret
        exact ⟨by first | rfl | (simp; done) | (simp [*]; done), by repeat (first | exact Drawn0.refl _ | apply Drawn0.step)⟩
      · rw [if_neg c4] at H
        have c4b0 : (a0 == 64) = false := beq_eq_false_iff_ne.mpr c4
        have c4b1 : (a0 != 64) = true := bne_iff_ne.mpr c4
        by_cases c5 : a0 = 42
        · rw [if_pos c5] at H
          have c5b0 : (a0 == 42) = true := beq_iff_eq.mpr c5
          have c5b1 : (a0 != 42) = false := bne_eq_false_iff_eq.mpr c5
          clear c5
          obtain rfl := Option.some.inj H
          go_enter Try.func61, Try.ntmps61
          go_wp2
          go_ret
          exact ⟨by first | rfl | (simp; done) | (simp [*]; done), by repeat (first | exact Drawn0.refl _ | apply Drawn0.step)⟩
        · rw [if_neg c5] at H
          have c5b0 : (a0 == 42) = false := beq_eq_false_iff_ne.mpr c5
          have c5b1 : (a0 != 42) = true := bne_iff_ne.mpr c5
          by_cases c6 : a0 = 63
          · rw [if_pos c6] at H
            have c6b0 : (a0 == 63) = true := beq_iff_eq.mpr c6
            have c6b1 : (a0 != 63) = false := bne_eq_false_iff_eq.mpr c6
            clear c6
            obtain rfl := Option.some.inj H
            go_enter Try.func61, Try.ntmps61
            go_wp2
            go_ret
            exact ⟨by first | rfl | (simp; done) | (simp [*]; done), by repeat (first | exact Drawn0.refl _ | apply Drawn0.step)⟩
          · rw [if_neg c6] at H
            have c6b0 : (a0 == 63) = false := beq_eq_false_iff_ne.mpr c6
            have c6b1 : (a0 != 63) = true := bne_iff_ne.mpr c6
            obtain rfl := Option.some.inj H
            go_enter Try.func61, Try.ntmps61
            go_wp2
            go_ret
            exact ⟨by first | rfl | (simp; done) | (simp [*]; done), by repeat (first | exact Drawn0.refl _ | apply Drawn0.step)⟩

end Go.Proofs.Ytikdecjojfmjaaa.PFnSjPath
