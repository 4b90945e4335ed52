-- PRINTED BY print.sh 35421559b90ae4d0a3588c463048766b98c2df88dd9212a6774a882060cdf62d: not written by this session
import Derived.Test.YtikdecjojfmjaaaPFnGjSquashAnyx0
import Derived.Test.YtikdecjojfmjaaaPFnGjSquashAnyx1
namespace Go.Proofs.Ytikdecjojfmjaaa.PFnGjSquashAny
open Go.RowKit Go.Proofs.YtikdecjojfmjaaaW.PrintWords Go.Proofs.YtikdecjojfmjaaaW.PrintLast Go.Proofs.YtikdecjojfmjaaaW.PrintMore
attribute [local go_sem] max2_int min2_int max_two min_two max_three min_three max_four min_four   -- for this text's walks alone
set_option linter.unusedVariables false
set_option linter.unusedSimpArgs false

/-! ### gjson_DoorSquash: function 30 -/
def gjson_DoorSquash.f (k : Nat) (a0 : ByteArray) : Option (ByteArray) := (gjson_squash.f k a0).bind fun t101 => (some t101)
theorem gjson_DoorSquash.mono : ∀ a0 k, LeO (gjson_DoorSquash.f k a0) (gjson_DoorSquash.f (k + 1) a0) := by
  intro a0 k
  unfold gjson_DoorSquash.f
  repeat' first
      | (with_reducible exact gjson_squash.mono _ _)
      | (with_reducible exact LeO.refl _)
      | (with_reducible exact LeO.none _)
      | (with_reducible refine LeO.ite ?_ ?_)
      | (with_reducible refine LeO.bind ?_ (fun _ => ?_))
      | exact gjson_squash.mono _ _
      | exact LeO.none _
      | refine LeO.ite ?_ ?_
      | refine LeO.bind ?_ (fun _ => ?_)
set_option maxHeartbeats 8000000 in
set_option maxRecDepth 100000 in
theorem gjson_DoorSquash.calls (k : Nat) (a0 : ByteArray) (r : ByteArray) (w : World) (h : gjson_DoorSquash.f k a0 = some r) :
    Calls Try.prog 30 #[.string a0] w fun e w' => e = .returned (.string r) ∧ Drawn0 w w' := by
  have H : ((gjson_squash.f k a0).bind fun t101 => (some t101)) = some r := h
  clear h
  replace H := Option.bind_eq_some_iff.mp H
  obtain ⟨t101, A20, H⟩ := H
  replace H : (some t101) = some r := H
  have A2 := Aside0.mk A20
  clear A20
  obtain rfl := Option.some.inj H
  go_enter Try.func30, Try.ntmps30
  go_wp2_with (first | ((with_reducible refine gate_callee (f := 48) rfl ?_); refine goesL_ (some 4) rfl rfl Try.func48 (by kernel_rfl) rfl #[.string a0] rfl (by (try simp only [List.map_toArray, List.map_cons, List.map_nil]); first | done | rfl | (simp only [List.length_drop, List.length_take]; rfl)) ?_; (with_reducible refine (gjson_squash.calls k a0 t101 _ A2.out).mono ?_); rintro e w' ⟨rfl, ⟨nd, rfl⟩⟩; refine ⟨_, rfl, ?_⟩))
  go_ret
  exact ⟨by first | rfl | (simp; done) | (simp [*]; done), by repeat (first | exact Drawn0.refl _ | apply Drawn0.step)⟩

/-! ### impl_GjSquash: function 16 -/
def impl_GjSquash.f (k : Nat) (a0 : ByteArray) : Option (ByteArray) := (gjson_DoorSquash.f k a0).bind fun t102 => (some t102)
theorem impl_GjSquash.mono : ∀ a0 k, LeO (impl_GjSquash.f k a0) (impl_GjSquash.f (k + 1) a0) := by
  intro a0 k
  unfold impl_GjSquash.f
  repeat' first
      | (with_reducible exact gjson_DoorSquash.mono _ _)
      | (with_reducible exact LeO.refl _)
      | (with_reducible exact LeO.none _)
      | (with_reducible refine LeO.ite ?_ ?_)
      | (with_reducible refine LeO.bind ?_ (fun _ => ?_))
      | exact gjson_DoorSquash.mono _ _
      | exact LeO.none _
      | refine LeO.ite ?_ ?_
      | refine LeO.bind ?_ (fun _ => ?_)
set_option maxHeartbeats 8000000 in
set_option maxRecDepth 100000 in
theorem impl_GjSquash.calls (k : Nat) (a0 : ByteArray) (r : ByteArray) (w : World) (h : impl_GjSquash.f k a0 = some r) :
    Calls Try.prog 16 #[.string a0] w fun e w' => e = .returned (.string r) ∧ Drawn0 w w' := by
  have H : ((gjson_DoorSquash.f k a0).bind fun t102 => (some t102)) = some r := h
  clear h
  replace H := Option.bind_eq_some_iff.mp H
  obtain ⟨t102, A20, H⟩ := H
  replace H : (some t102) = some r := H
  have A2 := Aside0.mk A20
  clear A20
  obtain rfl := Option.some.inj H
  go_enter Try.func16, Try.ntmps16
  go_wp2_with (first | ((with_reducible refine gate_callee (f := 30) rfl ?_); refine goesL_ (some 4) rfl rfl Try.func30 (by kernel_rfl) rfl #[.string a0] rfl (by (try simp only [List.map_toArray, List.map_cons, List.map_nil]); first | done | rfl | (simp only [List.length_drop, List.length_take]; rfl)) ?_; (with_reducible refine (gjson_DoorSquash.calls k a0 t102 _ A2.out).mono ?_); rintro e w' ⟨rfl, ⟨nd, rfl⟩⟩; refine ⟨_, rfl, ?_⟩))
  go_ret
  exact ⟨by first | rfl | (simp; done) | (simp [*]; done), by repeat (first | exact Drawn0.refl _ | apply Drawn0.step)⟩

/-! ### laws_FnGjSquashAny: function 6 -/
def laws_FnGjSquashAny.j0 : Nat → ByteArray → Bool → Option (Bool)
  | 0, _, _ => none
  | k + 1, x0, x13 => if x13 = true then (some true) else (if 0 < (x0.size : Int) then (if (bt x0 0) = 91 then ((impl_GjSquash.f k x0).bind fun t103 => (if t103.toList = ([] : List UInt8) then (some false) else (if (t103.size : Int) ≤ (x0.size : Int) then (if 0 ≤ (t103.size : Int) then (some (t103.toList == (x0.extract 0 ((t103.size : Int) : Int).toNat).toList)) else (none)) else (some false)))) else (if (bt x0 0) = 123 then ((impl_GjSquash.f k x0).bind fun t104 => (if t104.toList = ([] : List UInt8) then (some false) else (if (t104.size : Int) ≤ (x0.size : Int) then (if 0 ≤ (t104.size : Int) then (some (t104.toList == (x0.extract 0 ((t104.size : Int) : Int).toNat).toList)) else (none)) else (some false)))) else (if (bt x0 0) = 40 then ((impl_GjSquash.f k x0).bind fun t105 => (if t105.toList = ([] : List UInt8) then (some false) else (if (t105.size : Int) ≤ (x0.size : Int) then (if 0 ≤ (t105.size : Int) then (some (t105.toList == (x0.extract 0 ((t105.size : Int) : Int).toNat).toList)) else (none)) else (some false)))) else (if (bt x0 0) = 34 then ((impl_GjSquash.f k x0).bind fun t106 => (if t106.toList = ([] : List UInt8) then (some false) else (if (t106.size : Int) ≤ (x0.size : Int) then (if 0 ≤ (t106.size : Int) then (some (t106.toList == (x0.extract 0 ((t106.size : Int) : Int).toNat).toList)) else (none)) else (some false)))) else (some true))))) else (none))
def laws_FnGjSquashAny.f (k : Nat) (a0 : ByteArray) : Option (Bool) := if (a0.size : Int) > 2147483647 then (some true) else (if a0.toList = ([] : List UInt8) then (laws_FnGjSquashAny.j0 k a0 true) else (laws_FnGjSquashAny.j0 k a0 (decide ((a0.size : Int) > 4096))))
theorem laws_FnGjSquashAny.mono_l : ∀ k, (∀ y0 y1, LeO (laws_FnGjSquashAny.j0 k y0 y1) (laws_FnGjSquashAny.j0 (k + 1) y0 y1))
  | 0 => fun _ _ r h => by simp [laws_FnGjSquashAny.j0] at h
  | k + 1 => by
    have ih0 := laws_FnGjSquashAny.mono_l k
    · intro y0 y1
      unfold laws_FnGjSquashAny.j0
      repeat' first
      | (with_reducible exact ih0 _ _)
      | (with_reducible exact impl_GjSquash.mono _ _)
      | (with_reducible exact LeO.refl _)
      | (with_reducible exact LeO.none _)
      | (with_reducible refine LeO.ite ?_ ?_)
      | (with_reducible refine LeO.bind ?_ (fun _ => ?_))
      | exact ih0 _ _
      | exact impl_GjSquash.mono _ _
      | exact LeO.none _
      | refine LeO.ite ?_ ?_
      | refine LeO.bind ?_ (fun _ => ?_)
theorem laws_FnGjSquashAny.mono : ∀ a0 k, LeO (laws_FnGjSquashAny.f k a0) (laws_FnGjSquashAny.f (k + 1) a0) := by
  intro a0 k
  have ih0 := laws_FnGjSquashAny.mono_l k
  unfold laws_FnGjSquashAny.f
  repeat' first
      | (with_reducible exact ih0 _ _)
      | (with_reducible exact impl_GjSquash.mono _ _)
      | (with_reducible exact LeO.refl _)
      | (with_reducible exact LeO.none _)
      | (with_reducible refine LeO.ite ?_ ?_)
      | (with_reducible refine LeO.bind ?_ (fun _ => ?_))
      | exact ih0 _ _
      | exact impl_GjSquash.mono _ _
      | exact LeO.none _
      | refine LeO.ite ?_ ?_
      | refine LeO.bind ?_ (fun _ => ?_)
set_option maxHeartbeats 8000000 in
set_option maxRecDepth 100000 in
theorem laws_FnGjSquashAny.calls (k : Nat) (a0 : ByteArray) (r : Bool) (w : World) (h : laws_FnGjSquashAny.f k a0 = some r) :
    Calls Try.prog 6 #[.string a0] w fun e w' => e = .returned (.bool r) ∧ Drawn0 w w' := by
  have H : (if (a0.size : Int) > 2147483647 then (some true) else (if a0.toList = ([] : List UInt8) then (laws_FnGjSquashAny.j0 k a0 true) else (laws_FnGjSquashAny.j0 k a0 (decide ((a0.size : Int) > 4096))))) = some r := h
  clear h
  by_cases c2 : (a0.size : Int) > 2147483647
  · rw [if_pos c2] at H
    have c2b0 : decide (2147483647 < (a0.size : Int)) = true := decide_eq_true c2
    have c2b1 : decide (2147483647 < a0.size) = true := decide_eq_true (by omega)
    clear c2
    obtain rfl := Option.some.inj H
    go_enter Try.func6, Try.ntmps6
    go_wp2
    go_ret
    exact ⟨by first | rfl | (simp; done) | (simp [*]; done), by repeat (first | exact Drawn0.refl _ | apply Drawn0.step)⟩
  · rw [if_neg c2] at H
    have c2b0 : decide (2147483647 < (a0.size : Int)) = false := decide_eq_false c2
    have c2b1 : decide (2147483647 < a0.size) = false := decide_eq_false (by omega)
    clear c2
    have HC3 := Aside0.mk H
    clear H
    go_enter Try.func6, Try.ntmps6
    go_upto_region 3 with (fail)
    go_cut [13] (fun v13 wc => ∃ (kq : Nat) (x13_2 : Bool), v13 = .bool x13_2 ∧ Aside0 (laws_FnGjSquashAny.j0 kq a0 x13_2 = some r) ∧ Aside0 (kq ≤ k) ∧ Drawn0 w wc)
    case first =>
      have H := HC3.out
      clear HC3
      by_cases c4 : a0.toList = ([] : List UInt8)
      · rw [if_pos c4] at H
        have c4b0 : (a0.toList == ([] : List UInt8)) = true := beq_iff_eq.mpr c4
        have c4b1 : (a0.toList != ([] : List UInt8)) = false := bne_eq_false_iff_eq.mpr c4
        clear c4
        (first | rw [c4b0] | (simp only [i64_w, i32_w]; rw [c4b0]) | skip)
        have H' := Aside0.mk H
        clear H
        go_wp2
        go_meet
        case rel => exact ⟨_, (true), (by first | rfl | (simp; done) | (simp [*]; done)), H', ⟨by first | omega | exact Nat.le_refl _⟩, by repeat (first | exact Drawn0.refl _ | apply Drawn0.step)⟩
      · rw [if_neg c4] at H
        have c4b0 : (a0.toList == ([] : List UInt8)) = false := beq_eq_false_iff_ne.mpr c4
        have c4b1 : (a0.toList != ([] : List UInt8)) = true := bne_iff_ne.mpr c4
        (first | rw [c4b0] | (simp only [i64_w, i32_w]; rw [c4b0]) | skip)
        have H' := Aside0.mk H
        clear H
        go_wp2
        go_meet
        case rel => exact ⟨_, (decide ((a0.size : Int) > 4096)), (by first | rfl | (simp; done) | (simp [*]; done)), H', ⟨by first | omega | exact Nat.le_refl _⟩, by repeat (first | exact Drawn0.refl _ | apply Drawn0.step)⟩
    case rest =>
      clear HC3
      try clear c2
      try clear c2b0
      try clear c2b1
      try clear p2
      try clear c4
      try clear c4b0
      try clear c4b1
      obtain ⟨kq, x13_2, rfl, HA, HJ2, ⟨mc2, rfl⟩⟩ := hcut
      cases kq with
      | zero => exact absurd HA.out (by simp [laws_FnGjSquashAny.j0])
      | succ kj2 =>
        have H := HA.out
        clear HA
        simp only [laws_FnGjSquashAny.j0] at H
        by_cases c5 : x13_2 = true
        · subst c5
          have H1 : (some true) = some r := by rw [if_pos rfl] at H; exact H
          clear H
          have H := H1
          clear H1
          obtain rfl := Option.some.inj H
          go_wp2
          go_ret
          exact ⟨by first | rfl | (simp; done) | (simp [*]; done), by repeat (first | exact Drawn0.refl _ | apply Drawn0.step)⟩
        · replace c5 := Bool.eq_false_iff.mpr c5
          subst c5
          have H1 : (if 0 < (a0.size : Int) then (if (bt a0 0) = 91 then ((impl_GjSquash.f kj2 a0).bind fun t103 => (if t103.toList = ([] : List UInt8) then (some false) else (if (t103.size : Int) ≤ (a0.size : Int) then (if 0 ≤ (t103.size : Int) then (some (t103.toList == (a0.extract 0 ((t103.size : Int) : Int).toNat).toList)) else (none)) else (some false)))) else (if (bt a0 0) = 123 then ((impl_GjSquash.f kj2 a0).bind fun t104 => (if t104.toList = ([] : List UInt8) then (some false) else (if (t104.size : Int) ≤ (a0.size : Int) then (if 0 ≤ (t104.size : Int) then (some (t104.toList == (a0.extract 0 ((t104.size : Int) : Int).toNat).toList)) else (none)) else (some false)))) else (if (bt a0 0) = 40 then ((impl_GjSquash.f kj2 a0).bind fun t105 => (if t105.toList = ([] : List UInt8) then (some false) else (if (t105.size : Int) ≤ (a0.size : Int) then (if 0 ≤ (t105.size : Int) then (some (t105.toList == (a0.extract 0 ((t105.size : Int) : Int).toNat).toList)) else (none)) else (some false)))) else (if (bt a0 0) = 34 then ((impl_GjSquash.f kj2 a0).bind fun t106 => (if t106.toList = ([] : List UInt8) then (some false) else (if (t106.size : Int) ≤ (a0.size : Int) then (if 0 ≤ (t106.size : Int) then (some (t106.toList == (a0.extract 0 ((t106.size : Int) : Int).toNat).toList)) else (none)) else (some false)))) else (some true))))) else (none)) = some r := by rw [if_neg (show ¬ (false = true) by decide)] at H; exact H
          clear H
          have H := H1
          clear H1
          by_cases c6 : 0 < (a0.size : Int)
          · rw [if_pos c6] at H
            have c6b0 : decide (0 < (a0.size : Int)) = true := decide_eq_true c6
            have c6b1 : decide (0 < a0.size) = true := decide_eq_true (by omega)
            clear c6
            by_cases c8 : (bt a0 0) = 91
            · rw [if_pos c8] at H
              have c8b0 : ((bt a0 0) == 91) = true := beq_iff_eq.mpr c8
              have c8b1 : ((bt a0 0) != 91) = false := bne_eq_false_iff_eq.mpr c8
              clear c8
              replace H := Option.bind_eq_some_iff.mp H
              obtain ⟨t103, A90, H⟩ := H
              replace H : (if t103.toList = ([] : List UInt8) then (some false) else (if (t103.size : Int) ≤ (a0.size : Int) then (if 0 ≤ (t103.size : Int) then (some (t103.toList == (a0.extract 0 ((t103.size : Int) : Int).toNat).toList)) else (none)) else (some false))) = some r := H
              have A9 := Aside0.mk A90
              clear A90
              by_cases c10 : t103.toList = ([] : List UInt8)
              · rw [if_pos c10] at H
                have c10b0 : (t103.toList == ([] : List UInt8)) = true := beq_iff_eq.mpr c10
                have c10b1 : (t103.toList != ([] : List UInt8)) = false := bne_eq_false_iff_eq.mpr c10
                clear c10
                obtain rfl := Option.some.inj H
                have p7 : 0 ≤ (0 : Int) := (by omega)
                have q7 : 0 < a0.size := (by have : (0 : Int) < (a0.size : Int) := of_decide_eq_true (by first | (with_reducible assumption) | assumption); omega)
                have hx7 : ∀ h : 0 < a0.size, ((a0[0]'h).toNat : Int) = bt a0 0 := bt_at a0 0
                clear p7
                have qi7 : (0 < (a0.size : Int)) = True := eq_true (of_decide_eq_true (by first | (with_reducible assumption) | assumption))
                replace q7 := eq_true q7
                go_wp2_with (first | ((with_reducible refine gate_callee (f := 16) rfl ?_); refine goesL_ (some 22) rfl rfl Try.func16 (by kernel_rfl) rfl #[.string a0] rfl (by (try simp only [List.map_toArray, List.map_cons, List.map_nil]); first | done | rfl | (simp only [List.length_drop, List.length_take]; rfl)) ?_; (with_reducible refine (impl_GjSquash.calls kj2 a0 t103 _ A9.out).mono ?_); rintro e w' ⟨rfl, ⟨nd, rfl⟩⟩; refine ⟨_, rfl, ?_⟩))
                go_ret
                exact ⟨by first | rfl | (simp; done) | (simp [*]; done), by repeat (first | exact Drawn0.refl _ | apply Drawn0.step)⟩
              · rw [if_neg c10] at H
                have c10b0 : (t103.toList == ([] : List UInt8)) = false := beq_eq_false_iff_ne.mpr c10
                have c10b1 : (t103.toList != ([] : List UInt8)) = true := bne_iff_ne.mpr c10
                by_cases c11 : (t103.size : Int) ≤ (a0.size : Int)
                · rw [if_pos c11] at H
                  have c11b0 : decide ((t103.size : Int) ≤ (a0.size : Int)) = true := decide_eq_true c11
                  have c11b1 : decide (t103.size ≤ a0.size) = true := decide_eq_true (Int.ofNat_le.mp c11)
                  clear c11
                  by_cases c12 : 0 ≤ (t103.size : Int)
                  · rw [if_pos c12] at H
                    have c12b0 := eq_true c12
                    have c12b1 : decide (0 ≤ (t103.size : Int)) = true := decide_eq_true c12
                    clear c12
                    have c13b0 := eq_true (of_decide_eq_true (by first | (with_reducible assumption) | assumption) : (t103.size : Int) ≤ (a0.size : Int))
                    obtain rfl := Option.some.inj H
                    have p7 : 0 ≤ (0 : Int) := (by omega)
                    have q7 : 0 < a0.size := (by have : (0 : Int) < (a0.size : Int) := of_decide_eq_true (by first | (with_reducible assumption) | assumption); omega)
                    have hx7 : ∀ h : 0 < a0.size, ((a0[0]'h).toNat : Int) = bt a0 0 := bt_at a0 0
                    clear p7
                    have qi7 : (0 < (a0.size : Int)) = True := eq_true (of_decide_eq_true (by first | (with_reducible assumption) | assumption))
                    replace q7 := eq_true q7
                    go_wp2_with (first | ((with_reducible refine gate_callee (f := 16) rfl ?_); refine goesL_ (some 22) rfl rfl Try.func16 (by kernel_rfl) rfl #[.string a0] rfl (by (try simp only [List.map_toArray, List.map_cons, List.map_nil]); first | done | rfl | (simp only [List.length_drop, List.length_take]; rfl)) ?_; (with_reducible refine (impl_GjSquash.calls kj2 a0 t103 _ A9.out).mono ?_); rintro e w' ⟨rfl, ⟨nd, rfl⟩⟩; refine ⟨_, rfl, ?_⟩))
                    go_ret
                    exact ⟨by first | rfl | (simp; done) | (simp [*]; done), by repeat (first | exact Drawn0.refl _ | apply Drawn0.step)⟩
                  · rw [if_neg c12] at H
                    exact absurd H (by simp)
                · rw [if_neg c11] at H
                  have c11b0 : decide ((t103.size : Int) ≤ (a0.size : Int)) = false := decide_eq_false c11
                  have c11b1 : decide (t103.size ≤ a0.size) = false := decide_eq_false (fun h => c11 (Int.ofNat_le.mpr h))
                  clear c11
                  obtain rfl := Option.some.inj H
                  have p7 : 0 ≤ (0 : Int) := (by omega)
                  have q7 : 0 < a0.size := (by have : (0 : Int) < (a0.size : Int) := of_decide_eq_true (by first | (with_reducible assumption) | assumption); omega)
                  have hx7 : ∀ h : 0 < a0.size, ((a0[0]'h).toNat : Int) = bt a0 0 := bt_at a0 0
                  clear p7
                  have qi7 : (0 < (a0.size : Int)) = True := eq_true (of_decide_eq_true (by first | (with_reducible assumption) | assumption))
                  replace q7 := eq_true q7
                  go_wp2_with (first | ((with_reducible refine gate_callee (f := 16) rfl ?_); refine goesL_ (some 22) rfl rfl Try.func16 (by kernel_rfl) rfl #[.string a0] rfl (by (try simp only [List.map_toArray, List.map_cons, List.map_nil]); first | done | rfl | (simp only [List.length_drop, List.length_take]; rfl)) ?_; (with_reducible refine (impl_GjSquash.calls kj2 a0 t103 _ A9.out).mono ?_); rintro e w' ⟨rfl, ⟨nd, rfl⟩⟩; refine ⟨_, rfl, ?_⟩))
                  go_ret
                  exact ⟨by first | rfl | (simp; done) | (simp [*]; done), by repeat (first | exact Drawn0.refl _ | apply Drawn0.step)⟩
            · rw [if_neg c8] at H
              have c8b0 : ((bt a0 0) == 91) = false := beq_eq_false_iff_ne.mpr c8
              have c8b1 : ((bt a0 0) != 91) = true := bne_iff_ne.mpr c8
              by_cases c14 : (bt a0 0) = 123
              · rw [if_pos c14] at H
                have c14b0 : ((bt a0 0) == 123) = true := beq_iff_eq.mpr c14
                have c14b1 : ((bt a0 0) != 123) = false := bne_eq_false_iff_eq.mpr c14
                clear c14
                replace H := Option.bind_eq_some_iff.mp H
                obtain ⟨t104, A150, H⟩ := H
                replace H : (if t104.toList = ([] : List UInt8) then (some false) else (if (t104.size : Int) ≤ (a0.size : Int) then (if 0 ≤ (t104.size : Int) then (some (t104.toList == (a0.extract 0 ((t104.size : Int) : Int).toNat).toList)) else (none)) else (some false))) = some r := H
                have A15 := Aside0.mk A150
                clear A150
                by_cases c16 : t104.toList = ([] : List UInt8)
                · rw [if_pos c16] at H
                  have c16b0 : (t104.toList == ([] : List UInt8)) = true := beq_iff_eq.mpr c16
                  have c16b1 : (t104.toList != ([] : List UInt8)) = false := bne_eq_false_iff_eq.mpr c16
                  clear c16
                  obtain rfl := Option.some.inj H
                  have p7 : 0 ≤ (0 : Int) := (by omega)
                  have q7 : 0 < a0.size := (by have : (0 : Int) < (a0.size : Int) := of_decide_eq_true (by first | (with_reducible assumption) | assumption); omega)
                  have hx7 : ∀ h : 0 < a0.size, ((a0[0]'h).toNat : Int) = bt a0 0 := bt_at a0 0
                  clear p7
                  have qi7 : (0 < (a0.size : Int)) = True := eq_true (of_decide_eq_true (by first | (with_reducible assumption) | assumption))
                  replace q7 := eq_true q7
                  go_wp2_with (first | ((with_reducible refine gate_callee (f := 16) rfl ?_); refine goesL_ (some 22) rfl rfl Try.func16 (by kernel_rfl) rfl #[.string a0] rfl (by (try simp only [List.map_toArray, List.map_cons, List.map_nil]); first | done | rfl | (simp only [List.length_drop, List.length_take]; rfl)) ?_; (with_reducible refine (impl_GjSquash.calls kj2 a0 t104 _ A15.out).mono ?_); rintro e w' ⟨rfl, ⟨nd, rfl⟩⟩; refine ⟨_, rfl, ?_⟩))
                  go_ret
                  exact ⟨by first | rfl | (simp; done) | (simp [*]; done), by repeat (first | exact Drawn0.refl _ | apply Drawn0.step)⟩
                · rw [if_neg c16] at H
                  have c16b0 : (t104.toList == ([] : List UInt8)) = false := beq_eq_false_iff_ne.mpr c16
                  have c16b1 : (t104.toList != ([] : List UInt8)) = true := bne_iff_ne.mpr c16
                  by_cases c17 : (t104.size : Int) ≤ (a0.size : Int)
                  · rw [if_pos c17] at H
                    have c17b0 : decide ((t104.size : Int) ≤ (a0.size : Int)) = true := decide_eq_true c17
                    have c17b1 : decide (t104.size ≤ a0.size) = true := decide_eq_true (Int.ofNat_le.mp c17)
                    clear c17
                    by_cases c18 : 0 ≤ (t104.size : Int)
                    · rw [if_pos c18] at H
                      have c18b0 := eq_true c18
                      have c18b1 : decide (0 ≤ (t104.size : Int)) = true := decide_eq_true c18
                      clear c18
                      have c19b0 := eq_true (of_decide_eq_true (by first | (with_reducible assumption) | assumption) : (t104.size : Int) ≤ (a0.size : Int))
                      obtain rfl := Option.some.inj H
                      have p7 : 0 ≤ (0 : Int) := (by omega)
                      have q7 : 0 < a0.size := (by have : (0 : Int) < (a0.size : Int) := of_decide_eq_true (by first | (with_reducible assumption) | assumption); omega)
                      have hx7 : ∀ h : 0 < a0.size, ((a0[0]'h).toNat : Int) = bt a0 0 := bt_at a0 0
                      clear p7
                      have qi7 : (0 < (a0.size : Int)) = True := eq_true (of_decide_eq_true (by first | (with_reducible assumption) | assumption))
                      replace q7 := eq_true q7
                      go_wp2_with (first | ((with_reducible refine gate_callee (f := 16) rfl ?_); refine goesL_ (some 22) rfl rfl Try.func16 (by kernel_rfl) rfl #[.string a0] rfl (by (try simp only [List.map_toArray, List.map_cons, List.map_nil]); first | done | rfl | (simp only [List.length_drop, List.length_take]; rfl)) ?_; (with_reducible refine (impl_GjSquash.calls kj2 a0 t104 _ A15.out).mono ?_); rintro e w' ⟨rfl, ⟨nd, rfl⟩⟩; refine ⟨_, rfl, ?_⟩))
                      go_ret
                      exact ⟨by first | rfl | (simp; done) | (simp [*]; done), by repeat (first | exact Drawn0.refl _ | apply Drawn0.step)⟩
                    · rw [if_neg c18] at H
                      exact absurd H (by simp)
                  · rw [if_neg c17] at H
                    have c17b0 : decide ((t104.size : Int) ≤ (a0.size : Int)) = false := decide_eq_false c17
                    have c17b1 : decide (t104.size ≤ a0.size) = false := decide_eq_false (fun h => c17 (Int.ofNat_le.mpr h))
                    clear c17
                    obtain rfl := Option.some.inj H
                    have p7 : 0 ≤ (0 : Int) := (by omega)
                    have q7 : 0 < a0.size := (by have : (0 : Int) < (a0.size : Int) := of_decide_eq_true (by first | (with_reducible assumption) | assumption); omega)
                    have hx7 : ∀ h : 0 < a0.size, ((a0[0]'h).toNat : Int) = bt a0 0 := bt_at a0 0
                    clear p7
                    have qi7 : (0 < (a0.size : Int)) = True := eq_true (of_decide_eq_true (by first | (with_reducible assumption) | assumption))
                    replace q7 := eq_true q7
                    go_wp2_with (first | ((with_reducible refine gate_callee (f := 16) rfl ?_); refine goesL_ (some 22) rfl rfl Try.func16 (by kernel_rfl) rfl #[.string a0] rfl (by (try simp only [List.map_toArray, List.map_cons, List.map_nil]); first | done | rfl | (simp only [List.length_drop, List.length_take]; rfl)) ?_; (with_reducible refine (impl_GjSquash.calls kj2 a0 t104 _ A15.out).mono ?_); rintro e w' ⟨rfl, ⟨nd, rfl⟩⟩; refine ⟨_, rfl, ?_⟩))
                    go_ret
                    exact ⟨by first | rfl | (simp; done) | (simp [*]; done), by repeat (first | exact Drawn0.refl _ | apply Drawn0.step)⟩
              · rw [if_neg c14] at H
                have c14b0 : ((bt a0 0) == 123) = false := beq_eq_false_iff_ne.mpr c14
                have c14b1 : ((bt a0 0) != 123) = true := bne_iff_ne.mpr c14
                by_cases c20 : (bt a0 0) = 40
                · rw [if_pos c20] at H
                  have c20b0 : ((bt a0 0) == 40) = true := beq_iff_eq.mpr c20
                  have c20b1 : ((bt a0 0) != 40) = false := bne_eq_false_iff_eq.mpr c20
                  clear c20
                  replace H := Option.bind_eq_some_iff.mp H
                  obtain ⟨t105, A210, H⟩ := H
                  replace H : (if t105.toList = ([] : List UInt8) then (some false) else (if (t105.size : Int) ≤ (a0.size : Int) then (if 0 ≤ (t105.size : Int) then (some (t105.toList == (a0.extract 0 ((t105.size : Int) : Int).toNat).toList)) else (none)) else (some false))) = some r := H
                  have A21 := Aside0.mk A210
                  clear A210
                  by_cases c22 : t105.toList = ([] : List UInt8)
                  · rw [if_pos c22] at H
                    have c22b0 : (t105.toList == ([] : List UInt8)) = true := beq_iff_eq.mpr c22
                    have c22b1 : (t105.toList != ([] : List UInt8)) = false := bne_eq_false_iff_eq.mpr c22
                    clear c22
                    obtain rfl := Option.some.inj H
                    have p7 : 0 ≤ (0 : Int) := (by omega)
                    have q7 : 0 < a0.size := (by have : (0 : Int) < (a0.size : Int) := of_decide_eq_true (by first | (with_reducible assumption) | assumption); omega)
                    have hx7 : ∀ h : 0 < a0.size, ((a0[0]'h).toNat : Int) = bt a0 0 := bt_at a0 0
                    clear p7
                    have qi7 : (0 < (a0.size : Int)) = True := eq_true (of_decide_eq_true (by first | (with_reducible assumption) | assumption))
                    replace q7 := eq_true q7
                    go_wp2_with (first | ((with_reducible refine gate_callee (f := 16) rfl ?_); refine goesL_ (some 22) rfl rfl Try.func16 (by kernel_rfl) rfl #[.string a0] rfl (by (try simp only [List.map_toArray, List.map_cons, List.map_nil]); first | done | rfl | (simp only [List.length_drop, List.length_take]; rfl)) ?_; (with_reducible refine (impl_GjSquash.calls kj2 a0 t105 _ A21.out).mono ?_); rintro e w' ⟨rfl, ⟨nd, rfl⟩⟩; refine ⟨_, rfl, ?_⟩))
                    go_ret
                    exact ⟨by first | rfl | (simp; done) | (simp [*]; done), by repeat (first | exact Drawn0.refl _ | apply Drawn0.step)⟩
                  · rw [if_neg c22] at H
                    have c22b0 : (t105.toList == ([] : List UInt8)) = false := beq_eq_false_iff_ne.mpr c22
                    have c22b1 : (t105.toList != ([] : List UInt8)) = true := bne_iff_ne.mpr c22
                    by_cases c23 : (t105.size : Int) ≤ (a0.size : Int)
                    · rw [if_pos c23] at H
                      have c23b0 : decide ((t105.size : Int) ≤ (a0.size : Int)) = true := decide_eq_true c23
                      have c23b1 : decide (t105.size ≤ a0.size) = true := decide_eq_true (Int.ofNat_le.mp c23)
                      clear c23
                      by_cases c24 : 0 ≤ (t105.size : Int)
                      · rw [if_pos c24] at H
                        have c24b0 := eq_true c24
                        have c24b1 : decide (0 ≤ (t105.size : Int)) = true := decide_eq_true c24
                        clear c24
                        have c25b0 := eq_true (of_decide_eq_true (by first | (with_reducible assumption) | assumption) : (t105.size : Int) ≤ (a0.size : Int))
                        obtain rfl := Option.some.inj H
                        have p7 : 0 ≤ (0 : Int) := (by omega)
                        have q7 : 0 < a0.size := (by have : (0 : Int) < (a0.size : Int) := of_decide_eq_true (by first | (with_reducible assumption) | assumption); omega)
                        have hx7 : ∀ h : 0 < a0.size, ((a0[0]'h).toNat : Int) = bt a0 0 := bt_at a0 0
                        clear p7
                        have qi7 : (0 < (a0.size : Int)) = True := eq_true (of_decide_eq_true (by first | (with_reducible assumption) | assumption))
                        replace q7 := eq_true q7
                        go_wp2_with (first | ((with_reducible refine gate_callee (f := 16) rfl ?_); refine goesL_ (some 22) rfl rfl Try.func16 (by kernel_rfl) rfl #[.string a0] rfl (by (try simp only [List.map_toArray, List.map_cons, List.map_nil]); first | done | rfl | (simp only [List.length_drop, List.length_take]; rfl)) ?_; (with_reducible refine (impl_GjSquash.calls kj2 a0 t105 _ A21.out).mono ?_); rintro e w' ⟨rfl, ⟨nd, rfl⟩⟩; refine ⟨_, rfl, ?_⟩))
                        go_ret
                        exact ⟨by first | rfl | (simp; done) | (simp [*]; done), by repeat (first | exact Drawn0.refl _ | apply Drawn0.step)⟩
                      · rw [if_neg c24] at H
                        exact absurd H (by simp)
                    · rw [if_neg c23] at H
                      have c23b0 : decide ((t105.size : Int) ≤ (a0.size : Int)) = false := decide_eq_false c23
                      have c23b1 : decide (t105.size ≤ a0.size) = false := decide_eq_false (fun h => c23 (Int.ofNat_le.mpr h))
                      clear c23
                      obtain rfl := Option.some.inj H
                      have p7 : 0 ≤ (0 : Int) := (by omega)
                      have q7 : 0 < a0.size := (by have : (0 : Int) < (a0.size : Int) := of_decide_eq_true (by first | (with_reducible assumption) | assumption); omega)
                      have hx7 : ∀ h : 0 < a0.size, ((a0[0]'h).toNat : Int) = bt a0 0 := bt_at a0 0
                      clear p7
                      have qi7 : (0 < (a0.size : Int)) = True := eq_true (of_decide_eq_true (by first | (with_reducible assumption) | assumption))
                      replace q7 := eq_true q7
                      go_wp2_with (first | ((with_reducible refine gate_callee (f := 16) rfl ?_); refine goesL_ (some 22) rfl rfl Try.func16 (by kernel_rfl) rfl #[.string a0] rfl (by (try simp only [List.map_toArray, List.map_cons, List.map_nil]); first | done | rfl | (simp only [List.length_drop, List.length_take]; rfl)) ?_; (with_reducible refine (impl_GjSquash.calls kj2 a0 t105 _ A21.out).mono ?_); rintro e w' ⟨rfl, ⟨nd, rfl⟩⟩; refine ⟨_, rfl, ?_⟩))
                      go_ret
                      exact ⟨by first | rfl | (simp; done) | (simp [*]; done), by repeat (first | exact Drawn0.refl _ | apply Drawn0.step)⟩
                · rw [if_neg c20] at H
                  have c20b0 : ((bt a0 0) == 40) = false := beq_eq_false_iff_ne.mpr c20
                  have c20b1 : ((bt a0 0) != 40) = true := bne_iff_ne.mpr c20
                  by_cases c26 : (bt a0 0) = 34
                  · rw [if_pos c26] at H
                    have c26b0 : ((bt a0 0) == 34) = true := beq_iff_eq.mpr c26
                    have c26b1 : ((bt a0 0) != 34) = false := bne_eq_false_iff_eq.mpr c26
                    clear c26
                    replace H := Option.bind_eq_some_iff.mp H
                    obtain ⟨t106, A270, H⟩ := H
                    replace H : (if t106.toList = ([] : List UInt8) then (some false) else (if (t106.size : Int) ≤ (a0.size : Int) then (if 0 ≤ (t106.size : Int) then (some (t106.toList == (a0.extract 0 ((t106.size : Int) : Int).toNat).toList)) else (none)) else (some false))) = some r := H
                    have A27 := Aside0.mk A270
                    clear A270
                    by_cases c28 : t106.toList = ([] : List UInt8)
                    · rw [if_pos c28] at H
                      have c28b0 : (t106.toList == ([] : List UInt8)) = true := beq_iff_eq.mpr c28
                      have c28b1 : (t106.toList != ([] : List UInt8)) = false := bne_eq_false_iff_eq.mpr c28
                      clear c28
                      obtain rfl := Option.some.inj H
                      have p7 : 0 ≤ (0 : Int) := (by omega)
                      have q7 : 0 < a0.size := (by have : (0 : Int) < (a0.size : Int) := of_decide_eq_true (by first | (with_reducible assumption) | assumption); omega)
                      have hx7 : ∀ h : 0 < a0.size, ((a0[0]'h).toNat : Int) = bt a0 0 := bt_at a0 0
                      clear p7
                      have qi7 : (0 < (a0.size : Int)) = True := eq_true (of_decide_eq_true (by first | (with_reducible assumption) | assumption))
                      replace q7 := eq_true q7
                      go_wp2_with (first | ((with_reducible refine gate_callee (f := 16) rfl ?_); refine goesL_ (some 22) rfl rfl Try.func16 (by kernel_rfl) rfl #[.string a0] rfl (by (try simp only [List.map_toArray, List.map_cons, List.map_nil]); first | done | rfl | (simp only [List.length_drop, List.length_take]; rfl)) ?_; (with_reducible refine (impl_GjSquash.calls kj2 a0 t106 _ A27.out).mono ?_); rintro e w' ⟨rfl, ⟨nd, rfl⟩⟩; refine ⟨_, rfl, ?_⟩))
                      go_ret
                      exact ⟨by first | rfl | (simp; done) | (simp [*]; done), by repeat (first | exact Drawn0.refl _ | apply Drawn0.step)⟩
                    · rw [if_neg c28] at H
                      have c28b0 : (t106.toList == ([] : List UInt8)) = false := beq_eq_false_iff_ne.mpr c28
                      have c28b1 : (t106.toList != ([] : List UInt8)) = true := bne_iff_ne.mpr c28
                      by_cases c29 : (t106.size : Int) ≤ (a0.size : Int)
                      · rw [if_pos c29] at H
                        have c29b0 : decide ((t106.size : Int) ≤ (a0.size : Int)) = true := decide_eq_true c29
                        have c29b1 : decide (t106.size ≤ a0.size) = true := decide_eq_true (Int.ofNat_le.mp c29)
                        clear c29
                        by_cases c30 : 0 ≤ (t106.size : Int)
                        · rw [if_pos c30] at H
                          have c30b0 := eq_true c30
                          have c30b1 : decide (0 ≤ (t106.size : Int)) = true := decide_eq_true c30
                          clear c30
                          have c31b0 := eq_true (of_decide_eq_true (by first | (with_reducible assumption) | assumption) : (t106.size : Int) ≤ (a0.size : Int))
                          obtain rfl := Option.some.inj H
                          have p7 : 0 ≤ (0 : Int) := (by omega)
                          have q7 : 0 < a0.size := (by have : (0 : Int) < (a0.size : Int) := of_decide_eq_true (by first | (with_reducible assumption) | assumption); omega)
                          have hx7 : ∀ h : 0 < a0.size, ((a0[0]'h).toNat : Int) = bt a0 0 := bt_at a0 0
                          clear p7
                          have qi7 : (0 < (a0.size : Int)) = True := eq_true (of_decide_eq_true (by first | (with_reducible assumption) | assumption))
                          replace q7 := eq_true q7
                          go_wp2_with (first | ((with_reducible refine gate_callee (f := 16) rfl ?_); refine goesL_ (some 22) rfl rfl Try.func16 (by kernel_rfl) rfl #[.string a0] rfl (by (try simp only [List.map_toArray, List.map_cons, List.map_nil]); first | done | rfl | (simp only [List.length_drop, List.length_take]; rfl)) ?_; (with_reducible refine (impl_GjSquash.calls kj2 a0 t106 _ A27.out).mono ?_); rintro e w' ⟨rfl, ⟨nd, rfl⟩⟩; refine ⟨_, rfl, ?_⟩))
                          go_ret
                          exact ⟨by first | rfl | (simp; done) | (simp [*]; done), by repeat (first | exact Drawn0.refl _ | apply Drawn0.step)⟩
                        · rw [if_neg c30] at H
                          exact absurd H (by simp)
                      · rw [if_neg c29] at H
                        have c29b0 : decide ((t106.size : Int) ≤ (a0.size : Int)) = false := decide_eq_false c29
                        have c29b1 : decide (t106.size ≤ a0.size) = false := decide_eq_false (fun h => c29 (Int.ofNat_le.mpr h))
                        clear c29
                        obtain rfl := Option.some.inj H
                        have p7 : 0 ≤ (0 : Int) := (by omega)
                        have q7 : 0 < a0.size := (by have : (0 : Int) < (a0.size : Int) := of_decide_eq_true (by first | (with_reducible assumption) | assumption); omega)
                        have hx7 : ∀ h : 0 < a0.size, ((a0[0]'h).toNat : Int) = bt a0 0 := bt_at a0 0
                        clear p7
                        have qi7 : (0 < (a0.size : Int)) = True := eq_true (of_decide_eq_true (by first | (with_reducible assumption) | assumption))
                        replace q7 := eq_true q7
                        go_wp2_with (first | ((with_reducible refine gate_callee (f := 16) rfl ?_); refine goesL_ (some 22) rfl rfl Try.func16 (by kernel_rfl) rfl #[.string a0] rfl (by (try simp only [List.map_toArray, List.map_cons, List.map_nil]); first | done | rfl | (simp only [List.length_drop, List.length_take]; rfl)) ?_; (with_reducible refine (impl_GjSquash.calls kj2 a0 t106 _ A27.out).mono ?_); rintro e w' ⟨rfl, ⟨nd, rfl⟩⟩; refine ⟨_, rfl, ?_⟩))
                        go_ret
                        exact ⟨by first | rfl | (simp; done) | (simp [*]; done), by repeat (first | exact Drawn0.refl _ | apply Drawn0.step)⟩
                  · rw [if_neg c26] at H
                    have c26b0 : ((bt a0 0) == 34) = false := beq_eq_false_iff_ne.mpr c26
                    have c26b1 : ((bt a0 0) != 34) = true := bne_iff_ne.mpr c26
                    obtain rfl := Option.some.inj H
                    have p7 : 0 ≤ (0 : Int) := (by omega)
                    have q7 : 0 < a0.size := (by have : (0 : Int) < (a0.size : Int) := of_decide_eq_true (by first | (with_reducible assumption) | assumption); omega)
                    have hx7 : ∀ h : 0 < a0.size, ((a0[0]'h).toNat : Int) = bt a0 0 := bt_at a0 0
                    clear p7
                    have qi7 : (0 < (a0.size : Int)) = True := eq_true (of_decide_eq_true (by first | (with_reducible assumption) | assumption))
                    replace q7 := eq_true q7
                    go_wp2
                    go_ret
                    exact ⟨by first | rfl | (simp; done) | (simp [*]; done), by repeat (first | exact Drawn0.refl _ | apply Drawn0.step)⟩
          · rw [if_neg c6] at H
            exact absurd H (by simp)

/-- THE ONE PURE STATEMENT of laws_FnGjSquashAny: yours. -/
def laws_FnGjSquashAny.Pure : Prop := ∀ (a0 : ByteArray), a0.size ≤ 140737488351232 → ∃ k, laws_FnGjSquashAny.f k a0 = some true
theorem laws_FnGjSquashAny.walk (P : laws_FnGjSquashAny.Pure) (a0 : ByteArray) (w : World) (w0 : a0.size ≤ 140737488351232) :
    Calls Try.prog 6 #[.string a0] w fun e w' => e = .returned (.bool true) ∧ Below w.heap.size w w' := by
  obtain ⟨k, h⟩ := P a0 w0
  refine (laws_FnGjSquashAny.calls k a0 true w h).mono ?_
  rintro e w' ⟨rfl, hd⟩
  exact ⟨rfl, hd.below⟩

end Go.Proofs.Ytikdecjojfmjaaa.PFnGjSquashAny
