-- Written for this claim by this session's own program (wip/xprint).
import Derived.Test.YtkdpkenhhcgnbaaDoorPFnMtTrimSuffixx0
import Derived.Test.YtkdpkenhhcgnbaaDoorPFnMtTrimSuffixx4
import Derived.Test.YtkdpkenhhcgnbaaDoorPFnMtTrimSuffixx5
namespace Go.Proofs.YtkdpkenhhcgnbaaDoor.PFnMtTrimSuffix
open Go.RowKit Go.Proofs.YtkdpkenhhcgnbaaDoorW.PrintWords Go.Proofs.YtkdpkenhhcgnbaaDoorW.PrintLast Go.Proofs.YtkdpkenhhcgnbaaDoorW.PrintMore
attribute [local go_sem] max2_int min2_int max_two min_two max_three min_three max_four min_four   -- for this text's walks alone
set_option linter.unusedVariables false
set_option linter.unusedSimpArgs false

/-! ### impl_MtTrimSuffix: function 15 -/
def impl_MtTrimSuffix.f (k : Nat) (a0 : ByteArray) (a1 : ByteArray) : Option (ByteArray × ByteArray × Bool) := (match_DoorTrimSuffix.f k a0 a1).bind fun bt166 => (some (bt166.1, bt166.2.1, bt166.2.2))
theorem impl_MtTrimSuffix.mono : ∀ a0 a1 k, LeO (impl_MtTrimSuffix.f k a0 a1) (impl_MtTrimSuffix.f (k + 1) a0 a1) := by
  intro a0 a1 k
  unfold impl_MtTrimSuffix.f
  repeat' first
      | (with_reducible exact match_DoorTrimSuffix.mono _ _ _)
      | (with_reducible exact LeO.refl _)
      | (with_reducible exact LeO.none _)
      | (with_reducible refine LeO.ite ?_ ?_)
      | (with_reducible refine LeO.bind ?_ (fun _ => ?_))
      | exact match_DoorTrimSuffix.mono _ _ _
      | exact LeO.none _
      | refine LeO.ite ?_ ?_
      | refine LeO.bind ?_ (fun _ => ?_)
set_option maxHeartbeats 8000000 in
set_option maxRecDepth 100000 in
theorem impl_MtTrimSuffix.calls (k : Nat) (a0 : ByteArray) (a1 : ByteArray) (r1 : ByteArray) (r2 : ByteArray) (r3 : Bool) (w : World) (hL : Laid w) (h : impl_MtTrimSuffix.f k a0 a1 = some (r1, r2, r3)) :
    Calls Tryd.prog 15 #[.string a0, .string a1] w fun e w' => e = .returned (.tuple #[.string r1, .string r2, .bool r3]) ∧ Below w.heap.size w w' := by
  have HB := Aside0.mk (Below.refl w.heap.size w)
  have HLD := Aside0.mk hL
  clear hL
  have H : ((match_DoorTrimSuffix.f k a0 a1).bind fun bt166 => (some (bt166.1, bt166.2.1, bt166.2.2))) = some (r1, r2, r3) := h
  clear h
  replace H := Option.bind_eq_some_iff.mp H
  obtain ⟨⟨t166, t167, t168⟩, A30, H⟩ := H
  replace H : (some (t166, t167, t168)) = some (r1, r2, r3) := H
  have A3 := Aside0.mk A30
  clear A30
  simp only [Option.some.injEq, Prod.mk.injEq] at H
  obtain ⟨rfl, rfl, rfl⟩ := H
  go_enter Tryd.func15, Tryd.ntmps15
  go_wp2_with (first | ((with_reducible refine gate_callee (f := 33) rfl ?_); refine goesL_ (some 9) rfl rfl Tryd.func33 (by kernel_rfl) rfl #[.string a0, .string a1] rfl (by (try simp only [List.map_toArray, List.map_cons, List.map_nil]); first | done | rfl | (simp only [List.length_drop, List.length_take]; rfl)) ?_; (with_reducible refine (match_DoorTrimSuffix.calls k a0 a1 t166 t167 t168 _ ?side1 A3.out).mono ?_); (case side1 => exact Laid.below HLD.out (by repeat (first | (with_reducible first | exact HB.out | apply below_alloc | apply pw_below_drewN | apply below_drew1) | exact HB.out))); rintro e w4 ⟨rfl, hb⟩; refine ⟨_, rfl, ?_⟩; have n0_ := Aside0.mk (below_step (by repeat (first | (with_reducible first | exact HB.out | apply below_alloc | apply pw_below_drewN | apply below_drew1) | exact HB.out)) hb); clear HB; have HB := n0_; clear n0_; (try clear hb); (try clear hb2); (try clear hk); (try clear hi)))
  go_ret3
  exact ⟨by first | rfl | (simp [errW_none, errW_some] <;> rfl) | (simp [*, errW_none, errW_some] <;> rfl), by repeat (first | (with_reducible first | exact HB.out | apply below_alloc | apply pw_below_drewN | apply below_drew1) | exact HB.out)⟩

/-! ### laws_FnMtTrimSuffix: function 5 -/
mutual
def laws_FnMtTrimSuffix.j0 : Nat → ByteArray → ByteArray → Bool → Option (Bool)
  | 0, _, _, _ => none
  | k + 1, x0, x1, x19 => if x19 = true then (some true) else (if 1 + x1.size ≤ 9223372036854775807 then ((laws_mtTold.f k x0 ((⟨#[42]⟩ : ByteArray) ++ x1)).bind fun bt169 => (if bt169.2 = true then ((impl_MtTrimSuffix.f k x0 ((⟨#[42]⟩ : ByteArray) ++ x1)).bind fun bt171 => (if (bt171.1.size : Int) > (x0.size : Int) then (laws_FnMtTrimSuffix.j1 k bt169.1 bt171.1 bt171.2.1 bt171.2.2 true) else (if 0 ≤ (bt171.1.size : Int) then (if (bt171.1.size : Int) ≤ (x0.size : Int) then (if (x0.extract 0 ((bt171.1.size : Int) : Int).toNat).toList = bt171.1.toList then (if (bt171.2.1.size : Int) > (wrap64 ((x1.size : Int) + 1)) then (laws_FnMtTrimSuffix.j1 k bt169.1 bt171.1 bt171.2.1 bt171.2.2 true) else (if bt171.2.1.toList = ([] : List UInt8) then (laws_FnMtTrimSuffix.j1 k bt169.1 bt171.1 bt171.2.1 bt171.2.2 true) else (if 0 ≤ (bt171.2.1.size : Int) then (if (bt171.2.1.size : Int) ≤ (((⟨#[42]⟩ : ByteArray) ++ x1).size : Int) then (laws_FnMtTrimSuffix.j1 k bt169.1 bt171.1 bt171.2.1 bt171.2.2 ((((⟨#[42]⟩ : ByteArray) ++ x1).extract 0 ((bt171.2.1.size : Int) : Int).toNat).toList != bt171.2.1.toList)) else (none)) else (none)))) else (laws_FnMtTrimSuffix.j1 k bt169.1 bt171.1 bt171.2.1 bt171.2.2 true)) else (none)) else (none)))) else (some true))) else (none))
def laws_FnMtTrimSuffix.j1 : Nat → Bool → ByteArray → ByteArray → Bool → Bool → Option (Bool)
  | 0, _, _, _, _, _ => none
  | k + 1, x5, x7, x8, x9, x70 => if x70 = true then (some false) else (if x9 = true then ((spec_Matches.f k x7 x8).bind fun bt174 => (if bt174.2 = true then (some (bt174.1 == x5)) else (some false))) else (some (!x5)))
end
def laws_FnMtTrimSuffix.f (k : Nat) (a0 : ByteArray) (a1 : ByteArray) : Option (Bool) := if (a0.size : Int) > 2147483647 then (laws_FnMtTrimSuffix.j0 k a0 a1 true) else (laws_FnMtTrimSuffix.j0 k a0 a1 (decide ((a1.size : Int) > 2147483647)))
theorem laws_FnMtTrimSuffix.mono_l : ∀ k, (∀ y0 y1 y2, LeO (laws_FnMtTrimSuffix.j0 k y0 y1 y2) (laws_FnMtTrimSuffix.j0 (k + 1) y0 y1 y2)) ∧ (∀ y0 y1 y2 y3 y4, LeO (laws_FnMtTrimSuffix.j1 k y0 y1 y2 y3 y4) (laws_FnMtTrimSuffix.j1 (k + 1) y0 y1 y2 y3 y4))
  | 0 => ⟨fun _ _ _ r h => by simp [laws_FnMtTrimSuffix.j0] at h, fun _ _ _ _ _ r h => by simp [laws_FnMtTrimSuffix.j1] at h⟩
  | k + 1 => by
    obtain ⟨ih0, ih1⟩ := laws_FnMtTrimSuffix.mono_l k
    refine ⟨?_, ?_⟩
    · intro y0 y1 y2
      unfold laws_FnMtTrimSuffix.j0
      repeat' first
      | (with_reducible exact ih0 _ _ _)
      | (with_reducible exact ih1 _ _ _ _ _)
      | (with_reducible exact impl_MtTrimSuffix.mono _ _ _)
      | (with_reducible exact laws_mtTold.mono _ _ _)
      | (with_reducible exact spec_Matches.mono _ _ _)
      | (with_reducible exact LeO.refl _)
      | (with_reducible exact LeO.none _)
      | (with_reducible refine LeO.ite ?_ ?_)
      | (with_reducible refine LeO.bind ?_ (fun _ => ?_))
      | exact ih0 _ _ _
      | exact ih1 _ _ _ _ _
      | exact impl_MtTrimSuffix.mono _ _ _
      | exact laws_mtTold.mono _ _ _
      | exact spec_Matches.mono _ _ _
      | exact LeO.none _
      | refine LeO.ite ?_ ?_
      | refine LeO.bind ?_ (fun _ => ?_)
    · intro y0 y1 y2 y3 y4
      unfold laws_FnMtTrimSuffix.j1
      repeat' first
      | (with_reducible exact ih0 _ _ _)
      | (with_reducible exact ih1 _ _ _ _ _)
      | (with_reducible exact impl_MtTrimSuffix.mono _ _ _)
      | (with_reducible exact laws_mtTold.mono _ _ _)
      | (with_reducible exact spec_Matches.mono _ _ _)
      | (with_reducible exact LeO.refl _)
      | (with_reducible exact LeO.none _)
      | (with_reducible refine LeO.ite ?_ ?_)
      | (with_reducible refine LeO.bind ?_ (fun _ => ?_))
      | exact ih0 _ _ _
      | exact ih1 _ _ _ _ _
      | exact impl_MtTrimSuffix.mono _ _ _
      | exact laws_mtTold.mono _ _ _
      | exact spec_Matches.mono _ _ _
      | exact LeO.none _
      | refine LeO.ite ?_ ?_
      | refine LeO.bind ?_ (fun _ => ?_)
theorem laws_FnMtTrimSuffix.mono : ∀ a0 a1 k, LeO (laws_FnMtTrimSuffix.f k a0 a1) (laws_FnMtTrimSuffix.f (k + 1) a0 a1) := by
  intro a0 a1 k
  obtain ⟨ih0, ih1⟩ := laws_FnMtTrimSuffix.mono_l k
  unfold laws_FnMtTrimSuffix.f
  repeat' first
      | (with_reducible exact ih0 _ _ _)
      | (with_reducible exact ih1 _ _ _ _ _)
      | (with_reducible exact impl_MtTrimSuffix.mono _ _ _)
      | (with_reducible exact laws_mtTold.mono _ _ _)
      | (with_reducible exact spec_Matches.mono _ _ _)
      | (with_reducible exact LeO.refl _)
      | (with_reducible exact LeO.none _)
      | (with_reducible refine LeO.ite ?_ ?_)
      | (with_reducible refine LeO.bind ?_ (fun _ => ?_))
      | exact ih0 _ _ _
      | exact ih1 _ _ _ _ _
      | exact impl_MtTrimSuffix.mono _ _ _
      | exact laws_mtTold.mono _ _ _
      | exact spec_Matches.mono _ _ _
      | exact LeO.none _
      | refine LeO.ite ?_ ?_
      | refine LeO.bind ?_ (fun _ => ?_)
set_option maxHeartbeats 8000000 in
set_option maxRecDepth 100000 in
theorem laws_FnMtTrimSuffix.calls (k : Nat) (a0 : ByteArray) (a1 : ByteArray) (r : Bool) (w : World) (hL : Laid w) (h : laws_FnMtTrimSuffix.f k a0 a1 = some r) :
    Calls Tryd.prog 5 #[.string a0, .string a1] w fun e w' => e = .returned (.bool r) ∧ Below w.heap.size w w' := by
  have HB := Aside0.mk (Below.refl w.heap.size w)
  have HLD := Aside0.mk hL
  clear hL
  have H : (if (a0.size : Int) > 2147483647 then (laws_FnMtTrimSuffix.j0 k a0 a1 true) else (laws_FnMtTrimSuffix.j0 k a0 a1 (decide ((a1.size : Int) > 2147483647)))) = some r := h
  clear h
  have HC3 := Aside0.mk H
  clear H
  go_enter Tryd.func5, Tryd.ntmps5
  go_upto_region 1 with (fail)
  go_cut [19] (fun v19 wc => ∃ (kq : Nat) (x19_2 : Bool), v19 = .bool x19_2 ∧ Aside0 (laws_FnMtTrimSuffix.j0 kq a0 a1 x19_2 = some r) ∧ Aside0 (kq ≤ k) ∧ Aside0 (Below w.heap.size w wc))
  case first =>
    have H := HC3.out
    clear HC3
    by_cases c4 : (a0.size : Int) > 2147483647
    · rw [if_pos c4] at H
      have c4b0 : decide (2147483647 < (a0.size : Int)) = true := decide_eq_true c4
      have c4b1 : decide (2147483647 < a0.size) = true := decide_eq_true (by omega)
      clear c4
      (first | rw [c4b0] | (simp only [i64_w, i32_w]; rw [c4b0]) | skip)
      have H' := Aside0.mk H
      clear H
      go_wp2
      (first | go_meet)
      case rel => exact ⟨_, (true), (by first | rfl | (simp; done) | (simp [*]; done)), H', ⟨by first | omega | exact Nat.le_refl _⟩, ⟨by repeat (first | (with_reducible first | exact HB.out | apply below_alloc | apply pw_below_drewN | apply below_drew1) | exact HB.out)⟩⟩
    · rw [if_neg c4] at H
      have c4b0 : decide (2147483647 < (a0.size : Int)) = false := decide_eq_false c4
      have c4b1 : decide (2147483647 < a0.size) = false := decide_eq_false (by omega)
      clear c4
      (first | rw [c4b0] | (simp only [i64_w, i32_w]; rw [c4b0]) | skip)
      have H' := Aside0.mk H
      clear H
      go_wp2
      (first | go_meet)
      case rel => exact ⟨_, (decide ((a1.size : Int) > 2147483647)), (by first | rfl | (simp; done) | (simp [*]; done)), H', ⟨by first | omega | exact Nat.le_refl _⟩, ⟨by repeat (first | (with_reducible first | exact HB.out | apply below_alloc | apply pw_below_drewN | apply below_drew1) | exact HB.out)⟩⟩
  case rest =>
    clear HC3
    try clear p2
    try clear c4
    try clear c4b0
    try clear c4b1
    obtain ⟨kq, x19_2, rfl, HA, HJ2, HB⟩ := hcut
    cases kq with
    | zero => exact absurd HA.out (by simp [laws_FnMtTrimSuffix.j0])
    | succ kj2 =>
      have H := HA.out
      clear HA
      simp only [laws_FnMtTrimSuffix.j0] at H
      by_cases c5 : x19_2 = true
      · subst c5
        have H1 : (some true) = some r := by rw [if_pos rfl] at H; exact H
        clear H
        have H := H1
        clear H1
        obtain rfl := Option.some.inj H
        go_wp2
        go_ret
        exact ⟨by first | rfl | (simp [errW_none, errW_some] <;> rfl) | (simp [*, errW_none, errW_some] <;> rfl), by repeat (first | (with_reducible first | exact HB.out | apply below_alloc | apply pw_below_drewN | apply below_drew1) | exact HB.out)⟩
      · replace c5 := Bool.eq_false_iff.mpr c5
        subst c5
        have H1 : (if 1 + a1.size ≤ 9223372036854775807 then ((laws_mtTold.f kj2 a0 ((⟨#[42]⟩ : ByteArray) ++ a1)).bind fun bt169 => (if bt169.2 = true then ((impl_MtTrimSuffix.f kj2 a0 ((⟨#[42]⟩ : ByteArray) ++ a1)).bind fun bt171 => (if (bt171.1.size : Int) > (a0.size : Int) then (laws_FnMtTrimSuffix.j1 kj2 bt169.1 bt171.1 bt171.2.1 bt171.2.2 true) else (if 0 ≤ (bt171.1.size : Int) then (if (bt171.1.size : Int) ≤ (a0.size : Int) then (if (a0.extract 0 ((bt171.1.size : Int) : Int).toNat).toList = bt171.1.toList then (if (bt171.2.1.size : Int) > (wrap64 ((a1.size : Int) + 1)) then (laws_FnMtTrimSuffix.j1 kj2 bt169.1 bt171.1 bt171.2.1 bt171.2.2 true) else (if bt171.2.1.toList = ([] : List UInt8) then (laws_FnMtTrimSuffix.j1 kj2 bt169.1 bt171.1 bt171.2.1 bt171.2.2 true) else (if 0 ≤ (bt171.2.1.size : Int) then (if (bt171.2.1.size : Int) ≤ (((⟨#[42]⟩ : ByteArray) ++ a1).size : Int) then (laws_FnMtTrimSuffix.j1 kj2 bt169.1 bt171.1 bt171.2.1 bt171.2.2 ((((⟨#[42]⟩ : ByteArray) ++ a1).extract 0 ((bt171.2.1.size : Int) : Int).toNat).toList != bt171.2.1.toList)) else (none)) else (none)))) else (laws_FnMtTrimSuffix.j1 kj2 bt169.1 bt171.1 bt171.2.1 bt171.2.2 true)) else (none)) else (none)))) else (some true))) else (none)) = some r := by rw [if_neg (show ¬ (false = true) by decide)] at H; exact H
        clear H
        have H := H1
        clear H1
        by_cases c6 : 1 + a1.size ≤ 9223372036854775807
        · rw [if_pos c6] at H
          have c6b0 := eq_true c6
          have c6b1 : decide (1 + a1.size ≤ 9223372036854775807) = true := decide_eq_true c6
          try have c6b2 : (9223372036854775807 < 1 + a1.size) = False := eq_false (Nat.not_lt.2 c6)
          replace H := Option.bind_eq_some_iff.mp H
          obtain ⟨⟨t169, t170⟩, A70, H⟩ := H
          replace H : (if t170 = true then ((impl_MtTrimSuffix.f kj2 a0 ((⟨#[42]⟩ : ByteArray) ++ a1)).bind fun bt171 => (if (bt171.1.size : Int) > (a0.size : Int) then (laws_FnMtTrimSuffix.j1 kj2 t169 bt171.1 bt171.2.1 bt171.2.2 true) else (if 0 ≤ (bt171.1.size : Int) then (if (bt171.1.size : Int) ≤ (a0.size : Int) then (if (a0.extract 0 ((bt171.1.size : Int) : Int).toNat).toList = bt171.1.toList then (if (bt171.2.1.size : Int) > (wrap64 ((a1.size : Int) + 1)) then (laws_FnMtTrimSuffix.j1 kj2 t169 bt171.1 bt171.2.1 bt171.2.2 true) else (if bt171.2.1.toList = ([] : List UInt8) then (laws_FnMtTrimSuffix.j1 kj2 t169 bt171.1 bt171.2.1 bt171.2.2 true) else (if 0 ≤ (bt171.2.1.size : Int) then (if (bt171.2.1.size : Int) ≤ (((⟨#[42]⟩ : ByteArray) ++ a1).size : Int) then (laws_FnMtTrimSuffix.j1 kj2 t169 bt171.1 bt171.2.1 bt171.2.2 ((((⟨#[42]⟩ : ByteArray) ++ a1).extract 0 ((bt171.2.1.size : Int) : Int).toNat).toList != bt171.2.1.toList)) else (none)) else (none)))) else (laws_FnMtTrimSuffix.j1 kj2 t169 bt171.1 bt171.2.1 bt171.2.2 true)) else (none)) else (none)))) else (some true)) = some r := H
          have A7 := Aside0.mk A70
          clear A70
          by_cases c8 : t170 = true
          · subst c8
            have H1 : ((impl_MtTrimSuffix.f kj2 a0 ((⟨#[42]⟩ : ByteArray) ++ a1)).bind fun bt171 => (if (bt171.1.size : Int) > (a0.size : Int) then (laws_FnMtTrimSuffix.j1 kj2 t169 bt171.1 bt171.2.1 bt171.2.2 true) else (if 0 ≤ (bt171.1.size : Int) then (if (bt171.1.size : Int) ≤ (a0.size : Int) then (if (a0.extract 0 ((bt171.1.size : Int) : Int).toNat).toList = bt171.1.toList then (if (bt171.2.1.size : Int) > (wrap64 ((a1.size : Int) + 1)) then (laws_FnMtTrimSuffix.j1 kj2 t169 bt171.1 bt171.2.1 bt171.2.2 true) else (if bt171.2.1.toList = ([] : List UInt8) then (laws_FnMtTrimSuffix.j1 kj2 t169 bt171.1 bt171.2.1 bt171.2.2 true) else (if 0 ≤ (bt171.2.1.size : Int) then (if (bt171.2.1.size : Int) ≤ (((⟨#[42]⟩ : ByteArray) ++ a1).size : Int) then (laws_FnMtTrimSuffix.j1 kj2 t169 bt171.1 bt171.2.1 bt171.2.2 ((((⟨#[42]⟩ : ByteArray) ++ a1).extract 0 ((bt171.2.1.size : Int) : Int).toNat).toList != bt171.2.1.toList)) else (none)) else (none)))) else (laws_FnMtTrimSuffix.j1 kj2 t169 bt171.1 bt171.2.1 bt171.2.2 true)) else (none)) else (none)))) = some r := by rw [if_pos rfl] at H; exact H
            clear H
            have H := H1
            clear H1
            replace H := Option.bind_eq_some_iff.mp H
            obtain ⟨⟨t171, t172, t173⟩, A90, H⟩ := H
            replace H : (if (t171.size : Int) > (a0.size : Int) then (laws_FnMtTrimSuffix.j1 kj2 t169 t171 t172 t173 true) else (if 0 ≤ (t171.size : Int) then (if (t171.size : Int) ≤ (a0.size : Int) then (if (a0.extract 0 ((t171.size : Int) : Int).toNat).toList = t171.toList then (if (t172.size : Int) > (wrap64 ((a1.size : Int) + 1)) then (laws_FnMtTrimSuffix.j1 kj2 t169 t171 t172 t173 true) else (if t172.toList = ([] : List UInt8) then (laws_FnMtTrimSuffix.j1 kj2 t169 t171 t172 t173 true) else (if 0 ≤ (t172.size : Int) then (if (t172.size : Int) ≤ (((⟨#[42]⟩ : ByteArray) ++ a1).size : Int) then (laws_FnMtTrimSuffix.j1 kj2 t169 t171 t172 t173 ((((⟨#[42]⟩ : ByteArray) ++ a1).extract 0 ((t172.size : Int) : Int).toNat).toList != t172.toList)) else (none)) else (none)))) else (laws_FnMtTrimSuffix.j1 kj2 t169 t171 t172 t173 true)) else (none)) else (none))) = some r := H
            have A9 := Aside0.mk A90
            clear A90
            have HC10 := Aside0.mk H
            clear H
            go_upto_region 7 with (first | ((with_reducible refine gate_callee (f := 14) rfl ?_); refine goesL_ (some 24) rfl rfl Tryd.func14 (by kernel_rfl) rfl #[.string a0, .string ((⟨#[42]⟩ : ByteArray) ++ a1)] rfl (by (try simp only [List.map_toArray, List.map_cons, List.map_nil]); first | done | rfl | (simp only [List.length_drop, List.length_take]; rfl)) ?_; (with_reducible refine (laws_mtTold.calls kj2 a0 ((⟨#[42]⟩ : ByteArray) ++ a1) t169 true _ A7.out).mono ?_); rintro e w11 ⟨rfl, hb⟩; refine ⟨_, rfl, ?_⟩; have n0_ := Aside0.mk (below_step (by repeat (first | (with_reducible first | exact HB.out | apply below_alloc | apply pw_below_drewN | apply below_drew1) | exact HB.out)) hb); clear HB; have HB := n0_; clear n0_; (try clear hb); (try clear hb2); (try clear hk); (try clear hi)) | ((with_reducible refine gate_callee (f := 15) rfl ?_); refine goesL_ (some 33) rfl rfl Tryd.func15 (by kernel_rfl) rfl #[.string a0, .string ((⟨#[42]⟩ : ByteArray) ++ a1)] rfl (by (try simp only [List.map_toArray, List.map_cons, List.map_nil]); first | done | rfl | (simp only [List.length_drop, List.length_take]; rfl)) ?_; (with_reducible refine (impl_MtTrimSuffix.calls kj2 a0 ((⟨#[42]⟩ : ByteArray) ++ a1) t171 t172 t173 _ ?side1 A9.out).mono ?_); (case side1 => exact Laid.below HLD.out (by repeat (first | (with_reducible first | exact HB.out | apply below_alloc | apply pw_below_drewN | apply below_drew1) | exact HB.out))); rintro e w12 ⟨rfl, hb⟩; refine ⟨_, rfl, ?_⟩; have n0_ := Aside0.mk (below_step (by repeat (first | (with_reducible first | exact HB.out | apply below_alloc | apply pw_below_drewN | apply below_drew1) | exact HB.out)) hb); clear HB; have HB := n0_; clear n0_; (try clear hb); (try clear hb2); (try clear hk); (try clear hi)))
            (try simp only [Act.put, List.setIfInBounds_toArray, List.set_cons_zero, List.set_cons_succ])
            go_cut [70] (fun v70 wc => ∃ (kq : Nat) (x70_9 : Bool), v70 = .bool x70_9 ∧ Aside0 (laws_FnMtTrimSuffix.j1 kq t169 t171 t172 t173 x70_9 = some r) ∧ Aside0 (kq ≤ kj2) ∧ Aside0 (Below w.heap.size w wc))
            case first =>
              have H := HC10.out
              clear HC10
              by_cases c13 : (t171.size : Int) > (a0.size : Int)
              · rw [if_pos c13] at H
                have c13b0 : decide ((a0.size : Int) < (t171.size : Int)) = true := decide_eq_true c13
                have c13b1 : decide (a0.size < t171.size) = true := decide_eq_true (Int.ofNat_lt.mp c13)
                clear c13
                (first | rw [c13b0] | (simp only [i64_w, i32_w]; rw [c13b0]) | skip)
                have H' := Aside0.mk H
                clear H
                go_wp2
                (first | go_meet)
                case rel => exact ⟨_, (true), (by first | rfl | (simp; done) | (simp [*]; done)), H', ⟨by have := HJ2.out; first | omega | exact Nat.le_refl _⟩, ⟨by repeat (first | (with_reducible first | exact HB.out | apply below_alloc | apply pw_below_drewN | apply below_drew1) | exact HB.out)⟩⟩
              · rw [if_neg c13] at H
                have c13b0 : decide ((a0.size : Int) < (t171.size : Int)) = false := decide_eq_false c13
                have c13b1 : decide (a0.size < t171.size) = false := decide_eq_false (fun h => c13 (Int.ofNat_lt.mpr h))
                clear c13
                (first | rw [c13b0] | (simp only [i64_w, i32_w]; rw [c13b0]) | skip)
                by_cases c14 : 0 ≤ (t171.size : Int)
                · rw [if_pos c14] at H
                  have c14b0 := eq_true c14
                  have c14b1 : decide (0 ≤ (t171.size : Int)) = true := decide_eq_true c14
                  clear c14
                  by_cases c15 : (t171.size : Int) ≤ (a0.size : Int)
                  · rw [if_pos c15] at H
                    have c15b0 := eq_true c15
                    have c15b1 : decide ((t171.size : Int) ≤ (a0.size : Int)) = true := decide_eq_true c15
                    clear c15
                    by_cases c16 : (a0.extract 0 ((t171.size : Int) : Int).toNat).toList = t171.toList
                    · rw [if_pos c16] at H
                      have c16b0 : ((a0.extract 0 ((t171.size : Int) : Int).toNat).toList == t171.toList) = true := beq_iff_eq.mpr c16
                      have c16b1 : ((a0.extract 0 ((t171.size : Int) : Int).toNat).toList != t171.toList) = false := bne_eq_false_iff_eq.mpr c16
                      clear c16
                      have d16 : (a0.extract 0 t171.size).toList = t171.toList := by simpa using c16b0
                      by_cases c17 : (t172.size : Int) > (wrap64 ((a1.size : Int) + 1))
                      · rw [if_pos c17] at H
                        have c17b0 : decide ((wrap64 ((a1.size : Int) + 1)) < (t172.size : Int)) = true := decide_eq_true c17
                        clear c17
                        have w17 : wrap64 ((a1.size : Int) + 1) = (a1.size : Int) + 1 := by unfold wrap64; omega
                        have d17 : (a1.size : Int) + 1 < (t172.size : Int) := by rw [w17] at c17b0; simpa using c17b0
                        have H' := Aside0.mk H
                        clear H
                        go_wp2
                        (first | go_meet | (rw [← c16b0]; go_meet))
                        case rel => exact ⟨_, (true), (by first | rfl | (simp; done) | (simp [*]; done)), H', ⟨by have := HJ2.out; first | omega | exact Nat.le_refl _⟩, ⟨by repeat (first | (with_reducible first | exact HB.out | apply below_alloc | apply pw_below_drewN | apply below_drew1) | exact HB.out)⟩⟩
                      · rw [if_neg c17] at H
                        have c17b0 : decide ((wrap64 ((a1.size : Int) + 1)) < (t172.size : Int)) = false := decide_eq_false c17
                        clear c17
                        have w17 : wrap64 ((a1.size : Int) + 1) = (a1.size : Int) + 1 := by unfold wrap64; omega
                        have d17 : (t172.size : Int) ≤ (a1.size : Int) + 1 := by rw [w17] at c17b0; simpa using c17b0
                        by_cases c18 : t172.toList = ([] : List UInt8)
                        · rw [if_pos c18] at H
                          have c18b0 : (t172.toList == ([] : List UInt8)) = true := beq_iff_eq.mpr c18
                          have c18b1 : (t172.toList != ([] : List UInt8)) = false := bne_eq_false_iff_eq.mpr c18
                          clear c18
                          have d18 : t172.toList = ([] : List UInt8) := by simpa using c18b0
                          have H' := Aside0.mk H
                          clear H
                          go_wp2
                          (first | go_meet | (rw [← c16b0]; go_meet) | (rw [← c18b0]; go_meet))
                          case rel => exact ⟨_, (true), (by first | rfl | (simp; done) | (simp [*]; done)), H', ⟨by have := HJ2.out; first | omega | exact Nat.le_refl _⟩, ⟨by repeat (first | (with_reducible first | exact HB.out | apply below_alloc | apply pw_below_drewN | apply below_drew1) | exact HB.out)⟩⟩
                        · rw [if_neg c18] at H
                          have c18b0 : (t172.toList == ([] : List UInt8)) = false := beq_eq_false_iff_ne.mpr c18
                          have c18b1 : (t172.toList != ([] : List UInt8)) = true := bne_iff_ne.mpr c18
                          have d18 : ¬ t172.toList = ([] : List UInt8) := c18
                          by_cases c19 : 0 ≤ (t172.size : Int)
                          · rw [if_pos c19] at H
                            have c19b0 := eq_true c19
                            have c19b1 : decide (0 ≤ (t172.size : Int)) = true := decide_eq_true c19
                            clear c19
                            by_cases c20 : (t172.size : Int) ≤ (((⟨#[42]⟩ : ByteArray) ++ a1).size : Int)
                            · rw [if_pos c20] at H
                              have c20b0 := eq_true c20
                              have c20b1 : decide ((t172.size : Int) ≤ (((⟨#[42]⟩ : ByteArray) ++ a1).size : Int)) = true := decide_eq_true c20
                              have d20 : (t172.size : Int) ≤ 1 + (a1.size : Int) := by have := d17; omega
                              have H' := Aside0.mk H
                              clear H
                              go_wp2
                              (first | go_meet | (rw [← c16b0]; go_meet) | (rw [← c18b0]; go_meet))
                              case rel => exact ⟨_, (((((⟨#[42]⟩ : ByteArray) ++ a1).extract 0 ((t172.size : Int) : Int).toNat).toList != t172.toList)), (by have e : decide ((a1.size : Int) + 1 < (t172.size : Int)) = false := decide_eq_false (by have := d17; omega); first | rfl | (simp only [e, bne, Bool.false_or, Int.toNat_natCast]; done) | (simp [bne, e]; done) | (simp; done) | (simp [*]; done)), H', ⟨by have := HJ2.out; first | omega | exact Nat.le_refl _⟩, ⟨by repeat (first | (with_reducible first | exact HB.out | apply below_alloc | apply pw_below_drewN | apply below_drew1) | exact HB.out)⟩⟩
                            · rw [if_neg c20] at H
                              exact absurd H (by simp)
                          · rw [if_neg c19] at H
                            exact absurd H (by simp)
                    · rw [if_neg c16] at H
                      have c16b0 : ((a0.extract 0 ((t171.size : Int) : Int).toNat).toList == t171.toList) = false := beq_eq_false_iff_ne.mpr c16
                      have c16b1 : ((a0.extract 0 ((t171.size : Int) : Int).toNat).toList != t171.toList) = true := bne_iff_ne.mpr c16
                      have H' := Aside0.mk H
                      clear H
                      go_wp2
                      (first | go_meet | (rw [← c16b0]; go_meet))
                      case rel => exact ⟨_, (true), (by first | rfl | (simp; done) | (simp [*]; done)), H', ⟨by have := HJ2.out; first | omega | exact Nat.le_refl _⟩, ⟨by repeat (first | (with_reducible first | exact HB.out | apply below_alloc | apply pw_below_drewN | apply below_drew1) | exact HB.out)⟩⟩
                  · rw [if_neg c15] at H
                    exact absurd H (by simp)
                · rw [if_neg c14] at H
                  exact absurd H (by simp)
            case rest =>
              clear HC10
              try clear c1
              try clear c2
              try clear p2
              try clear c4
              try clear c4b0
              try clear c4b1
              try clear c5
              try clear c6
              try clear c6b0
              try clear c6b1
              try clear c6b2
              try clear p6
              try clear c8
              try clear c13
              try clear c13b0
              try clear c13b1
              try clear c14
              try clear c14b0
              try clear c14b1
              try clear c15
              try clear c15b0
              try clear c15b1
              try clear c16
              try clear c16b0
              try clear c16b1
              try clear c17
              try clear c17b0
              try clear c18
              try clear c18b0
              try clear c18b1
              try clear c19
              try clear c19b0
              try clear c19b1
              try clear c20
              try clear c20b0
              try clear c20b1
              try clear p2
              obtain ⟨kq, x70_9, rfl, HA, HJ9, HB⟩ := hcut
              cases kq with
              | zero => exact absurd HA.out (by simp [laws_FnMtTrimSuffix.j1])
              | succ kj9 =>
                have H := HA.out
                clear HA
                simp only [laws_FnMtTrimSuffix.j1] at H
                by_cases c21 : x70_9 = true
                · subst c21
                  have H1 : (some false) = some r := by rw [if_pos rfl] at H; exact H
                  clear H
                  have H := H1
                  clear H1
                  obtain rfl := Option.some.inj H
                  go_wp2
                  go_ret
                  exact ⟨by first | rfl | (simp [errW_none, errW_some] <;> rfl) | (simp [*, errW_none, errW_some] <;> rfl), by repeat (first | (with_reducible first | exact HB.out | apply below_alloc | apply pw_below_drewN | apply below_drew1) | exact HB.out)⟩
                · replace c21 := Bool.eq_false_iff.mpr c21
                  subst c21
                  have H1 : (if t173 = true then ((spec_Matches.f kj9 t171 t172).bind fun bt174 => (if bt174.2 = true then (some (bt174.1 == t169)) else (some false))) else (some (!t169))) = some r := by rw [if_neg (show ¬ (false = true) by decide)] at H; exact H
                  clear H
                  have H := H1
                  clear H1
                  by_cases c22 : t173 = true
                  · subst c22
                    have H1 : ((spec_Matches.f kj9 t171 t172).bind fun bt174 => (if bt174.2 = true then (some (bt174.1 == t169)) else (some false))) = some r := by rw [if_pos rfl] at H; exact H
                    clear H
                    have H := H1
                    clear H1
                    replace H := Option.bind_eq_some_iff.mp H
                    obtain ⟨⟨t174, t175⟩, A230, H⟩ := H
                    replace H : (if t175 = true then (some (t174 == t169)) else (some false)) = some r := H
                    have A23 := Aside0.mk A230
                    clear A230
                    by_cases c24 : t175 = true
                    · subst c24
                      have H1 : (some (t174 == t169)) = some r := by rw [if_pos rfl] at H; exact H
                      clear H
                      have H := H1
                      clear H1
                      obtain rfl := Option.some.inj H
                      go_wp2_with (first | ((with_reducible refine gate_callee (f := 16) rfl ?_); refine goesL_ (some 78) rfl rfl Tryd.func16 (by kernel_rfl) rfl #[.string t171, .string t172] rfl (by (try simp only [List.map_toArray, List.map_cons, List.map_nil]); first | done | rfl | (simp only [List.length_drop, List.length_take]; rfl)) ?_; (with_reducible refine (spec_Matches.calls kj9 t171 t172 t174 true _ A23.out).mono ?_); rintro e w25 ⟨rfl, hb⟩; refine ⟨_, rfl, ?_⟩; have n0_ := Aside0.mk (below_step (by repeat (first | (with_reducible first | exact HB.out | apply below_alloc | apply pw_below_drewN | apply below_drew1) | exact HB.out)) hb); clear HB; have HB := n0_; clear n0_; (try clear hb); (try clear hb2); (try clear hk); (try clear hi)))
                      go_ret
                      exact ⟨by first | rfl | (simp [errW_none, errW_some] <;> rfl) | (simp [*, errW_none, errW_some] <;> rfl), by repeat (first | (with_reducible first | exact HB.out | apply below_alloc | apply pw_below_drewN | apply below_drew1) | exact HB.out)⟩
                    · replace c24 := Bool.eq_false_iff.mpr c24
                      subst c24
                      have H1 : (some false) = some r := by rw [if_neg (show ¬ (false = true) by decide)] at H; exact H
                      clear H
                      have H := H1
                      clear H1
                      obtain rfl := Option.some.inj H
                      go_wp2_with (first | ((with_reducible refine gate_callee (f := 16) rfl ?_); refine goesL_ (some 78) rfl rfl Tryd.func16 (by kernel_rfl) rfl #[.string t171, .string t172] rfl (by (try simp only [List.map_toArray, List.map_cons, List.map_nil]); first | done | rfl | (simp only [List.length_drop, List.length_take]; rfl)) ?_; (with_reducible refine (spec_Matches.calls kj9 t171 t172 t174 false _ A23.out).mono ?_); rintro e w26 ⟨rfl, hb⟩; refine ⟨_, rfl, ?_⟩; have n0_ := Aside0.mk (below_step (by repeat (first | (with_reducible first | exact HB.out | apply below_alloc | apply pw_below_drewN | apply below_drew1) | exact HB.out)) hb); clear HB; have HB := n0_; clear n0_; (try clear hb); (try clear hb2); (try clear hk); (try clear hi)))
                      go_ret
                      exact ⟨by first | rfl | (simp [errW_none, errW_some] <;> rfl) | (simp [*, errW_none, errW_some] <;> rfl), by repeat (first | (with_reducible first | exact HB.out | apply below_alloc | apply pw_below_drewN | apply below_drew1) | exact HB.out)⟩
                  · replace c22 := Bool.eq_false_iff.mpr c22
                    subst c22
                    have H1 : (some (!t169)) = some r := by rw [if_neg (show ¬ (false = true) by decide)] at H; exact H
                    clear H
                    have H := H1
                    clear H1
                    obtain rfl := Option.some.inj H
                    go_wp2
                    go_ret
                    exact ⟨by first | rfl | (simp [errW_none, errW_some] <;> rfl) | (simp [*, errW_none, errW_some] <;> rfl), by repeat (first | (with_reducible first | exact HB.out | apply below_alloc | apply pw_below_drewN | apply below_drew1) | exact HB.out)⟩
          · replace c8 := Bool.eq_false_iff.mpr c8
            subst c8
            have H1 : (some true) = some r := by rw [if_neg (show ¬ (false = true) by decide)] at H; exact H
            clear H
            have H := H1
            clear H1
            obtain rfl := Option.some.inj H
            go_wp2_with (first | ((with_reducible refine gate_callee (f := 14) rfl ?_); refine goesL_ (some 24) rfl rfl Tryd.func14 (by kernel_rfl) rfl #[.string a0, .string ((⟨#[42]⟩ : ByteArray) ++ a1)] rfl (by (try simp only [List.map_toArray, List.map_cons, List.map_nil]); first | done | rfl | (simp only [List.length_drop, List.length_take]; rfl)) ?_; (with_reducible refine (laws_mtTold.calls kj2 a0 ((⟨#[42]⟩ : ByteArray) ++ a1) t169 false _ A7.out).mono ?_); rintro e w27 ⟨rfl, hb⟩; refine ⟨_, rfl, ?_⟩; have n0_ := Aside0.mk (below_step (by repeat (first | (with_reducible first | exact HB.out | apply below_alloc | apply pw_below_drewN | apply below_drew1) | exact HB.out)) hb); clear HB; have HB := n0_; clear n0_; (try clear hb); (try clear hb2); (try clear hk); (try clear hi)))
            go_ret
            exact ⟨by first | rfl | (simp [errW_none, errW_some] <;> rfl) | (simp [*, errW_none, errW_some] <;> rfl), by repeat (first | (with_reducible first | exact HB.out | apply below_alloc | apply pw_below_drewN | apply below_drew1) | exact HB.out)⟩
        · rw [if_neg c6] at H
          exact absurd H (by simp)

/-- THE ONE PURE STATEMENT of laws_FnMtTrimSuffix: yours. -/
def laws_FnMtTrimSuffix.Pure : Prop := ∀ (a0 : ByteArray) (a1 : ByteArray), a0.size ≤ 140737488351232 → a1.size ≤ 140737488351232 → ∃ k, laws_FnMtTrimSuffix.f k a0 a1 = some true
theorem laws_FnMtTrimSuffix.walk (P : laws_FnMtTrimSuffix.Pure) (a0 : ByteArray) (a1 : ByteArray) (w : World) (hL : Laid w) (w0 : a0.size ≤ 140737488351232) (w1 : a1.size ≤ 140737488351232) :
    Calls Tryd.prog 5 #[.string a0, .string a1] w fun e w' => e = .returned (.bool true) ∧ Below w.heap.size w w' := by
  obtain ⟨k, h⟩ := P a0 a1 w0 w1
  refine (laws_FnMtTrimSuffix.calls k a0 a1 true w hL h).mono ?_
  rintro e w' ⟨rfl, hd⟩
  exact ⟨rfl, hd⟩

end Go.Proofs.YtkdpkenhhcgnbaaDoor.PFnMtTrimSuffix
