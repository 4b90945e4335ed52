-- Written for this claim by this session's own program (wip/xprint).
import Derived.Test.YtfmllmlloekojaaDoorPFnFjCheckMembersx0
import Derived.Test.YtfmllmlloekojaaDoorPFnFjCheckMembersx2
namespace Go.Proofs.YtfmllmlloekojaaDoor.PFnFjCheckMembers
open Go.RowKit Go.Proofs.YtfmllmlloekojaaDoorW.PrintWords Go.Proofs.YtfmllmlloekojaaDoorW.PrintLast Go.Proofs.YtfmllmlloekojaaDoorW.PrintMore
attribute [local go_sem] max2_int min2_int max_two min_two max_three min_three max_four min_four   -- for this text's walks alone
set_option linter.unusedVariables false
set_option linter.unusedSimpArgs false

/-! ### fastjson_validateString: function 109 -/
mutual
def fastjson_validateString.j0 : Nat → ByteArray → Int → Bool → Option (ByteArray × ByteArray × Option Int)
  | 0, _, _, _ => none
  | k + 1, x0, x5, x24 => if x24 = true then (if 0 ≤ x5 then (if x5 ≤ (x0.size : Int) then (if 0 ≤ (wrap64 (x5 + 1)) then (if (wrap64 (x5 + 1)) ≤ (x0.size : Int) then (some (x0.extract 0 (x5 : Int).toNat, x0.extract ((wrap64 (x5 + 1)) : Int).toNat x0.size, none)) else (none)) else (none)) else (none)) else (none)) else ((fastjson_parseRawString.f k x0).bind fun bt110 => (if bt110.2.2.isNone = true then (fastjson_validateString.l0 k bt110.1 bt110.2.1) else (some (bt110.1, bt110.2.1, some (bt110.2.2.getD 0)))))
def fastjson_validateString.l0 : Nat → ByteArray → ByteArray → Option (ByteArray × ByteArray × Option Int)
  | 0, _, _ => none
  | k + 1, x6, x7 => (strings_IndexByte.f x6 92).bind fun t114 => (if t114 < 0 then (some (x6, x7, none)) else (if (wrap64 (t114 + 1)) ≥ (x6.size : Int) then ((errors_New.f (⟨#[66, 85, 71, 58, 32, 112, 97, 114, 115, 101, 82, 97, 119, 83, 116, 114, 105, 110, 103, 32, 114, 101, 116, 117, 114, 110, 101, 100, 32, 105, 110, 118, 97, 108, 105, 100, 32, 115, 116, 114, 105, 110, 103, 32, 119, 105, 116, 104, 32, 116, 114, 97, 105, 108, 105, 110, 103, 32, 98, 97, 99, 107, 115, 108, 97, 115, 104]⟩ : ByteArray)).bind fun t115 => (some (x6, x7, t115))) else (if 0 ≤ (wrap64 (t114 + 1)) then (if (wrap64 (t114 + 1)) < (x6.size : Int) then (if 0 ≤ (wrap64 ((wrap64 (t114 + 1)) + 1)) then (if (wrap64 ((wrap64 (t114 + 1)) + 1)) ≤ (x6.size : Int) then (if (bt x6 (wrap64 (t114 + 1))) = 34 then (fastjson_validateString.j2 k (x6.extract ((wrap64 ((wrap64 (t114 + 1)) + 1)) : Int).toNat x6.size) x7 (bt x6 (wrap64 (t114 + 1))) ((bt x6 (wrap64 (t114 + 1))) == 34)) else (if (bt x6 (wrap64 (t114 + 1))) = 92 then (fastjson_validateString.j2 k (x6.extract ((wrap64 ((wrap64 (t114 + 1)) + 1)) : Int).toNat x6.size) x7 (bt x6 (wrap64 (t114 + 1))) ((bt x6 (wrap64 (t114 + 1))) == 92)) else (if (bt x6 (wrap64 (t114 + 1))) = 47 then (fastjson_validateString.j2 k (x6.extract ((wrap64 ((wrap64 (t114 + 1)) + 1)) : Int).toNat x6.size) x7 (bt x6 (wrap64 (t114 + 1))) ((bt x6 (wrap64 (t114 + 1))) == 47)) else (if (bt x6 (wrap64 (t114 + 1))) = 98 then (fastjson_validateString.j2 k (x6.extract ((wrap64 ((wrap64 (t114 + 1)) + 1)) : Int).toNat x6.size) x7 (bt x6 (wrap64 (t114 + 1))) ((bt x6 (wrap64 (t114 + 1))) == 98)) else (if (bt x6 (wrap64 (t114 + 1))) = 102 then (fastjson_validateString.j2 k (x6.extract ((wrap64 ((wrap64 (t114 + 1)) + 1)) : Int).toNat x6.size) x7 (bt x6 (wrap64 (t114 + 1))) ((bt x6 (wrap64 (t114 + 1))) == 102)) else (if (bt x6 (wrap64 (t114 + 1))) = 110 then (fastjson_validateString.j2 k (x6.extract ((wrap64 ((wrap64 (t114 + 1)) + 1)) : Int).toNat x6.size) x7 (bt x6 (wrap64 (t114 + 1))) ((bt x6 (wrap64 (t114 + 1))) == 110)) else (if (bt x6 (wrap64 (t114 + 1))) = 114 then (fastjson_validateString.j2 k (x6.extract ((wrap64 ((wrap64 (t114 + 1)) + 1)) : Int).toNat x6.size) x7 (bt x6 (wrap64 (t114 + 1))) ((bt x6 (wrap64 (t114 + 1))) == 114)) else (fastjson_validateString.j2 k (x6.extract ((wrap64 ((wrap64 (t114 + 1)) + 1)) : Int).toNat x6.size) x7 (bt x6 (wrap64 (t114 + 1))) ((bt x6 (wrap64 (t114 + 1))) == 116))))))))) else (none)) else (none)) else (none)) else (none))))
def fastjson_validateString.j2 : Nat → ByteArray → ByteArray → Int → Bool → Option (ByteArray × ByteArray × Option Int)
  | 0, _, _, _, _ => none
  | k + 1, x6, x7, x65, x69 => if x69 = true then (fastjson_validateString.l0 k x6 x7) else (if x65 = 117 then (if (x6.size : Int) < 4 then ((errors_New.f (⟨#[116, 111, 111, 32, 115, 104, 111, 114, 116, 32, 101, 115, 99, 97, 112, 101, 32, 115, 101, 113, 117, 101, 110, 99, 101, 58, 32, 92, 117]⟩ : ByteArray)).bind fun t116 => (some (x6, x7, t116))) else (if 0 ≤ 4 then (if 4 ≤ (x6.size : Int) then ((strconv_ParseUint_86.f (x6.extract 0 4) 16 16).bind fun bt117 => (if bt117.2.isNone = true then (fastjson_validateString.l0 k (x6.extract 4 x6.size) x7) else ((errors_New.f (⟨#[105, 110, 118, 97, 108, 105, 100, 32, 101, 115, 99, 97, 112, 101, 32, 115, 101, 113, 117, 101, 110, 99, 101, 32, 92, 117]⟩ : ByteArray)).bind fun t120 => (some (x6, x7, t120))))) else (none)) else (none))) else ((errors_New.f (⟨#[117, 110, 107, 110, 111, 119, 110, 32, 101, 115, 99, 97, 112, 101, 32, 115, 101, 113, 117, 101, 110, 99, 101]⟩ : ByteArray)).bind fun t121 => (some (x6, x7, t121))))
end
def fastjson_validateString.f (k : Nat) (a0 : ByteArray) : Option (ByteArray × ByteArray × Option Int) := (strings_IndexByte.f a0 34).bind fun t108 => (if t108 ≥ 0 then (if 0 ≤ t108 then (if t108 ≤ (a0.size : Int) then ((strings_IndexByte.f (a0.extract 0 (t108 : Int).toNat) 92).bind fun t109 => (fastjson_validateString.j0 k a0 t108 (decide (t109 < 0)))) else (none)) else (none)) else (fastjson_validateString.j0 k a0 t108 false))
theorem fastjson_validateString.mono_l : ∀ k, (∀ y0 y1 y2, LeO (fastjson_validateString.j0 k y0 y1 y2) (fastjson_validateString.j0 (k + 1) y0 y1 y2)) ∧ (∀ y0 y1, LeO (fastjson_validateString.l0 k y0 y1) (fastjson_validateString.l0 (k + 1) y0 y1)) ∧ (∀ y0 y1 y2 y3, LeO (fastjson_validateString.j2 k y0 y1 y2 y3) (fastjson_validateString.j2 (k + 1) y0 y1 y2 y3))
  | 0 => ⟨fun _ _ _ r h => by simp [fastjson_validateString.j0] at h, fun _ _ r h => by simp [fastjson_validateString.l0] at h, fun _ _ _ _ r h => by simp [fastjson_validateString.j2] at h⟩
  | k + 1 => by
    obtain ⟨ih0, ih1, ih2⟩ := fastjson_validateString.mono_l k
    refine ⟨?_, ?_, ?_⟩
    · intro y0 y1 y2
      unfold fastjson_validateString.j0
      repeat' first
      | (with_reducible exact ih0 _ _ _)
      | (with_reducible exact ih1 _ _)
      | (with_reducible exact ih2 _ _ _ _)
      | (with_reducible exact fastjson_parseRawString.mono _ _)
      | (with_reducible exact LeO.refl _)
      | (with_reducible exact LeO.none _)
      | (with_reducible refine LeO.ite ?_ ?_)
      | (with_reducible refine LeO.bind ?_ (fun _ => ?_))
      | exact ih0 _ _ _
      | exact ih1 _ _
      | exact ih2 _ _ _ _
      | exact fastjson_parseRawString.mono _ _
      | exact LeO.none _
      | refine LeO.ite ?_ ?_
      | refine LeO.bind ?_ (fun _ => ?_)
    · intro y0 y1
      unfold fastjson_validateString.l0
      repeat' first
      | (with_reducible exact ih0 _ _ _)
      | (with_reducible exact ih1 _ _)
      | (with_reducible exact ih2 _ _ _ _)
      | (with_reducible exact fastjson_parseRawString.mono _ _)
      | (with_reducible exact LeO.refl _)
      | (with_reducible exact LeO.none _)
      | (with_reducible refine LeO.ite ?_ ?_)
      | (with_reducible refine LeO.bind ?_ (fun _ => ?_))
      | exact ih0 _ _ _
      | exact ih1 _ _
      | exact ih2 _ _ _ _
      | exact fastjson_parseRawString.mono _ _
      | exact LeO.none _
      | refine LeO.ite ?_ ?_
      | refine LeO.bind ?_ (fun _ => ?_)
    · intro y0 y1 y2 y3
      unfold fastjson_validateString.j2
      repeat' first
      | (with_reducible exact ih0 _ _ _)
      | (with_reducible exact ih1 _ _)
      | (with_reducible exact ih2 _ _ _ _)
      | (with_reducible exact fastjson_parseRawString.mono _ _)
      | (with_reducible exact LeO.refl _)
      | (with_reducible exact LeO.none _)
      | (with_reducible refine LeO.ite ?_ ?_)
      | (with_reducible refine LeO.bind ?_ (fun _ => ?_))
      | exact ih0 _ _ _
      | exact ih1 _ _
      | exact ih2 _ _ _ _
      | exact fastjson_parseRawString.mono _ _
      | exact LeO.none _
      | refine LeO.ite ?_ ?_
      | refine LeO.bind ?_ (fun _ => ?_)
theorem fastjson_validateString.mono : ∀ a0 k, LeO (fastjson_validateString.f k a0) (fastjson_validateString.f (k + 1) a0) := by
  intro a0 k
  obtain ⟨ih0, ih1, ih2⟩ := fastjson_validateString.mono_l k
  unfold fastjson_validateString.f
  repeat' first
      | (with_reducible exact ih0 _ _ _)
      | (with_reducible exact ih1 _ _)
      | (with_reducible exact ih2 _ _ _ _)
      | (with_reducible exact fastjson_parseRawString.mono _ _)
      | (with_reducible exact LeO.refl _)
      | (with_reducible exact LeO.none _)
      | (with_reducible refine LeO.ite ?_ ?_)
      | (with_reducible refine LeO.bind ?_ (fun _ => ?_))
      | exact ih0 _ _ _
      | exact ih1 _ _
      | exact ih2 _ _ _ _
      | exact fastjson_parseRawString.mono _ _
      | exact LeO.none _
      | refine LeO.ite ?_ ?_
      | refine LeO.bind ?_ (fun _ => ?_)
set_option maxHeartbeats 8000000 in
set_option maxRecDepth 100000 in
theorem fastjson_validateString.calls (k : Nat) (a0 : ByteArray) (r1 : ByteArray) (r2 : ByteArray) (r3 : Option Int) (w : World) (hL : Laid w) (h : fastjson_validateString.f k a0 = some (r1, r2, r3)) :
    Calls Tryd.prog 109 #[.string a0] w fun e w' => ∃ x2_ : TypeId × Value, e = .returned (.tuple #[.string r1, .string r2, errX x2_ r3]) ∧ Below w.heap.size w w' := by
  have hu67 := Tryd.underlying67
  have HB := Aside0.mk (Below.refl w.heap.size w)
  have HLD := Aside0.mk hL
  clear hL
  have H : ((strings_IndexByte.f a0 34).bind fun t108 => (if t108 ≥ 0 then (if 0 ≤ t108 then (if t108 ≤ (a0.size : Int) then ((strings_IndexByte.f (a0.extract 0 (t108 : Int).toNat) 92).bind fun t109 => (fastjson_validateString.j0 k a0 t108 (decide (t109 < 0)))) else (none)) else (none)) else (fastjson_validateString.j0 k a0 t108 false))) = some (r1, r2, r3) := h
  clear h
  replace H := Option.bind_eq_some_iff.mp H
  obtain ⟨t108, A20, H⟩ := H
  replace H : (if t108 ≥ 0 then (if 0 ≤ t108 then (if t108 ≤ (a0.size : Int) then ((strings_IndexByte.f (a0.extract 0 (t108 : Int).toNat) 92).bind fun t109 => (fastjson_validateString.j0 k a0 t108 (decide (t109 < 0)))) else (none)) else (none)) else (fastjson_validateString.j0 k a0 t108 false)) = some (r1, r2, r3) := H
  have A2 := Aside0.mk A20
  clear A20
  have HC3 := Aside0.mk H
  clear H
  go_enter Tryd.func109, Tryd.ntmps109
  go_upto_region 2 with (first | (go_at_call 83; (with_reducible refine (strings_IndexByte.calls a0 34 t108 _ A2.out).mono ?_); rintro e w' ⟨rfl, ⟨nd, rfl⟩⟩; (try first | exact ⟨rfl, _, World.drewN_drewN _ _ _⟩ | exact ⟨rfl, _, Eq.trans (World.drewN_drewN _ _ _) (congrArg (World.drewN _) (Nat.add_assoc _ _ _))⟩)))
  repeat (go_quiet (first | (go_at_call 83; (with_reducible refine (strings_IndexByte.calls a0 34 t108 _ A2.out).mono ?_); rintro e w' ⟨rfl, ⟨nd, rfl⟩⟩; (try first | exact ⟨rfl, _, World.drewN_drewN _ _ _⟩ | exact ⟨rfl, _, Eq.trans (World.drewN_drewN _ _ _) (congrArg (World.drewN _) (Nat.add_assoc _ _ _))⟩))); go_upto_region 2 with (first | (go_at_call 83; (with_reducible refine (strings_IndexByte.calls a0 34 t108 _ A2.out).mono ?_); rintro e w' ⟨rfl, ⟨nd, rfl⟩⟩; (try first | exact ⟨rfl, _, World.drewN_drewN _ _ _⟩ | exact ⟨rfl, _, Eq.trans (World.drewN_drewN _ _ _) (congrArg (World.drewN _) (Nat.add_assoc _ _ _))⟩))))
  (try simp only [Act.put, List.setIfInBounds_toArray, List.set_cons_zero, List.set_cons_succ])
  go_cut [24] (fun v24 wc => ∃ (kq : Nat) (x24_2 : Bool), v24 = .bool x24_2 ∧ Aside0 (fastjson_validateString.j0 kq a0 t108 x24_2 = some (r1, r2, r3)) ∧ Aside0 (kq ≤ k) ∧ Aside0 (Below w.heap.size w wc))
  case first =>
    have H := HC3.out
    clear HC3
    by_cases c4 : t108 ≥ 0
    · rw [if_pos c4] at H
      have c4b0 : decide (0 ≤ t108) = true := decide_eq_true c4
      clear c4
      (first | rw [c4b0] | (simp only [i64_w, i32_w]; rw [c4b0]) | skip)
      by_cases c5 : 0 ≤ t108
      · rw [if_pos c5] at H
        have c5b0 := eq_true c5
        have c5b1 : decide (0 ≤ t108) = true := decide_eq_true c5
        clear c5
        by_cases c6 : t108 ≤ (a0.size : Int)
        · rw [if_pos c6] at H
          have c6b0 := eq_true c6
          have c6b1 : decide (t108 ≤ (a0.size : Int)) = true := decide_eq_true c6
          clear c6
          replace H := Option.bind_eq_some_iff.mp H
          obtain ⟨t109, A70, H⟩ := H
          replace H : (fastjson_validateString.j0 k a0 t108 (decide (t109 < 0))) = some (r1, r2, r3) := H
          have A7 := Aside0.mk A70
          clear A70
          have H' := Aside0.mk H
          clear H
          go_wp2_with (first | (go_at_call 83; (with_reducible refine (strings_IndexByte.calls (a0.extract 0 (t108 : Int).toNat) 92 t109 _ A7.out).mono ?_); rintro e w' ⟨rfl, ⟨nd, rfl⟩⟩; (try first | exact ⟨rfl, _, World.drewN_drewN _ _ _⟩ | exact ⟨rfl, _, Eq.trans (World.drewN_drewN _ _ _) (congrArg (World.drewN _) (Nat.add_assoc _ _ _))⟩)))
          repeat (go_quiet (first | (go_at_call 83; (with_reducible refine (strings_IndexByte.calls (a0.extract 0 (t108 : Int).toNat) 92 t109 _ A7.out).mono ?_); rintro e w' ⟨rfl, ⟨nd, rfl⟩⟩; (try first | exact ⟨rfl, _, World.drewN_drewN _ _ _⟩ | exact ⟨rfl, _, Eq.trans (World.drewN_drewN _ _ _) (congrArg (World.drewN _) (Nat.add_assoc _ _ _))⟩))); try go_wp2_with (first | (go_at_call 83; (with_reducible refine (strings_IndexByte.calls (a0.extract 0 (t108 : Int).toNat) 92 t109 _ A7.out).mono ?_); rintro e w' ⟨rfl, ⟨nd, rfl⟩⟩; (try first | exact ⟨rfl, _, World.drewN_drewN _ _ _⟩ | exact ⟨rfl, _, Eq.trans (World.drewN_drewN _ _ _) (congrArg (World.drewN _) (Nat.add_assoc _ _ _))⟩))))
          (first | go_meet)
          case rel => exact ⟨_, (decide (t109 < 0)), (by first | rfl | (simp; done) | (simp [*]; done)), H', ⟨by first | omega | exact Nat.le_refl _⟩, ⟨by repeat (first | (with_reducible first | exact HB.out | apply below_alloc | apply pw_below_drewN | apply below_drew1) | exact HB.out)⟩⟩
        · rw [if_neg c6] at H
          exact absurd H (by simp)
      · rw [if_neg c5] at H
        exact absurd H (by simp)
    · rw [if_neg c4] at H
      have c4b0 : decide (0 ≤ t108) = false := decide_eq_false c4
      clear c4
      (first | rw [c4b0] | (simp only [i64_w, i32_w]; rw [c4b0]) | skip)
      have H' := Aside0.mk H
      clear H
      go_wp2
      repeat (go_quiet (fail); try go_wp2)
      (first | go_meet)
      case rel => exact ⟨_, (false), (by first | rfl | (simp; done) | (simp [*]; done)), H', ⟨by first | omega | exact Nat.le_refl _⟩, ⟨by repeat (first | (with_reducible first | exact HB.out | apply below_alloc | apply pw_below_drewN | apply below_drew1) | exact HB.out)⟩⟩
  case rest =>
    clear HC3
    try clear c1
    try clear p2
    try clear c4
    try clear c4b0
    try clear c5
    try clear c5b0
    try clear c5b1
    try clear c6
    try clear c6b0
    try clear c6b1
    obtain ⟨kq, x24_2, rfl, HA, HJ2, HB⟩ := hcut
    cases kq with
    | zero => exact absurd HA.out (by simp [fastjson_validateString.j0])
    | succ kj2 =>
      have H := HA.out
      clear HA
      simp only [fastjson_validateString.j0] at H
      by_cases c8 : x24_2 = true
      · subst c8
        have H1 : (if 0 ≤ t108 then (if t108 ≤ (a0.size : Int) then (if 0 ≤ (wrap64 (t108 + 1)) then (if (wrap64 (t108 + 1)) ≤ (a0.size : Int) then (some (a0.extract 0 (t108 : Int).toNat, a0.extract ((wrap64 (t108 + 1)) : Int).toNat a0.size, none)) else (none)) else (none)) else (none)) else (none)) = some (r1, r2, r3) := by rw [if_pos rfl] at H; exact H
        clear H
        have H := H1
        clear H1
        by_cases c9 : 0 ≤ t108
        · rw [if_pos c9] at H
          have c9b0 := eq_true c9
          have c9b1 : decide (0 ≤ t108) = true := decide_eq_true c9
          clear c9
          by_cases c10 : t108 ≤ (a0.size : Int)
          · rw [if_pos c10] at H
            have c10b0 := eq_true c10
            have c10b1 : decide (t108 ≤ (a0.size : Int)) = true := decide_eq_true c10
            clear c10
            obtain ⟨ji11, hji11⟩ : ∃ j_ : Int, (wrap64 (t108 + 1)) = j_ := ⟨_, rfl⟩
            replace H : (if 0 ≤ (ji11) then (if (ji11) ≤ (a0.size : Int) then (some (a0.extract 0 (t108 : Int).toNat, a0.extract ((ji11) : Int).toNat a0.size, none)) else (none)) else (none)) = some (r1, r2, r3) := by first | (rw [hji11] at H; exact H) | (simp only [hji11] at H ⊢; exact H)
            have hji11w : (IntKind.i64.wrap (t108 + 1)) = ji11 := (i64_w _).trans hji11
            by_cases c12 : 0 ≤ (ji11)
            · rw [if_pos c12] at H
              have c12b0 := eq_true c12
              have c12b1 : decide (0 ≤ (ji11)) = true := decide_eq_true c12
              clear c12
              by_cases c13 : (ji11) ≤ (a0.size : Int)
              · rw [if_pos c13] at H
                have c13b0 := eq_true c13
                have c13b1 : decide ((ji11) ≤ (a0.size : Int)) = true := decide_eq_true c13
                clear c13
                simp only [Option.some.injEq, Prod.mk.injEq] at H
                obtain ⟨rfl, rfl, rfl⟩ := H
                go_wp2
                repeat (go_quiet (fail); try go_wp2)
                go_ret3
                first | exact ⟨noX, by first | rfl | (simp [errX_none, errX_some] <;> rfl) | (simp only [← hji11]; first | rfl | (simp [errX_none, errX_some] <;> rfl)) | (simp [*, errX_none, errX_some] <;> rfl), by repeat (first | (with_reducible first | exact HB.out | apply below_alloc | apply pw_below_drewN | apply below_drew1) | exact HB.out)⟩ | exact ⟨noX.1, noX.2, by first | rfl | (simp [errX_none, errX_some] <;> rfl) | (simp only [← hji11]; first | rfl | (simp [errX_none, errX_some] <;> rfl)) | (simp [*, errX_none, errX_some] <;> rfl), by repeat (first | (with_reducible first | exact HB.out | apply below_alloc | apply pw_below_drewN | apply below_drew1) | exact HB.out)⟩ | exact ⟨⟨noX, by first | rfl | (simp [errX_none, errX_some] <;> rfl) | (simp only [← hji11]; first | rfl | (simp [errX_none, errX_some] <;> rfl)) | (simp [*, errX_none, errX_some] <;> rfl)⟩, by repeat (first | (with_reducible first | exact HB.out | apply below_alloc | apply pw_below_drewN | apply below_drew1) | exact HB.out)⟩ | exact ⟨⟨noX.1, noX.2, by first | rfl | (simp [errX_none, errX_some] <;> rfl) | (simp only [← hji11]; first | rfl | (simp [errX_none, errX_some] <;> rfl)) | (simp [*, errX_none, errX_some] <;> rfl)⟩, by repeat (first | (with_reducible first | exact HB.out | apply below_alloc | apply pw_below_drewN | apply below_drew1) | exact HB.out)⟩
              · rw [if_neg c13] at H
                exact absurd H (by simp)
            · rw [if_neg c12] at H
              exact absurd H (by simp)
          · rw [if_neg c10] at H
            exact absurd H (by simp)
        · rw [if_neg c9] at H
          exact absurd H (by simp)
      · replace c8 := Bool.eq_false_iff.mpr c8
        subst c8
        have H1 : ((fastjson_parseRawString.f kj2 a0).bind fun bt110 => (if bt110.2.2.isNone = true then (fastjson_validateString.l0 kj2 bt110.1 bt110.2.1) else (some (bt110.1, bt110.2.1, some (bt110.2.2.getD 0))))) = some (r1, r2, r3) := by rw [if_neg (show ¬ (false = true) by decide)] at H; exact H
        clear H
        have H := H1
        clear H1
        replace H := Option.bind_eq_some_iff.mp H
        obtain ⟨⟨t110, t111, t112⟩, A140, H⟩ := H
        replace H : (if t112.isNone = true then (fastjson_validateString.l0 kj2 t110 t111) else (some (t110, t111, some (t112.getD 0)))) = some (r1, r2, r3) := H
        have A14 := Aside0.mk A140
        clear A140
        rcases t112 with _ | q113
        · have H1 : (fastjson_validateString.l0 kj2 t110 t111) = some (r1, r2, r3) := by rw [if_pos (show (none : Option Int).isNone = true by rfl)] at H; exact H
          clear H
          have H := H1
          clear H1
          try simp only [errX_none, errX_some]
          have H' := Aside0.mk H
          clear H
          go_wp2_with (first | (go_at_call 61; (with_reducible refine (fastjson_parseRawString.calls kj2 a0 t110 t111 none _ A14.out).mono ?_); rintro e w15 ⟨_, rfl, hb⟩; have n0_ := Aside0.mk (below_step (by repeat (first | (with_reducible first | exact HB.out | apply below_alloc | apply pw_below_drewN | apply below_drew1) | exact HB.out)) hb); clear HB; have HB := n0_; clear n0_; (try clear hb); (try clear hb2); (try clear hk); (try clear hi); (try simp only [errX_none, errX_some])))
          repeat (go_quiet (first | (go_at_call 61; (with_reducible refine (fastjson_parseRawString.calls kj2 a0 t110 t111 none _ A14.out).mono ?_); rintro e w15 ⟨_, rfl, hb⟩; have n0_ := Aside0.mk (below_step (by repeat (first | (with_reducible first | exact HB.out | apply below_alloc | apply pw_below_drewN | apply below_drew1) | exact HB.out)) hb); clear HB; have HB := n0_; clear n0_; (try clear hb); (try clear hb2); (try clear hk); (try clear hi); (try simp only [errX_none, errX_some]))); try go_wp2_with (first | (go_at_call 61; (with_reducible refine (fastjson_parseRawString.calls kj2 a0 t110 t111 none _ A14.out).mono ?_); rintro e w15 ⟨_, rfl, hb⟩; have n0_ := Aside0.mk (below_step (by repeat (first | (with_reducible first | exact HB.out | apply below_alloc | apply pw_below_drewN | apply below_drew1) | exact HB.out)) hb); clear HB; have HB := n0_; clear n0_; (try clear hb); (try clear hb2); (try clear hk); (try clear hi); (try simp only [errX_none, errX_some]))))
          (try simp only [Act.put, List.setIfInBounds_toArray, List.set_cons_zero, List.set_cons_succ])
          go_loopg [6] kj2 (fun kq v6 w' => ∃ (x6_2 : ByteArray), v6 = .string x6_2 ∧ Aside0 (fastjson_validateString.l0 kq x6_2 t111 = some (r1, r2, r3)) ∧ Aside0 (kq ≤ kj2) ∧ Aside0 (Below w.heap.size w w'))
          case atStart => exact ⟨(t110), (by first | rfl | (simp; done) | (simp [*]; done)), H', ⟨Nat.le_refl _⟩, ⟨by repeat (first | (with_reducible first | exact HB.out | apply below_alloc | apply pw_below_drewN | apply below_drew1) | exact HB.out)⟩⟩
          case round =>
            clear H'
            try clear c1
            try clear q1
            try clear p2
            try clear c4
            try clear c4b0
            try clear c5
            try clear c5b0
            try clear c5b1
            try clear c6
            try clear c6b0
            try clear c6b1
            try clear p6
            try clear c8
            try clear c9
            try clear c9b0
            try clear c9b1
            try clear c10
            try clear c10b0
            try clear c10b1
            try clear q11
            try clear c12
            try clear c12b0
            try clear c12b1
            try clear c13
            try clear c13b0
            try clear c13b1
            try clear p2
            try clear q113
            obtain ⟨x6_2, rfl, HA, HK2, HB⟩ := hrel
            cases gk with
            | zero => exact absurd HA.out (by simp [fastjson_validateString.l0])
            | succ k2 =>
              have H := HA.out
              clear HA
              simp only [fastjson_validateString.l0] at H
              replace H := Option.bind_eq_some_iff.mp H
              obtain ⟨t114, A160, H⟩ := H
              replace H : (if t114 < 0 then (some (x6_2, t111, none)) else (if (wrap64 (t114 + 1)) ≥ (x6_2.size : Int) then ((errors_New.f (⟨#[66, 85, 71, 58, 32, 112, 97, 114, 115, 101, 82, 97, 119, 83, 116, 114, 105, 110, 103, 32, 114, 101, 116, 117, 114, 110, 101, 100, 32, 105, 110, 118, 97, 108, 105, 100, 32, 115, 116, 114, 105, 110, 103, 32, 119, 105, 116, 104, 32, 116, 114, 97, 105, 108, 105, 110, 103, 32, 98, 97, 99, 107, 115, 108, 97, 115, 104]⟩ : ByteArray)).bind fun t115 => (some (x6_2, t111, t115))) else (if 0 ≤ (wrap64 (t114 + 1)) then (if (wrap64 (t114 + 1)) < (x6_2.size : Int) then (if 0 ≤ (wrap64 ((wrap64 (t114 + 1)) + 1)) then (if (wrap64 ((wrap64 (t114 + 1)) + 1)) ≤ (x6_2.size : Int) then (if (bt x6_2 (wrap64 (t114 + 1))) = 34 then (fastjson_validateString.j2 k2 (x6_2.extract ((wrap64 ((wrap64 (t114 + 1)) + 1)) : Int).toNat x6_2.size) t111 (bt x6_2 (wrap64 (t114 + 1))) ((bt x6_2 (wrap64 (t114 + 1))) == 34)) else (if (bt x6_2 (wrap64 (t114 + 1))) = 92 then (fastjson_validateString.j2 k2 (x6_2.extract ((wrap64 ((wrap64 (t114 + 1)) + 1)) : Int).toNat x6_2.size) t111 (bt x6_2 (wrap64 (t114 + 1))) ((bt x6_2 (wrap64 (t114 + 1))) == 92)) else (if (bt x6_2 (wrap64 (t114 + 1))) = 47 then (fastjson_validateString.j2 k2 (x6_2.extract ((wrap64 ((wrap64 (t114 + 1)) + 1)) : Int).toNat x6_2.size) t111 (bt x6_2 (wrap64 (t114 + 1))) ((bt x6_2 (wrap64 (t114 + 1))) == 47)) else (if (bt x6_2 (wrap64 (t114 + 1))) = 98 then (fastjson_validateString.j2 k2 (x6_2.extract ((wrap64 ((wrap64 (t114 + 1)) + 1)) : Int).toNat x6_2.size) t111 (bt x6_2 (wrap64 (t114 + 1))) ((bt x6_2 (wrap64 (t114 + 1))) == 98)) else (if (bt x6_2 (wrap64 (t114 + 1))) = 102 then (fastjson_validateString.j2 k2 (x6_2.extract ((wrap64 ((wrap64 (t114 + 1)) + 1)) : Int).toNat x6_2.size) t111 (bt x6_2 (wrap64 (t114 + 1))) ((bt x6_2 (wrap64 (t114 + 1))) == 102)) else (if (bt x6_2 (wrap64 (t114 + 1))) = 110 then (fastjson_validateString.j2 k2 (x6_2.extract ((wrap64 ((wrap64 (t114 + 1)) + 1)) : Int).toNat x6_2.size) t111 (bt x6_2 (wrap64 (t114 + 1))) ((bt x6_2 (wrap64 (t114 + 1))) == 110)) else (if (bt x6_2 (wrap64 (t114 + 1))) = 114 then (fastjson_validateString.j2 k2 (x6_2.extract ((wrap64 ((wrap64 (t114 + 1)) + 1)) : Int).toNat x6_2.size) t111 (bt x6_2 (wrap64 (t114 + 1))) ((bt x6_2 (wrap64 (t114 + 1))) == 114)) else (fastjson_validateString.j2 k2 (x6_2.extract ((wrap64 ((wrap64 (t114 + 1)) + 1)) : Int).toNat x6_2.size) t111 (bt x6_2 (wrap64 (t114 + 1))) ((bt x6_2 (wrap64 (t114 + 1))) == 116))))))))) else (none)) else (none)) else (none)) else (none)))) = some (r1, r2, r3) := H
              have A16 := Aside0.mk A160
              clear A160
              by_cases c17 : t114 < 0
              · rw [if_pos c17] at H
                have c17b0 : decide (t114 < 0) = true := decide_eq_true c17
                clear c17
                simp only [Option.some.injEq, Prod.mk.injEq] at H
                obtain ⟨rfl, rfl, rfl⟩ := H
                go_wp2_with (first | (go_at_call 83; (with_reducible refine (strings_IndexByte.calls x6_2 92 t114 _ A16.out).mono ?_); rintro e w' ⟨rfl, ⟨nd, rfl⟩⟩; (try first | exact ⟨rfl, _, World.drewN_drewN _ _ _⟩ | exact ⟨rfl, _, Eq.trans (World.drewN_drewN _ _ _) (congrArg (World.drewN _) (Nat.add_assoc _ _ _))⟩)))
                repeat (go_quiet (first | (go_at_call 83; (with_reducible refine (strings_IndexByte.calls x6_2 92 t114 _ A16.out).mono ?_); rintro e w' ⟨rfl, ⟨nd, rfl⟩⟩; (try first | exact ⟨rfl, _, World.drewN_drewN _ _ _⟩ | exact ⟨rfl, _, Eq.trans (World.drewN_drewN _ _ _) (congrArg (World.drewN _) (Nat.add_assoc _ _ _))⟩))); try go_wp2_with (first | (go_at_call 83; (with_reducible refine (strings_IndexByte.calls x6_2 92 t114 _ A16.out).mono ?_); rintro e w' ⟨rfl, ⟨nd, rfl⟩⟩; (try first | exact ⟨rfl, _, World.drewN_drewN _ _ _⟩ | exact ⟨rfl, _, Eq.trans (World.drewN_drewN _ _ _) (congrArg (World.drewN _) (Nat.add_assoc _ _ _))⟩))))
                go_ret3
                first | exact ⟨noX, by first | rfl | (simp [errX_none, errX_some] <;> rfl) | (simp [*, errX_none, errX_some] <;> rfl), by repeat (first | (with_reducible first | exact HB.out | apply below_alloc | apply pw_below_drewN | apply below_drew1) | exact HB.out)⟩ | exact ⟨noX.1, noX.2, by first | rfl | (simp [errX_none, errX_some] <;> rfl) | (simp [*, errX_none, errX_some] <;> rfl), by repeat (first | (with_reducible first | exact HB.out | apply below_alloc | apply pw_below_drewN | apply below_drew1) | exact HB.out)⟩ | exact ⟨⟨noX, by first | rfl | (simp [errX_none, errX_some] <;> rfl) | (simp [*, errX_none, errX_some] <;> rfl)⟩, by repeat (first | (with_reducible first | exact HB.out | apply below_alloc | apply pw_below_drewN | apply below_drew1) | exact HB.out)⟩ | exact ⟨⟨noX.1, noX.2, by first | rfl | (simp [errX_none, errX_some] <;> rfl) | (simp [*, errX_none, errX_some] <;> rfl)⟩, by repeat (first | (with_reducible first | exact HB.out | apply below_alloc | apply pw_below_drewN | apply below_drew1) | exact HB.out)⟩
              · rw [if_neg c17] at H
                have c17b0 : decide (t114 < 0) = false := decide_eq_false c17
                clear c17
                by_cases c18 : (wrap64 (t114 + 1)) ≥ (x6_2.size : Int)
                · rw [if_pos c18] at H
                  have c18b0 : decide ((x6_2.size : Int) ≤ (wrap64 (t114 + 1))) = true := decide_eq_true c18
                  clear c18
                  replace H := Option.bind_eq_some_iff.mp H
                  obtain ⟨t115, A190, H⟩ := H
                  replace H : (some (x6_2, t111, t115)) = some (r1, r2, r3) := H
                  have A19 := Aside0.mk A190
                  clear A190
                  simp only [Option.some.injEq, Prod.mk.injEq] at H
                  obtain ⟨rfl, rfl, rfl⟩ := H
                  go_wp2_with (first | (go_at_call 83; (with_reducible refine (strings_IndexByte.calls x6_2 92 t114 _ A16.out).mono ?_); rintro e w' ⟨rfl, ⟨nd, rfl⟩⟩; (try first | exact ⟨rfl, _, World.drewN_drewN _ _ _⟩ | exact ⟨rfl, _, Eq.trans (World.drewN_drewN _ _ _) (congrArg (World.drewN _) (Nat.add_assoc _ _ _))⟩)) | (go_at_call 84; (with_reducible refine (errors_New.calls (⟨#[66, 85, 71, 58, 32, 112, 97, 114, 115, 101, 82, 97, 119, 83, 116, 114, 105, 110, 103, 32, 114, 101, 116, 117, 114, 110, 101, 100, 32, 105, 110, 118, 97, 108, 105, 100, 32, 115, 116, 114, 105, 110, 103, 32, 119, 105, 116, 104, 32, 116, 114, 97, 105, 108, 105, 110, 103, 32, 98, 97, 99, 107, 115, 108, 97, 115, 104]⟩ : ByteArray) t115 _ A19.out).mono ?_); rintro e w20 ⟨ex_t115, rfl, hb⟩; have n0_ := Aside0.mk (below_step (by repeat (first | (with_reducible first | exact HB.out | apply below_alloc | apply pw_below_drewN | apply below_drew1) | exact HB.out)) hb); clear HB; have HB := n0_; clear n0_; (try clear hb); (try clear hb2); (try clear hk); (try clear hi); (try simp only [errX_none, errX_some])))
                  repeat (go_quiet (first | (go_at_call 83; (with_reducible refine (strings_IndexByte.calls x6_2 92 t114 _ A16.out).mono ?_); rintro e w' ⟨rfl, ⟨nd, rfl⟩⟩; (try first | exact ⟨rfl, _, World.drewN_drewN _ _ _⟩ | exact ⟨rfl, _, Eq.trans (World.drewN_drewN _ _ _) (congrArg (World.drewN _) (Nat.add_assoc _ _ _))⟩)) | (go_at_call 84; (with_reducible refine (errors_New.calls (⟨#[66, 85, 71, 58, 32, 112, 97, 114, 115, 101, 82, 97, 119, 83, 116, 114, 105, 110, 103, 32, 114, 101, 116, 117, 114, 110, 101, 100, 32, 105, 110, 118, 97, 108, 105, 100, 32, 115, 116, 114, 105, 110, 103, 32, 119, 105, 116, 104, 32, 116, 114, 97, 105, 108, 105, 110, 103, 32, 98, 97, 99, 107, 115, 108, 97, 115, 104]⟩ : ByteArray) t115 _ A19.out).mono ?_); rintro e w20 ⟨ex_t115, rfl, hb⟩; have n0_ := Aside0.mk (below_step (by repeat (first | (with_reducible first | exact HB.out | apply below_alloc | apply pw_below_drewN | apply below_drew1) | exact HB.out)) hb); clear HB; have HB := n0_; clear n0_; (try clear hb); (try clear hb2); (try clear hk); (try clear hi); (try simp only [errX_none, errX_some]))); try go_wp2_with (first | (go_at_call 83; (with_reducible refine (strings_IndexByte.calls x6_2 92 t114 _ A16.out).mono ?_); rintro e w' ⟨rfl, ⟨nd, rfl⟩⟩; (try first | exact ⟨rfl, _, World.drewN_drewN _ _ _⟩ | exact ⟨rfl, _, Eq.trans (World.drewN_drewN _ _ _) (congrArg (World.drewN _) (Nat.add_assoc _ _ _))⟩)) | (go_at_call 84; (with_reducible refine (errors_New.calls (⟨#[66, 85, 71, 58, 32, 112, 97, 114, 115, 101, 82, 97, 119, 83, 116, 114, 105, 110, 103, 32, 114, 101, 116, 117, 114, 110, 101, 100, 32, 105, 110, 118, 97, 108, 105, 100, 32, 115, 116, 114, 105, 110, 103, 32, 119, 105, 116, 104, 32, 116, 114, 97, 105, 108, 105, 110, 103, 32, 98, 97, 99, 107, 115, 108, 97, 115, 104]⟩ : ByteArray) t115 _ A19.out).mono ?_); rintro e w20 ⟨ex_t115, rfl, hb⟩; have n0_ := Aside0.mk (below_step (by repeat (first | (with_reducible first | exact HB.out | apply below_alloc | apply pw_below_drewN | apply below_drew1) | exact HB.out)) hb); clear HB; have HB := n0_; clear n0_; (try clear hb); (try clear hb2); (try clear hk); (try clear hi); (try simp only [errX_none, errX_some]))))
                  go_ret3
                  first | exact ⟨ex_t115, by first | rfl | (simp [errX_none, errX_some] <;> rfl) | (simp [*, errX_none, errX_some] <;> rfl), by repeat (first | (with_reducible first | exact HB.out | apply below_alloc | apply pw_below_drewN | apply below_drew1) | exact HB.out)⟩ | exact ⟨ex_t115.1, ex_t115.2, by first | rfl | (simp [errX_none, errX_some] <;> rfl) | (simp [*, errX_none, errX_some] <;> rfl), by repeat (first | (with_reducible first | exact HB.out | apply below_alloc | apply pw_below_drewN | apply below_drew1) | exact HB.out)⟩ | exact ⟨⟨ex_t115, by first | rfl | (simp [errX_none, errX_some] <;> rfl) | (simp [*, errX_none, errX_some] <;> rfl)⟩, by repeat (first | (with_reducible first | exact HB.out | apply below_alloc | apply pw_below_drewN | apply below_drew1) | exact HB.out)⟩ | exact ⟨⟨ex_t115.1, ex_t115.2, by first | rfl | (simp [errX_none, errX_some] <;> rfl) | (simp [*, errX_none, errX_some] <;> rfl)⟩, by repeat (first | (with_reducible first | exact HB.out | apply below_alloc | apply pw_below_drewN | apply below_drew1) | exact HB.out)⟩
                · rw [if_neg c18] at H
                  have c18b0 : decide ((x6_2.size : Int) ≤ (wrap64 (t114 + 1))) = false := decide_eq_false c18
                  clear c18
                  obtain ⟨ji21, hji21⟩ : ∃ j_ : Int, (wrap64 (t114 + 1)) = j_ := ⟨_, rfl⟩
                  replace H : (if 0 ≤ (ji21) then (if (ji21) < (x6_2.size : Int) then (if 0 ≤ (wrap64 ((ji21) + 1)) then (if (wrap64 ((ji21) + 1)) ≤ (x6_2.size : Int) then (if (bt x6_2 (ji21)) = 34 then (fastjson_validateString.j2 k2 (x6_2.extract ((wrap64 ((ji21) + 1)) : Int).toNat x6_2.size) t111 (bt x6_2 (ji21)) ((bt x6_2 (ji21)) == 34)) else (if (bt x6_2 (ji21)) = 92 then (fastjson_validateString.j2 k2 (x6_2.extract ((wrap64 ((ji21) + 1)) : Int).toNat x6_2.size) t111 (bt x6_2 (ji21)) ((bt x6_2 (ji21)) == 92)) else (if (bt x6_2 (ji21)) = 47 then (fastjson_validateString.j2 k2 (x6_2.extract ((wrap64 ((ji21) + 1)) : Int).toNat x6_2.size) t111 (bt x6_2 (ji21)) ((bt x6_2 (ji21)) == 47)) else (if (bt x6_2 (ji21)) = 98 then (fastjson_validateString.j2 k2 (x6_2.extract ((wrap64 ((ji21) + 1)) : Int).toNat x6_2.size) t111 (bt x6_2 (ji21)) ((bt x6_2 (ji21)) == 98)) else (if (bt x6_2 (ji21)) = 102 then (fastjson_validateString.j2 k2 (x6_2.extract ((wrap64 ((ji21) + 1)) : Int).toNat x6_2.size) t111 (bt x6_2 (ji21)) ((bt x6_2 (ji21)) == 102)) else (if (bt x6_2 (ji21)) = 110 then (fastjson_validateString.j2 k2 (x6_2.extract ((wrap64 ((ji21) + 1)) : Int).toNat x6_2.size) t111 (bt x6_2 (ji21)) ((bt x6_2 (ji21)) == 110)) else (if (bt x6_2 (ji21)) = 114 then (fastjson_validateString.j2 k2 (x6_2.extract ((wrap64 ((ji21) + 1)) : Int).toNat x6_2.size) t111 (bt x6_2 (ji21)) ((bt x6_2 (ji21)) == 114)) else (fastjson_validateString.j2 k2 (x6_2.extract ((wrap64 ((ji21) + 1)) : Int).toNat x6_2.size) t111 (bt x6_2 (ji21)) ((bt x6_2 (ji21)) == 116))))))))) else (none)) else (none)) else (none)) else (none)) = some (r1, r2, r3) := by first | (rw [hji21] at H; exact H) | (simp only [hji21] at H ⊢; exact H)
                  (try rw [hji21] at c18b0)
                  (try rw [hji21] at A16)
                  have hji21w : (IntKind.i64.wrap (t114 + 1)) = ji21 := (i64_w _).trans hji21
                  by_cases c22 : 0 ≤ (ji21)
                  · rw [if_pos c22] at H
                    have c22b0 : decide (0 ≤ (ji21)) = true := decide_eq_true c22
                    clear c22
                    by_cases c23 : (ji21) < (x6_2.size : Int)
                    · rw [if_pos c23] at H
                      have c23b0 : decide ((ji21) < (x6_2.size : Int)) = true := decide_eq_true c23
                      clear c23
                      obtain ⟨ji25, hji25⟩ : ∃ j_ : Int, (wrap64 ((ji21) + 1)) = j_ := ⟨_, rfl⟩
                      replace H : (if 0 ≤ (ji25) then (if (ji25) ≤ (x6_2.size : Int) then (if (bt x6_2 (ji21)) = 34 then (fastjson_validateString.j2 k2 (x6_2.extract ((ji25) : Int).toNat x6_2.size) t111 (bt x6_2 (ji21)) ((bt x6_2 (ji21)) == 34)) else (if (bt x6_2 (ji21)) = 92 then (fastjson_validateString.j2 k2 (x6_2.extract ((ji25) : Int).toNat x6_2.size) t111 (bt x6_2 (ji21)) ((bt x6_2 (ji21)) == 92)) else (if (bt x6_2 (ji21)) = 47 then (fastjson_validateString.j2 k2 (x6_2.extract ((ji25) : Int).toNat x6_2.size) t111 (bt x6_2 (ji21)) ((bt x6_2 (ji21)) == 47)) else (if (bt x6_2 (ji21)) = 98 then (fastjson_validateString.j2 k2 (x6_2.extract ((ji25) : Int).toNat x6_2.size) t111 (bt x6_2 (ji21)) ((bt x6_2 (ji21)) == 98)) else (if (bt x6_2 (ji21)) = 102 then (fastjson_validateString.j2 k2 (x6_2.extract ((ji25) : Int).toNat x6_2.size) t111 (bt x6_2 (ji21)) ((bt x6_2 (ji21)) == 102)) else (if (bt x6_2 (ji21)) = 110 then (fastjson_validateString.j2 k2 (x6_2.extract ((ji25) : Int).toNat x6_2.size) t111 (bt x6_2 (ji21)) ((bt x6_2 (ji21)) == 110)) else (if (bt x6_2 (ji21)) = 114 then (fastjson_validateString.j2 k2 (x6_2.extract ((ji25) : Int).toNat x6_2.size) t111 (bt x6_2 (ji21)) ((bt x6_2 (ji21)) == 114)) else (fastjson_validateString.j2 k2 (x6_2.extract ((ji25) : Int).toNat x6_2.size) t111 (bt x6_2 (ji21)) ((bt x6_2 (ji21)) == 116))))))))) else (none)) else (none)) = some (r1, r2, r3) := by first | (rw [hji25] at H; exact H) | (simp only [hji25] at H ⊢; exact H)
                      (try rw [hji25] at A16)
                      have hji25w : (IntKind.i64.wrap ((ji21) + 1)) = ji25 := (i64_w _).trans hji25
                      by_cases c26 : 0 ≤ (ji25)
                      · rw [if_pos c26] at H
                        have c26b0 := eq_true c26
                        have c26b1 : decide (0 ≤ (ji25)) = true := decide_eq_true c26
                        clear c26
                        by_cases c27 : (ji25) ≤ (x6_2.size : Int)
                        · rw [if_pos c27] at H
                          have c27b0 := eq_true c27
                          have c27b1 : decide ((ji25) ≤ (x6_2.size : Int)) = true := decide_eq_true c27
                          clear c27
                          have HC28 := Aside0.mk H
                          clear H
                          go_upto_if 69 with (first | (go_at_call 83; (with_reducible refine (strings_IndexByte.calls x6_2 92 t114 _ A16.out).mono ?_); rintro e w' ⟨rfl, ⟨nd, rfl⟩⟩; (try first | exact ⟨rfl, _, World.drewN_drewN _ _ _⟩ | exact ⟨rfl, _, Eq.trans (World.drewN_drewN _ _ _) (congrArg (World.drewN _) (Nat.add_assoc _ _ _))⟩); have p24 : 0 ≤ ((ji21) : Int) := of_decide_eq_true (by first | (with_reducible assumption) | assumption); have q24 : (ji21) < (x6_2.size : Int) := of_decide_eq_true (by first | (with_reducible assumption) | assumption); have hx24 := bt_at x6_2 (ji21); replace p24 := eq_true p24; replace q24 := eq_true q24))
                          repeat (go_quiet (first | (go_at_call 83; (with_reducible refine (strings_IndexByte.calls x6_2 92 t114 _ A16.out).mono ?_); rintro e w' ⟨rfl, ⟨nd, rfl⟩⟩; (try first | exact ⟨rfl, _, World.drewN_drewN _ _ _⟩ | exact ⟨rfl, _, Eq.trans (World.drewN_drewN _ _ _) (congrArg (World.drewN _) (Nat.add_assoc _ _ _))⟩); have p24 : 0 ≤ ((ji21) : Int) := of_decide_eq_true (by first | (with_reducible assumption) | assumption); have q24 : (ji21) < (x6_2.size : Int) := of_decide_eq_true (by first | (with_reducible assumption) | assumption); have hx24 := bt_at x6_2 (ji21); replace p24 := eq_true p24; replace q24 := eq_true q24)); go_upto_if 69 with (first | (go_at_call 83; (with_reducible refine (strings_IndexByte.calls x6_2 92 t114 _ A16.out).mono ?_); rintro e w' ⟨rfl, ⟨nd, rfl⟩⟩; (try first | exact ⟨rfl, _, World.drewN_drewN _ _ _⟩ | exact ⟨rfl, _, Eq.trans (World.drewN_drewN _ _ _) (congrArg (World.drewN _) (Nat.add_assoc _ _ _))⟩); have p24 : 0 ≤ ((ji21) : Int) := of_decide_eq_true (by first | (with_reducible assumption) | assumption); have q24 : (ji21) < (x6_2.size : Int) := of_decide_eq_true (by first | (with_reducible assumption) | assumption); have hx24 := bt_at x6_2 (ji21); replace p24 := eq_true p24; replace q24 := eq_true q24)))
                          (try simp only [Act.put, List.setIfInBounds_toArray, List.set_cons_zero, List.set_cons_succ])
                          go_cut [69] (fun v69 wc => ∃ (kq : Nat) (x69_27 : Bool), v69 = .bool x69_27 ∧ Aside0 (fastjson_validateString.j2 kq (x6_2.extract ((ji25) : Int).toNat x6_2.size) t111 (bt x6_2 (ji21)) x69_27 = some (r1, r2, r3)) ∧ Aside0 (kq ≤ k2) ∧ Aside0 (Below w.heap.size w wc))
                          case first =>
                            have H := HC28.out
                            clear HC28
                            by_cases c29 : (bt x6_2 (ji21)) = 34
                            · rw [if_pos c29] at H
                              have c29b0 : ((bt x6_2 (ji21)) == 34) = true := beq_iff_eq.mpr c29
                              have c29b1 : ((bt x6_2 (ji21)) != 34) = false := bne_eq_false_iff_eq.mpr c29
                              clear c29
                              (first | rw [c29b0] | (simp only [i64_w, i32_w]; rw [c29b0]) | skip)
                              have H' := Aside0.mk H
                              clear H
                              go_wp2
                              repeat (go_quiet (fail); try go_wp2)
                              (first | go_meet | (rw [← c29b0]; go_meet))
                              case rel => exact ⟨_, (((bt x6_2 (ji21)) == 34)), (by first | rfl | (simp; done) | (simp only [← hji21] <;> (first | rfl | (simp; done))) | (simp [*]; done) | (simp only [*]; done)), H', ⟨by have := HJ2.out; have := HK2.out; first | omega | exact Nat.le_refl _⟩, ⟨by repeat (first | (with_reducible first | exact HB.out | apply below_alloc | apply pw_below_drewN | apply below_drew1) | exact HB.out)⟩⟩
                            · rw [if_neg c29] at H
                              have c29b0 : ((bt x6_2 (ji21)) == 34) = false := beq_eq_false_iff_ne.mpr c29
                              have c29b1 : ((bt x6_2 (ji21)) != 34) = true := bne_iff_ne.mpr c29
                              (first | rw [c29b0] | (simp only [i64_w, i32_w]; rw [c29b0]) | skip)
                              by_cases c30 : (bt x6_2 (ji21)) = 92
                              · rw [if_pos c30] at H
                                have c30b0 : ((bt x6_2 (ji21)) == 92) = true := beq_iff_eq.mpr c30
                                have c30b1 : ((bt x6_2 (ji21)) != 92) = false := bne_eq_false_iff_eq.mpr c30
                                clear c30
                                have H' := Aside0.mk H
                                clear H
                                go_wp2
                                repeat (go_quiet (fail); try go_wp2)
                                (first | go_meet | (rw [← c29b0]; go_meet) | (rw [← c30b0]; go_meet))
                                case rel => exact ⟨_, (((bt x6_2 (ji21)) == 92)), (by first | rfl | (simp; done) | (simp only [← hji21] <;> (first | rfl | (simp; done))) | (simp [*]; done) | (simp only [*]; done)), H', ⟨by have := HJ2.out; have := HK2.out; first | omega | exact Nat.le_refl _⟩, ⟨by repeat (first | (with_reducible first | exact HB.out | apply below_alloc | apply pw_below_drewN | apply below_drew1) | exact HB.out)⟩⟩
                              · rw [if_neg c30] at H
                                have c30b0 : ((bt x6_2 (ji21)) == 92) = false := beq_eq_false_iff_ne.mpr c30
                                have c30b1 : ((bt x6_2 (ji21)) != 92) = true := bne_iff_ne.mpr c30
                                by_cases c31 : (bt x6_2 (ji21)) = 47
                                · rw [if_pos c31] at H
                                  have c31b0 : ((bt x6_2 (ji21)) == 47) = true := beq_iff_eq.mpr c31
                                  have c31b1 : ((bt x6_2 (ji21)) != 47) = false := bne_eq_false_iff_eq.mpr c31
                                  clear c31
                                  have H' := Aside0.mk H
                                  clear H
                                  go_wp2
                                  repeat (go_quiet (fail); try go_wp2)
                                  (first | go_meet | (rw [← c29b0]; go_meet) | (rw [← c30b0]; go_meet) | (rw [← c31b0]; go_meet))
                                  case rel => exact ⟨_, (((bt x6_2 (ji21)) == 47)), (by first | rfl | (simp; done) | (simp only [← hji21] <;> (first | rfl | (simp; done))) | (simp [*]; done) | (simp only [*]; done)), H', ⟨by have := HJ2.out; have := HK2.out; first | omega | exact Nat.le_refl _⟩, ⟨by repeat (first | (with_reducible first | exact HB.out | apply below_alloc | apply pw_below_drewN | apply below_drew1) | exact HB.out)⟩⟩
                                · rw [if_neg c31] at H
                                  have c31b0 : ((bt x6_2 (ji21)) == 47) = false := beq_eq_false_iff_ne.mpr c31
                                  have c31b1 : ((bt x6_2 (ji21)) != 47) = true := bne_iff_ne.mpr c31
                                  by_cases c32 : (bt x6_2 (ji21)) = 98
                                  · rw [if_pos c32] at H
                                    have c32b0 : ((bt x6_2 (ji21)) == 98) = true := beq_iff_eq.mpr c32
                                    have c32b1 : ((bt x6_2 (ji21)) != 98) = false := bne_eq_false_iff_eq.mpr c32
                                    clear c32
                                    have H' := Aside0.mk H
                                    clear H
                                    go_wp2
                                    repeat (go_quiet (fail); try go_wp2)
                                    (first | go_meet | (rw [← c29b0]; go_meet) | (rw [← c30b0]; go_meet) | (rw [← c31b0]; go_meet) | (rw [← c32b0]; go_meet))
                                    case rel => exact ⟨_, (((bt x6_2 (ji21)) == 98)), (by first | rfl | (simp; done) | (simp only [← hji21] <;> (first | rfl | (simp; done))) | (simp [*]; done) | (simp only [*]; done)), H', ⟨by have := HJ2.out; have := HK2.out; first | omega | exact Nat.le_refl _⟩, ⟨by repeat (first | (with_reducible first | exact HB.out | apply below_alloc | apply pw_below_drewN | apply below_drew1) | exact HB.out)⟩⟩
                                  · rw [if_neg c32] at H
                                    have c32b0 : ((bt x6_2 (ji21)) == 98) = false := beq_eq_false_iff_ne.mpr c32
                                    have c32b1 : ((bt x6_2 (ji21)) != 98) = true := bne_iff_ne.mpr c32
                                    by_cases c33 : (bt x6_2 (ji21)) = 102
                                    · rw [if_pos c33] at H
                                      have c33b0 : ((bt x6_2 (ji21)) == 102) = true := beq_iff_eq.mpr c33
                                      have c33b1 : ((bt x6_2 (ji21)) != 102) = false := bne_eq_false_iff_eq.mpr c33
                                      clear c33
                                      have H' := Aside0.mk H
                                      clear H
                                      go_wp2
                                      repeat (go_quiet (fail); try go_wp2)
                                      (first | go_meet | (rw [← c29b0]; go_meet) | (rw [← c30b0]; go_meet) | (rw [← c31b0]; go_meet) | (rw [← c32b0]; go_meet) | (rw [← c33b0]; go_meet))
                                      case rel => exact ⟨_, (((bt x6_2 (ji21)) == 102)), (by first | rfl | (simp; done) | (simp only [← hji21] <;> (first | rfl | (simp; done))) | (simp [*]; done) | (simp only [*]; done)), H', ⟨by have := HJ2.out; have := HK2.out; first | omega | exact Nat.le_refl _⟩, ⟨by repeat (first | (with_reducible first | exact HB.out | apply below_alloc | apply pw_below_drewN | apply below_drew1) | exact HB.out)⟩⟩
                                    · rw [if_neg c33] at H
                                      have c33b0 : ((bt x6_2 (ji21)) == 102) = false := beq_eq_false_iff_ne.mpr c33
                                      have c33b1 : ((bt x6_2 (ji21)) != 102) = true := bne_iff_ne.mpr c33
                                      by_cases c34 : (bt x6_2 (ji21)) = 110
                                      · rw [if_pos c34] at H
                                        have c34b0 : ((bt x6_2 (ji21)) == 110) = true := beq_iff_eq.mpr c34
                                        have c34b1 : ((bt x6_2 (ji21)) != 110) = false := bne_eq_false_iff_eq.mpr c34
                                        clear c34
                                        have H' := Aside0.mk H
                                        clear H
                                        go_wp2
                                        repeat (go_quiet (fail); try go_wp2)
                                        (first | go_meet | (rw [← c29b0]; go_meet) | (rw [← c30b0]; go_meet) | (rw [← c31b0]; go_meet) | (rw [← c32b0]; go_meet) | (rw [← c33b0]; go_meet) | (rw [← c34b0]; go_meet))
                                        case rel => exact ⟨_, (((bt x6_2 (ji21)) == 110)), (by first | rfl | (simp; done) | (simp only [← hji21] <;> (first | rfl | (simp; done))) | (simp [*]; done) | (simp only [*]; done)), H', ⟨by have := HJ2.out; have := HK2.out; first | omega | exact Nat.le_refl _⟩, ⟨by repeat (first | (with_reducible first | exact HB.out | apply below_alloc | apply pw_below_drewN | apply below_drew1) | exact HB.out)⟩⟩
                                      · rw [if_neg c34] at H
                                        have c34b0 : ((bt x6_2 (ji21)) == 110) = false := beq_eq_false_iff_ne.mpr c34
                                        have c34b1 : ((bt x6_2 (ji21)) != 110) = true := bne_iff_ne.mpr c34
                                        by_cases c35 : (bt x6_2 (ji21)) = 114
                                        · rw [if_pos c35] at H
                                          have c35b0 : ((bt x6_2 (ji21)) == 114) = true := beq_iff_eq.mpr c35
                                          have c35b1 : ((bt x6_2 (ji21)) != 114) = false := bne_eq_false_iff_eq.mpr c35
                                          clear c35
                                          have H' := Aside0.mk H
                                          clear H
                                          go_wp2
                                          repeat (go_quiet (fail); try go_wp2)
                                          (first | go_meet | (rw [← c29b0]; go_meet) | (rw [← c30b0]; go_meet) | (rw [← c31b0]; go_meet) | (rw [← c32b0]; go_meet) | (rw [← c33b0]; go_meet) | (rw [← c34b0]; go_meet) | (rw [← c35b0]; go_meet))
                                          case rel => exact ⟨_, (((bt x6_2 (ji21)) == 114)), (by first | rfl | (simp; done) | (simp only [← hji21] <;> (first | rfl | (simp; done))) | (simp [*]; done) | (simp only [*]; done)), H', ⟨by have := HJ2.out; have := HK2.out; first | omega | exact Nat.le_refl _⟩, ⟨by repeat (first | (with_reducible first | exact HB.out | apply below_alloc | apply pw_below_drewN | apply below_drew1) | exact HB.out)⟩⟩
                                        · rw [if_neg c35] at H
                                          have c35b0 : ((bt x6_2 (ji21)) == 114) = false := beq_eq_false_iff_ne.mpr c35
                                          have c35b1 : ((bt x6_2 (ji21)) != 114) = true := bne_iff_ne.mpr c35
                                          have H' := Aside0.mk H
                                          clear H
                                          go_wp2
                                          repeat (go_quiet (fail); try go_wp2)
                                          (first | go_meet | (rw [← c29b0]; go_meet) | (rw [← c30b0]; go_meet) | (rw [← c31b0]; go_meet) | (rw [← c32b0]; go_meet) | (rw [← c33b0]; go_meet) | (rw [← c34b0]; go_meet) | (rw [← c35b0]; go_meet))
                                          case rel => exact ⟨_, (((bt x6_2 (ji21)) == 116)), (by first | rfl | (simp; done) | (simp only [← hji21] <;> (first | rfl | (simp; done))) | (simp [*]; done) | (simp only [*]; done)), H', ⟨by have := HJ2.out; have := HK2.out; first | omega | exact Nat.le_refl _⟩, ⟨by repeat (first | (with_reducible first | exact HB.out | apply below_alloc | apply pw_below_drewN | apply below_drew1) | exact HB.out)⟩⟩
                          case rest =>
                            clear HC28
                            try clear c1
                            try clear q1
                            try clear c2
                            try clear p2
                            try clear q2
                            try clear hx2
                            try clear c3
                            try clear c4
                            try clear c4b0
                            try clear c5
                            try clear c5b0
                            try clear c5b1
                            try clear c6
                            try clear c6b0
                            try clear c6b1
                            try clear p6
                            try clear c8
                            try clear c9
                            try clear c9b0
                            try clear c9b1
                            try clear c10
                            try clear c10b0
                            try clear c10b1
                            try clear q11
                            try clear c12
                            try clear c12b0
                            try clear c12b1
                            try clear c13
                            try clear c13b0
                            try clear c13b1
                            try clear c17
                            try clear c17b0
                            try clear c18
                            try clear c18b0
                            try clear c22
                            try clear c22b0
                            try clear c23
                            try clear c23b0
                            try clear p24
                            try clear q24
                            try clear hx24
                            try clear c26
                            try clear c26b0
                            try clear c26b1
                            try clear c27
                            try clear c27b0
                            try clear c27b1
                            try clear c29
                            try clear c29b0
                            try clear c29b1
                            try clear c30
                            try clear c30b0
                            try clear c30b1
                            try clear c31
                            try clear c31b0
                            try clear c31b1
                            try clear c32
                            try clear c32b0
                            try clear c32b1
                            try clear c33
                            try clear c33b0
                            try clear c33b1
                            try clear c34
                            try clear c34b0
                            try clear c34b1
                            try clear c35
                            try clear c35b0
                            try clear c35b1
                            try clear p2
                            try clear p24
                            try clear p6
                            try clear q1
                            try clear q11
                            try clear q113
                            try clear q24
                            obtain ⟨kq, x69_27, rfl, HA, HJ27, HB⟩ := hcut
                            cases kq with
                            | zero => exact absurd HA.out (by simp [fastjson_validateString.j2])
                            | succ kj27 =>
                              have H := HA.out
                              clear HA
                              simp only [fastjson_validateString.j2] at H
                              by_cases c36 : x69_27 = true
                              · subst c36
                                have H1 : (fastjson_validateString.l0 kj27 (x6_2.extract ((ji25) : Int).toNat x6_2.size) t111) = some (r1, r2, r3) := by rw [if_pos rfl] at H; exact H
                                clear H
                                have H := H1
                                clear H1
                                have H' := Aside0.mk H
                                clear H
                                go_wp2
                                repeat (go_quiet (fail); try go_wp2)
                                go_roundg kj27
                                case measure => have := HJ2.out; have := HK2.out; have := HJ27.out; omega
                                case rel => exact ⟨((x6_2.extract ((ji25) : Int).toNat x6_2.size)), (by first | rfl | (simp; done) | (simp only [← hji25] <;> (first | rfl | (simp; done))) | (simp [*]; done) | (simp only [*]; done)), H', ⟨by have := HJ2.out; have := HK2.out; have := HJ27.out; omega⟩, ⟨by repeat (first | (with_reducible first | exact HB.out | apply below_alloc | apply pw_below_drewN | apply below_drew1) | exact HB.out)⟩⟩
                              · replace c36 := Bool.eq_false_iff.mpr c36
                                subst c36
                                have H1 : (if (bt x6_2 (ji21)) = 117 then (if ((x6_2.extract ((ji25) : Int).toNat x6_2.size).size : Int) < 4 then ((errors_New.f (⟨#[116, 111, 111, 32, 115, 104, 111, 114, 116, 32, 101, 115, 99, 97, 112, 101, 32, 115, 101, 113, 117, 101, 110, 99, 101, 58, 32, 92, 117]⟩ : ByteArray)).bind fun t116 => (some ((x6_2.extract ((ji25) : Int).toNat x6_2.size), t111, t116))) else (if 0 ≤ 4 then (if 4 ≤ ((x6_2.extract ((ji25) : Int).toNat x6_2.size).size : Int) then ((strconv_ParseUint_86.f ((x6_2.extract ((ji25) : Int).toNat x6_2.size).extract 0 4) 16 16).bind fun bt117 => (if bt117.2.isNone = true then (fastjson_validateString.l0 kj27 ((x6_2.extract ((ji25) : Int).toNat x6_2.size).extract 4 (x6_2.extract ((ji25) : Int).toNat x6_2.size).size) t111) else ((errors_New.f (⟨#[105, 110, 118, 97, 108, 105, 100, 32, 101, 115, 99, 97, 112, 101, 32, 115, 101, 113, 117, 101, 110, 99, 101, 32, 92, 117]⟩ : ByteArray)).bind fun t120 => (some ((x6_2.extract ((ji25) : Int).toNat x6_2.size), t111, t120))))) else (none)) else (none))) else ((errors_New.f (⟨#[117, 110, 107, 110, 111, 119, 110, 32, 101, 115, 99, 97, 112, 101, 32, 115, 101, 113, 117, 101, 110, 99, 101]⟩ : ByteArray)).bind fun t121 => (some ((x6_2.extract ((ji25) : Int).toNat x6_2.size), t111, t121)))) = some (r1, r2, r3) := by rw [if_neg (show ¬ (false = true) by decide)] at H; exact H
                                clear H
                                have H := H1
                                clear H1
                                by_cases c37 : (bt x6_2 (ji21)) = 117
                                · rw [if_pos c37] at H
                                  have c37b0 : ((bt x6_2 (ji21)) == 117) = true := beq_iff_eq.mpr c37
                                  have c37b1 : ((bt x6_2 (ji21)) != 117) = false := bne_eq_false_iff_eq.mpr c37
                                  clear c37
                                  by_cases c38 : ((x6_2.extract ((ji25) : Int).toNat x6_2.size).size : Int) < 4
                                  · rw [if_pos c38] at H
                                    have c38b0 : decide (((x6_2.extract ((ji25) : Int).toNat x6_2.size).size : Int) < 4) = true := decide_eq_true c38
                                    have c38e0 := c38b0
                                    (try simp only [ByteArray.size_extract, Nat.min_self] at c38e0)
                                    (first | have c38f0 := of_decide_eq_true c38e0 | have c38f0 := of_decide_eq_false c38e0 | skip)
                                    have c38b1 : decide ((x6_2.extract ((ji25) : Int).toNat x6_2.size).size < 4) = true := decide_eq_true (by omega)
                                    have c38e1 := c38b1
                                    (try simp only [ByteArray.size_extract, Nat.min_self] at c38e1)
                                    (first | have c38f1 := of_decide_eq_true c38e1 | have c38f1 := of_decide_eq_false c38e1 | skip)
                                    clear c38
                                    replace H := Option.bind_eq_some_iff.mp H
                                    obtain ⟨t116, A390, H⟩ := H
                                    replace H : (some ((x6_2.extract ((ji25) : Int).toNat x6_2.size), t111, t116)) = some (r1, r2, r3) := H
                                    have A39 := Aside0.mk A390
                                    clear A390
                                    simp only [Option.some.injEq, Prod.mk.injEq] at H
                                    obtain ⟨rfl, rfl, rfl⟩ := H
                                    go_wp2_with (first | (go_at_call 84; (with_reducible refine (errors_New.calls (⟨#[116, 111, 111, 32, 115, 104, 111, 114, 116, 32, 101, 115, 99, 97, 112, 101, 32, 115, 101, 113, 117, 101, 110, 99, 101, 58, 32, 92, 117]⟩ : ByteArray) t116 _ A39.out).mono ?_); rintro e w40 ⟨ex_t116, rfl, hb⟩; have n0_ := Aside0.mk (below_step (by repeat (first | (with_reducible first | exact HB.out | apply below_alloc | apply pw_below_drewN | apply below_drew1) | exact HB.out)) hb); clear HB; have HB := n0_; clear n0_; (try clear hb); (try clear hb2); (try clear hk); (try clear hi); (try simp only [errX_none, errX_some])))
                                    repeat (go_quiet (first | (go_at_call 84; (with_reducible refine (errors_New.calls (⟨#[116, 111, 111, 32, 115, 104, 111, 114, 116, 32, 101, 115, 99, 97, 112, 101, 32, 115, 101, 113, 117, 101, 110, 99, 101, 58, 32, 92, 117]⟩ : ByteArray) t116 _ A39.out).mono ?_); rintro e w40 ⟨ex_t116, rfl, hb⟩; have n0_ := Aside0.mk (below_step (by repeat (first | (with_reducible first | exact HB.out | apply below_alloc | apply pw_below_drewN | apply below_drew1) | exact HB.out)) hb); clear HB; have HB := n0_; clear n0_; (try clear hb); (try clear hb2); (try clear hk); (try clear hi); (try simp only [errX_none, errX_some]))); try go_wp2_with (first | (go_at_call 84; (with_reducible refine (errors_New.calls (⟨#[116, 111, 111, 32, 115, 104, 111, 114, 116, 32, 101, 115, 99, 97, 112, 101, 32, 115, 101, 113, 117, 101, 110, 99, 101, 58, 32, 92, 117]⟩ : ByteArray) t116 _ A39.out).mono ?_); rintro e w40 ⟨ex_t116, rfl, hb⟩; have n0_ := Aside0.mk (below_step (by repeat (first | (with_reducible first | exact HB.out | apply below_alloc | apply pw_below_drewN | apply below_drew1) | exact HB.out)) hb); clear HB; have HB := n0_; clear n0_; (try clear hb); (try clear hb2); (try clear hk); (try clear hi); (try simp only [errX_none, errX_some]))))
                                    go_ret3
                                    first | exact ⟨ex_t116, by first | rfl | (simp [errX_none, errX_some] <;> rfl) | (simp only [← hji21, ← hji25]; first | rfl | (simp [errX_none, errX_some] <;> rfl)) | (simp [*, errX_none, errX_some] <;> rfl), by repeat (first | (with_reducible first | exact HB.out | apply below_alloc | apply pw_below_drewN | apply below_drew1) | exact HB.out)⟩ | exact ⟨ex_t116.1, ex_t116.2, by first | rfl | (simp [errX_none, errX_some] <;> rfl) | (simp only [← hji21, ← hji25]; first | rfl | (simp [errX_none, errX_some] <;> rfl)) | (simp [*, errX_none, errX_some] <;> rfl), by repeat (first | (with_reducible first | exact HB.out | apply below_alloc | apply pw_below_drewN | apply below_drew1) | exact HB.out)⟩ | exact ⟨⟨ex_t116, by first | rfl | (simp [errX_none, errX_some] <;> rfl) | (simp only [← hji21, ← hji25]; first | rfl | (simp [errX_none, errX_some] <;> rfl)) | (simp [*, errX_none, errX_some] <;> rfl)⟩, by repeat (first | (with_reducible first | exact HB.out | apply below_alloc | apply pw_below_drewN | apply below_drew1) | exact HB.out)⟩ | exact ⟨⟨ex_t116.1, ex_t116.2, by first | rfl | (simp [errX_none, errX_some] <;> rfl) | (simp only [← hji21, ← hji25]; first | rfl | (simp [errX_none, errX_some] <;> rfl)) | (simp [*, errX_none, errX_some] <;> rfl)⟩, by repeat (first | (with_reducible first | exact HB.out | apply below_alloc | apply pw_below_drewN | apply below_drew1) | exact HB.out)⟩
                                  · rw [if_neg c38] at H
                                    have c38b0 : decide (((x6_2.extract ((ji25) : Int).toNat x6_2.size).size : Int) < 4) = false := decide_eq_false c38
                                    have c38e0 := c38b0
                                    (try simp only [ByteArray.size_extract, Nat.min_self] at c38e0)
                                    (first | have c38f0 := of_decide_eq_true c38e0 | have c38f0 := of_decide_eq_false c38e0 | skip)
                                    have c38b1 : decide ((x6_2.extract ((ji25) : Int).toNat x6_2.size).size < 4) = false := decide_eq_false (by omega)
                                    have c38e1 := c38b1
                                    (try simp only [ByteArray.size_extract, Nat.min_self] at c38e1)
                                    (first | have c38f1 := of_decide_eq_true c38e1 | have c38f1 := of_decide_eq_false c38e1 | skip)
                                    clear c38
                                    by_cases c41 : 0 ≤ 4
                                    · rw [if_pos c41] at H
                                      have c41b0 := eq_true c41
                                      have c41b1 : decide (0 ≤ 4) = true := decide_eq_true c41
                                      clear c41
                                      by_cases c42 : 4 ≤ ((x6_2.extract ((ji25) : Int).toNat x6_2.size).size : Int)
                                      · rw [if_pos c42] at H
                                        have c42b0 := eq_true c42
                                        have c42e0 := c42b0
                                        (try simp only [ByteArray.size_extract, Nat.min_self] at c42e0)
                                        (first | have c42f0 := of_decide_eq_true c42e0 | have c42f0 := of_decide_eq_false c42e0 | skip)
                                        have c42b1 : decide (4 ≤ ((x6_2.extract ((ji25) : Int).toNat x6_2.size).size : Int)) = true := decide_eq_true c42
                                        have c42e1 := c42b1
                                        (try simp only [ByteArray.size_extract, Nat.min_self] at c42e1)
                                        (first | have c42f1 := of_decide_eq_true c42e1 | have c42f1 := of_decide_eq_false c42e1 | skip)
                                        clear c42
                                        replace H := Option.bind_eq_some_iff.mp H
                                        obtain ⟨⟨t117, t118⟩, A430, H⟩ := H
                                        replace H : (if t118.isNone = true then (fastjson_validateString.l0 kj27 ((x6_2.extract ((ji25) : Int).toNat x6_2.size).extract 4 (x6_2.extract ((ji25) : Int).toNat x6_2.size).size) t111) else ((errors_New.f (⟨#[105, 110, 118, 97, 108, 105, 100, 32, 101, 115, 99, 97, 112, 101, 32, 115, 101, 113, 117, 101, 110, 99, 101, 32, 92, 117]⟩ : ByteArray)).bind fun t120 => (some ((x6_2.extract ((ji25) : Int).toNat x6_2.size), t111, t120)))) = some (r1, r2, r3) := H
                                        have A43 := Aside0.mk A430
                                        clear A430
                                        rcases t118 with _ | q119
                                        · have H1 : (fastjson_validateString.l0 kj27 ((x6_2.extract ((ji25) : Int).toNat x6_2.size).extract 4 (x6_2.extract ((ji25) : Int).toNat x6_2.size).size) t111) = some (r1, r2, r3) := by rw [if_pos (show (none : Option Int).isNone = true by rfl)] at H; exact H
                                          clear H
                                          have H := H1
                                          clear H1
                                          try simp only [errX_none, errX_some]
                                          have c44b0 := eq_true (of_decide_eq_true (by first | (with_reducible assumption) | assumption) : 4 ≤ ((x6_2.extract ((ji25) : Int).toNat x6_2.size).size : Int))
                                          have H' := Aside0.mk H
                                          clear H
                                          go_wp2_with (first | (go_at_call 86; (with_reducible refine (strconv_ParseUint_86.calls ((x6_2.extract ((ji25) : Int).toNat x6_2.size).extract 0 4) 16 16 t117 none _ ?side1 A43.out).mono ?_); (case side1 => exact Laid.below HLD.out (by repeat (first | (with_reducible first | exact HB.out | apply below_alloc | apply pw_below_drewN | apply below_drew1) | exact HB.out))); rintro e w45 ⟨_, rfl, hb⟩; have n0_ := Aside0.mk (below_step (by repeat (first | (with_reducible first | exact HB.out | apply below_alloc | apply pw_below_drewN | apply below_drew1) | exact HB.out)) hb); clear HB; have HB := n0_; clear n0_; (try clear hb); (try clear hb2); (try clear hk); (try clear hi); (try simp only [errX_none, errX_some])))
                                          repeat (go_quiet (first | (go_at_call 86; (with_reducible refine (strconv_ParseUint_86.calls ((x6_2.extract ((ji25) : Int).toNat x6_2.size).extract 0 4) 16 16 t117 none _ ?side1 A43.out).mono ?_); (case side1 => exact Laid.below HLD.out (by repeat (first | (with_reducible first | exact HB.out | apply below_alloc | apply pw_below_drewN | apply below_drew1) | exact HB.out))); rintro e w45 ⟨_, rfl, hb⟩; have n0_ := Aside0.mk (below_step (by repeat (first | (with_reducible first | exact HB.out | apply below_alloc | apply pw_below_drewN | apply below_drew1) | exact HB.out)) hb); clear HB; have HB := n0_; clear n0_; (try clear hb); (try clear hb2); (try clear hk); (try clear hi); (try simp only [errX_none, errX_some]))); try go_wp2_with (first | (go_at_call 86; (with_reducible refine (strconv_ParseUint_86.calls ((x6_2.extract ((ji25) : Int).toNat x6_2.size).extract 0 4) 16 16 t117 none _ ?side1 A43.out).mono ?_); (case side1 => exact Laid.below HLD.out (by repeat (first | (with_reducible first | exact HB.out | apply below_alloc | apply pw_below_drewN | apply below_drew1) | exact HB.out))); rintro e w45 ⟨_, rfl, hb⟩; have n0_ := Aside0.mk (below_step (by repeat (first | (with_reducible first | exact HB.out | apply below_alloc | apply pw_below_drewN | apply below_drew1) | exact HB.out)) hb); clear HB; have HB := n0_; clear n0_; (try clear hb); (try clear hb2); (try clear hk); (try clear hi); (try simp only [errX_none, errX_some]))))
                                          go_roundg kj27
                                          case measure => have := HJ2.out; have := HK2.out; have := HJ27.out; omega
                                          case rel => exact ⟨((x6_2.extract ((ji25) : Int).toNat x6_2.size).extract 4 (x6_2.extract ((ji25) : Int).toNat x6_2.size).size), (by first | rfl | (simp; done) | (simp only [← hji25] <;> (first | rfl | (simp; done))) | (simp [*]; done) | (simp only [*]; done)), H', ⟨by have := HJ2.out; have := HK2.out; have := HJ27.out; omega⟩, ⟨by repeat (first | (with_reducible first | exact HB.out | apply below_alloc | apply pw_below_drewN | apply below_drew1) | exact HB.out)⟩⟩
                                        · have H1 : ((errors_New.f (⟨#[105, 110, 118, 97, 108, 105, 100, 32, 101, 115, 99, 97, 112, 101, 32, 115, 101, 113, 117, 101, 110, 99, 101, 32, 92, 117]⟩ : ByteArray)).bind fun t120 => (some ((x6_2.extract ((ji25) : Int).toNat x6_2.size), t111, t120))) = some (r1, r2, r3) := by rw [if_neg (show ¬ (some q119).isNone = true by simp)] at H; exact H
                                          clear H
                                          have H := H1
                                          clear H1
                                          try simp only [errX_none, errX_some]
                                          replace H := Option.bind_eq_some_iff.mp H
                                          obtain ⟨t120, A460, H⟩ := H
                                          replace H : (some ((x6_2.extract ((ji25) : Int).toNat x6_2.size), t111, t120)) = some (r1, r2, r3) := H
                                          have A46 := Aside0.mk A460
                                          clear A460
                                          simp only [Option.some.injEq, Prod.mk.injEq] at H
                                          obtain ⟨rfl, rfl, rfl⟩ := H
                                          go_wp2_with (first | (go_at_call 86; (with_reducible refine (strconv_ParseUint_86.calls ((x6_2.extract ((ji25) : Int).toNat x6_2.size).extract 0 4) 16 16 t117 (some q119) _ ?side1 A43.out).mono ?_); (case side1 => exact Laid.below HLD.out (by repeat (first | (with_reducible first | exact HB.out | apply below_alloc | apply pw_below_drewN | apply below_drew1) | exact HB.out))); rintro e w47 ⟨ex_t118, rfl, hb⟩; have n0_ := Aside0.mk (below_step (by repeat (first | (with_reducible first | exact HB.out | apply below_alloc | apply pw_below_drewN | apply below_drew1) | exact HB.out)) hb); clear HB; have HB := n0_; clear n0_; (try clear hb); (try clear hb2); (try clear hk); (try clear hi); (try simp only [errX_none, errX_some])) | (go_at_call 84; (with_reducible refine (errors_New.calls (⟨#[105, 110, 118, 97, 108, 105, 100, 32, 101, 115, 99, 97, 112, 101, 32, 115, 101, 113, 117, 101, 110, 99, 101, 32, 92, 117]⟩ : ByteArray) t120 _ A46.out).mono ?_); rintro e w48 ⟨ex_t120, rfl, hb⟩; have n0_ := Aside0.mk (below_step (by repeat (first | (with_reducible first | exact HB.out | apply below_alloc | apply pw_below_drewN | apply below_drew1) | exact HB.out)) hb); clear HB; have HB := n0_; clear n0_; (try clear hb); (try clear hb2); (try clear hk); (try clear hi); (try simp only [errX_none, errX_some])))
                                          repeat (go_quiet (first | (go_at_call 86; (with_reducible refine (strconv_ParseUint_86.calls ((x6_2.extract ((ji25) : Int).toNat x6_2.size).extract 0 4) 16 16 t117 (some q119) _ ?side1 A43.out).mono ?_); (case side1 => exact Laid.below HLD.out (by repeat (first | (with_reducible first | exact HB.out | apply below_alloc | apply pw_below_drewN | apply below_drew1) | exact HB.out))); rintro e w47 ⟨ex_t118, rfl, hb⟩; have n0_ := Aside0.mk (below_step (by repeat (first | (with_reducible first | exact HB.out | apply below_alloc | apply pw_below_drewN | apply below_drew1) | exact HB.out)) hb); clear HB; have HB := n0_; clear n0_; (try clear hb); (try clear hb2); (try clear hk); (try clear hi); (try simp only [errX_none, errX_some])) | (go_at_call 84; (with_reducible refine (errors_New.calls (⟨#[105, 110, 118, 97, 108, 105, 100, 32, 101, 115, 99, 97, 112, 101, 32, 115, 101, 113, 117, 101, 110, 99, 101, 32, 92, 117]⟩ : ByteArray) t120 _ A46.out).mono ?_); rintro e w48 ⟨ex_t120, rfl, hb⟩; have n0_ := Aside0.mk (below_step (by repeat (first | (with_reducible first | exact HB.out | apply below_alloc | apply pw_below_drewN | apply below_drew1) | exact HB.out)) hb); clear HB; have HB := n0_; clear n0_; (try clear hb); (try clear hb2); (try clear hk); (try clear hi); (try simp only [errX_none, errX_some]))); try go_wp2_with (first | (go_at_call 86; (with_reducible refine (strconv_ParseUint_86.calls ((x6_2.extract ((ji25) : Int).toNat x6_2.size).extract 0 4) 16 16 t117 (some q119) _ ?side1 A43.out).mono ?_); (case side1 => exact Laid.below HLD.out (by repeat (first | (with_reducible first | exact HB.out | apply below_alloc | apply pw_below_drewN | apply below_drew1) | exact HB.out))); rintro e w47 ⟨ex_t118, rfl, hb⟩; have n0_ := Aside0.mk (below_step (by repeat (first | (with_reducible first | exact HB.out | apply below_alloc | apply pw_below_drewN | apply below_drew1) | exact HB.out)) hb); clear HB; have HB := n0_; clear n0_; (try clear hb); (try clear hb2); (try clear hk); (try clear hi); (try simp only [errX_none, errX_some])) | (go_at_call 84; (with_reducible refine (errors_New.calls (⟨#[105, 110, 118, 97, 108, 105, 100, 32, 101, 115, 99, 97, 112, 101, 32, 115, 101, 113, 117, 101, 110, 99, 101, 32, 92, 117]⟩ : ByteArray) t120 _ A46.out).mono ?_); rintro e w48 ⟨ex_t120, rfl, hb⟩; have n0_ := Aside0.mk (below_step (by repeat (first | (with_reducible first | exact HB.out | apply below_alloc | apply pw_below_drewN | apply below_drew1) | exact HB.out)) hb); clear HB; have HB := n0_; clear n0_; (try clear hb); (try clear hb2); (try clear hk); (try clear hi); (try simp only [errX_none, errX_some]))))
                                          go_ret3
                                          first | exact ⟨ex_t120, by first | rfl | (simp [errX_none, errX_some] <;> rfl) | (simp only [← hji21, ← hji25]; first | rfl | (simp [errX_none, errX_some] <;> rfl)) | (simp [*, errX_none, errX_some] <;> rfl), by repeat (first | (with_reducible first | exact HB.out | apply below_alloc | apply pw_below_drewN | apply below_drew1) | exact HB.out)⟩ | exact ⟨ex_t120.1, ex_t120.2, by first | rfl | (simp [errX_none, errX_some] <;> rfl) | (simp only [← hji21, ← hji25]; first | rfl | (simp [errX_none, errX_some] <;> rfl)) | (simp [*, errX_none, errX_some] <;> rfl), by repeat (first | (with_reducible first | exact HB.out | apply below_alloc | apply pw_below_drewN | apply below_drew1) | exact HB.out)⟩ | exact ⟨⟨ex_t120, by first | rfl | (simp [errX_none, errX_some] <;> rfl) | (simp only [← hji21, ← hji25]; first | rfl | (simp [errX_none, errX_some] <;> rfl)) | (simp [*, errX_none, errX_some] <;> rfl)⟩, by repeat (first | (with_reducible first | exact HB.out | apply below_alloc | apply pw_below_drewN | apply below_drew1) | exact HB.out)⟩ | exact ⟨⟨ex_t120.1, ex_t120.2, by first | rfl | (simp [errX_none, errX_some] <;> rfl) | (simp only [← hji21, ← hji25]; first | rfl | (simp [errX_none, errX_some] <;> rfl)) | (simp [*, errX_none, errX_some] <;> rfl)⟩, by repeat (first | (with_reducible first | exact HB.out | apply below_alloc | apply pw_below_drewN | apply below_drew1) | exact HB.out)⟩
                                      · rw [if_neg c42] at H
                                        exact absurd H (by simp)
                                    · rw [if_neg c41] at H
                                      exact absurd H (by simp)
                                · rw [if_neg c37] at H
                                  have c37b0 : ((bt x6_2 (ji21)) == 117) = false := beq_eq_false_iff_ne.mpr c37
                                  have c37b1 : ((bt x6_2 (ji21)) != 117) = true := bne_iff_ne.mpr c37
                                  replace H := Option.bind_eq_some_iff.mp H
                                  obtain ⟨t121, A490, H⟩ := H
                                  replace H : (some ((x6_2.extract ((ji25) : Int).toNat x6_2.size), t111, t121)) = some (r1, r2, r3) := H
                                  have A49 := Aside0.mk A490
                                  clear A490
                                  simp only [Option.some.injEq, Prod.mk.injEq] at H
                                  obtain ⟨rfl, rfl, rfl⟩ := H
                                  go_wp2_with (first | (go_at_call 84; (with_reducible refine (errors_New.calls (⟨#[117, 110, 107, 110, 111, 119, 110, 32, 101, 115, 99, 97, 112, 101, 32, 115, 101, 113, 117, 101, 110, 99, 101]⟩ : ByteArray) t121 _ A49.out).mono ?_); rintro e w50 ⟨ex_t121, rfl, hb⟩; have n0_ := Aside0.mk (below_step (by repeat (first | (with_reducible first | exact HB.out | apply below_alloc | apply pw_below_drewN | apply below_drew1) | exact HB.out)) hb); clear HB; have HB := n0_; clear n0_; (try clear hb); (try clear hb2); (try clear hk); (try clear hi); (try simp only [errX_none, errX_some])))
                                  repeat (go_quiet (first | (go_at_call 84; (with_reducible refine (errors_New.calls (⟨#[117, 110, 107, 110, 111, 119, 110, 32, 101, 115, 99, 97, 112, 101, 32, 115, 101, 113, 117, 101, 110, 99, 101]⟩ : ByteArray) t121 _ A49.out).mono ?_); rintro e w50 ⟨ex_t121, rfl, hb⟩; have n0_ := Aside0.mk (below_step (by repeat (first | (with_reducible first | exact HB.out | apply below_alloc | apply pw_below_drewN | apply below_drew1) | exact HB.out)) hb); clear HB; have HB := n0_; clear n0_; (try clear hb); (try clear hb2); (try clear hk); (try clear hi); (try simp only [errX_none, errX_some]))); try go_wp2_with (first | (go_at_call 84; (with_reducible refine (errors_New.calls (⟨#[117, 110, 107, 110, 111, 119, 110, 32, 101, 115, 99, 97, 112, 101, 32, 115, 101, 113, 117, 101, 110, 99, 101]⟩ : ByteArray) t121 _ A49.out).mono ?_); rintro e w50 ⟨ex_t121, rfl, hb⟩; have n0_ := Aside0.mk (below_step (by repeat (first | (with_reducible first | exact HB.out | apply below_alloc | apply pw_below_drewN | apply below_drew1) | exact HB.out)) hb); clear HB; have HB := n0_; clear n0_; (try clear hb); (try clear hb2); (try clear hk); (try clear hi); (try simp only [errX_none, errX_some]))))
                                  go_ret3
                                  first | exact ⟨ex_t121, by first | rfl | (simp [errX_none, errX_some] <;> rfl) | (simp only [← hji21, ← hji25]; first | rfl | (simp [errX_none, errX_some] <;> rfl)) | (simp [*, errX_none, errX_some] <;> rfl), by repeat (first | (with_reducible first | exact HB.out | apply below_alloc | apply pw_below_drewN | apply below_drew1) | exact HB.out)⟩ | exact ⟨ex_t121.1, ex_t121.2, by first | rfl | (simp [errX_none, errX_some] <;> rfl) | (simp only [← hji21, ← hji25]; first | rfl | (simp [errX_none, errX_some] <;> rfl)) | (simp [*, errX_none, errX_some] <;> rfl), by repeat (first | (with_reducible first | exact HB.out | apply below_alloc | apply pw_below_drewN | apply below_drew1) | exact HB.out)⟩ | exact ⟨⟨ex_t121, by first | rfl | (simp [errX_none, errX_some] <;> rfl) | (simp only [← hji21, ← hji25]; first | rfl | (simp [errX_none, errX_some] <;> rfl)) | (simp [*, errX_none, errX_some] <;> rfl)⟩, by repeat (first | (with_reducible first | exact HB.out | apply below_alloc | apply pw_below_drewN | apply below_drew1) | exact HB.out)⟩ | exact ⟨⟨ex_t121.1, ex_t121.2, by first | rfl | (simp [errX_none, errX_some] <;> rfl) | (simp only [← hji21, ← hji25]; first | rfl | (simp [errX_none, errX_some] <;> rfl)) | (simp [*, errX_none, errX_some] <;> rfl)⟩, by repeat (first | (with_reducible first | exact HB.out | apply below_alloc | apply pw_below_drewN | apply below_drew1) | exact HB.out)⟩
                        · rw [if_neg c27] at H
                          exact absurd H (by simp)
                      · rw [if_neg c26] at H
                        exact absurd H (by simp)
                    · rw [if_neg c23] at H
                      exact absurd H (by simp)
                  · rw [if_neg c22] at H
                    exact absurd H (by simp)
        · have H1 : (some (t110, t111, some q113)) = some (r1, r2, r3) := by rw [if_neg (show ¬ (some q113).isNone = true by simp)] at H; exact H
          clear H
          have H := H1
          clear H1
          try simp only [errX_none, errX_some]
          simp only [Option.some.injEq, Prod.mk.injEq] at H
          obtain ⟨rfl, rfl, rfl⟩ := H
          go_wp2_with (first | (go_at_call 61; (with_reducible refine (fastjson_parseRawString.calls kj2 a0 t110 t111 (some q113) _ A14.out).mono ?_); rintro e w51 ⟨ex_t112, rfl, hb⟩; have n0_ := Aside0.mk (below_step (by repeat (first | (with_reducible first | exact HB.out | apply below_alloc | apply pw_below_drewN | apply below_drew1) | exact HB.out)) hb); clear HB; have HB := n0_; clear n0_; (try clear hb); (try clear hb2); (try clear hk); (try clear hi); (try simp only [errX_none, errX_some])))
          repeat (go_quiet (first | (go_at_call 61; (with_reducible refine (fastjson_parseRawString.calls kj2 a0 t110 t111 (some q113) _ A14.out).mono ?_); rintro e w51 ⟨ex_t112, rfl, hb⟩; have n0_ := Aside0.mk (below_step (by repeat (first | (with_reducible first | exact HB.out | apply below_alloc | apply pw_below_drewN | apply below_drew1) | exact HB.out)) hb); clear HB; have HB := n0_; clear n0_; (try clear hb); (try clear hb2); (try clear hk); (try clear hi); (try simp only [errX_none, errX_some]))); try go_wp2_with (first | (go_at_call 61; (with_reducible refine (fastjson_parseRawString.calls kj2 a0 t110 t111 (some q113) _ A14.out).mono ?_); rintro e w51 ⟨ex_t112, rfl, hb⟩; have n0_ := Aside0.mk (below_step (by repeat (first | (with_reducible first | exact HB.out | apply below_alloc | apply pw_below_drewN | apply below_drew1) | exact HB.out)) hb); clear HB; have HB := n0_; clear n0_; (try clear hb); (try clear hb2); (try clear hk); (try clear hi); (try simp only [errX_none, errX_some]))))
          go_ret3
          first | exact ⟨ex_t112, by first | rfl | (simp [errX_none, errX_some] <;> rfl) | (simp [*, errX_none, errX_some] <;> rfl), by repeat (first | (with_reducible first | exact HB.out | apply below_alloc | apply pw_below_drewN | apply below_drew1) | exact HB.out)⟩ | exact ⟨ex_t112.1, ex_t112.2, by first | rfl | (simp [errX_none, errX_some] <;> rfl) | (simp [*, errX_none, errX_some] <;> rfl), by repeat (first | (with_reducible first | exact HB.out | apply below_alloc | apply pw_below_drewN | apply below_drew1) | exact HB.out)⟩ | exact ⟨⟨ex_t112, by first | rfl | (simp [errX_none, errX_some] <;> rfl) | (simp [*, errX_none, errX_some] <;> rfl)⟩, by repeat (first | (with_reducible first | exact HB.out | apply below_alloc | apply pw_below_drewN | apply below_drew1) | exact HB.out)⟩ | exact ⟨⟨ex_t112.1, ex_t112.2, by first | rfl | (simp [errX_none, errX_some] <;> rfl) | (simp [*, errX_none, errX_some] <;> rfl)⟩, by repeat (first | (with_reducible first | exact HB.out | apply below_alloc | apply pw_below_drewN | apply below_drew1) | exact HB.out)⟩

/-! ### fastjson_validateKey: function 91 -/
def fastjson_validateKey.l0 : Nat → ByteArray → Int → Int → Option (ByteArray × ByteArray × Option Int)
  | 0, _, _, _ => none
  | k + 1, x0, x7, x8 => if x8 < x7 then (if 0 ≤ x8 then (if x8 < (x0.size : Int) then (if (bt x0 x8) = 34 then (if x8 ≤ (x0.size : Int) then (if 0 ≤ (wrap64 (x8 + 1)) then (if (wrap64 (x8 + 1)) ≤ (x0.size : Int) then (some (x0.extract 0 (x8 : Int).toNat, x0.extract ((wrap64 (x8 + 1)) : Int).toNat x0.size, none)) else (none)) else (none)) else (none)) else (if (bt x0 x8) = 92 then ((fastjson_validateString.f k x0).bind fun bt123 => (some (bt123.1, bt123.2.1, bt123.2.2))) else (fastjson_validateKey.l0 k x0 x7 (wrap64 (x8 + 1))))) else (none)) else (none)) else ((errors_New.f (⟨#[109, 105, 115, 115, 105, 110, 103, 32, 99, 108, 111, 115, 105, 110, 103]⟩ : ByteArray)).bind fun t122 => (some ((⟨#[]⟩ : ByteArray), x0, t122)))
def fastjson_validateKey.f (k : Nat) (a0 : ByteArray) : Option (ByteArray × ByteArray × Option Int) := fastjson_validateKey.l0 k a0 (a0.size : Int) 0
theorem fastjson_validateKey.mono_l : ∀ k, (∀ y0 y1 y2, LeO (fastjson_validateKey.l0 k y0 y1 y2) (fastjson_validateKey.l0 (k + 1) y0 y1 y2))
  | 0 => fun _ _ _ r h => by simp [fastjson_validateKey.l0] at h
  | k + 1 => by
    have ih0 := fastjson_validateKey.mono_l k
    · intro y0 y1 y2
      unfold fastjson_validateKey.l0
      repeat' first
      | (with_reducible exact ih0 _ _ _)
      | (with_reducible exact fastjson_validateString.mono _ _)
      | (with_reducible exact LeO.refl _)
      | (with_reducible exact LeO.none _)
      | (with_reducible refine LeO.ite ?_ ?_)
      | (with_reducible refine LeO.bind ?_ (fun _ => ?_))
      | exact ih0 _ _ _
      | exact fastjson_validateString.mono _ _
      | exact LeO.none _
      | refine LeO.ite ?_ ?_
      | refine LeO.bind ?_ (fun _ => ?_)
theorem fastjson_validateKey.mono : ∀ a0 k, LeO (fastjson_validateKey.f k a0) (fastjson_validateKey.f (k + 1) a0) := by
  intro a0 k
  have ih0 := fastjson_validateKey.mono_l k
  unfold fastjson_validateKey.f
  repeat' first
      | (with_reducible exact ih0 _ _ _)
      | (with_reducible exact fastjson_validateString.mono _ _)
      | (with_reducible exact LeO.refl _)
      | (with_reducible exact LeO.none _)
      | (with_reducible refine LeO.ite ?_ ?_)
      | (with_reducible refine LeO.bind ?_ (fun _ => ?_))
      | exact ih0 _ _ _
      | exact fastjson_validateString.mono _ _
      | exact LeO.none _
      | refine LeO.ite ?_ ?_
      | refine LeO.bind ?_ (fun _ => ?_)
set_option maxHeartbeats 8000000 in
set_option maxRecDepth 100000 in
theorem fastjson_validateKey.calls (k : Nat) (a0 : ByteArray) (r1 : ByteArray) (r2 : ByteArray) (r3 : Option Int) (w : World) (hL : Laid w) (h : fastjson_validateKey.f k a0 = some (r1, r2, r3)) :
    Calls Tryd.prog 91 #[.string a0] w fun e w' => ∃ x2_ : TypeId × Value, e = .returned (.tuple #[.string r1, .string r2, errX x2_ r3]) ∧ Below w.heap.size w w' := by
  have HB := Aside0.mk (Below.refl w.heap.size w)
  have HLD := Aside0.mk hL
  clear hL
  have H : (fastjson_validateKey.l0 k a0 (a0.size : Int) 0) = some (r1, r2, r3) := h
  clear h
  have H' := Aside0.mk H
  clear H
  go_enter Tryd.func91, Tryd.ntmps91
  go_wp2
  repeat (go_quiet (fail); try go_wp2)
  (try simp only [Act.put, List.setIfInBounds_toArray, List.set_cons_zero, List.set_cons_succ])
  go_loopg [8] k (fun kq v8 w' => ∃ (x8_1 : Int), v8 = .int .i64 x8_1 ∧ Aside0 (fastjson_validateKey.l0 kq a0 (a0.size : Int) x8_1 = some (r1, r2, r3)) ∧ Aside0 (kq ≤ k) ∧ Aside0 (Below w.heap.size w w'))
  case atStart => exact ⟨(0), (by first | rfl | (simp; done) | (simp [*]; done)), H', ⟨Nat.le_refl _⟩, ⟨by repeat (first | (with_reducible first | exact HB.out | apply below_alloc | apply pw_below_drewN | apply below_drew1) | exact HB.out)⟩⟩
  case round =>
    clear H'
    obtain ⟨x8_1, rfl, HA, HK1, HB⟩ := hrel
    cases gk with
    | zero => exact absurd HA.out (by simp [fastjson_validateKey.l0])
    | succ k1 =>
      have H := HA.out
      clear HA
      simp only [fastjson_validateKey.l0] at H
      by_cases c2 : x8_1 < (a0.size : Int)
      · rw [if_pos c2] at H
        have c2b0 : decide (x8_1 < (a0.size : Int)) = true := decide_eq_true c2
        clear c2
        by_cases c3 : 0 ≤ x8_1
        · rw [if_pos c3] at H
          have c3b0 : decide (0 ≤ x8_1) = true := decide_eq_true c3
          clear c3
          by_cases c4 : x8_1 < (a0.size : Int)
          · rw [if_pos c4] at H
            have c4b0 : decide (x8_1 < (a0.size : Int)) = true := decide_eq_true c4
            clear c4
            by_cases c6 : (bt a0 x8_1) = 34
            · rw [if_pos c6] at H
              have c6b0 : ((bt a0 x8_1) == 34) = true := beq_iff_eq.mpr c6
              have c6b1 : ((bt a0 x8_1) != 34) = false := bne_eq_false_iff_eq.mpr c6
              clear c6
              have c7b0 := eq_true (of_decide_eq_true (by first | (with_reducible assumption) | assumption) : 0 ≤ x8_1)
              by_cases c8 : x8_1 ≤ (a0.size : Int)
              · rw [if_pos c8] at H
                have c8b0 := eq_true c8
                have c8b1 : decide (x8_1 ≤ (a0.size : Int)) = true := decide_eq_true c8
                clear c8
                obtain ⟨ji9, hji9⟩ : ∃ j_ : Int, (wrap64 (x8_1 + 1)) = j_ := ⟨_, rfl⟩
                replace H : (if 0 ≤ (ji9) then (if (ji9) ≤ (a0.size : Int) then (some (a0.extract 0 (x8_1 : Int).toNat, a0.extract ((ji9) : Int).toNat a0.size, none)) else (none)) else (none)) = some (r1, r2, r3) := by first | (rw [hji9] at H; exact H) | (simp only [hji9] at H ⊢; exact H)
                have hji9w : (IntKind.i64.wrap (x8_1 + 1)) = ji9 := (i64_w _).trans hji9
                by_cases c10 : 0 ≤ (ji9)
                · rw [if_pos c10] at H
                  have c10b0 := eq_true c10
                  have c10b1 : decide (0 ≤ (ji9)) = true := decide_eq_true c10
                  clear c10
                  by_cases c11 : (ji9) ≤ (a0.size : Int)
                  · rw [if_pos c11] at H
                    have c11b0 := eq_true c11
                    have c11b1 : decide ((ji9) ≤ (a0.size : Int)) = true := decide_eq_true c11
                    clear c11
                    simp only [Option.some.injEq, Prod.mk.injEq] at H
                    obtain ⟨rfl, rfl, rfl⟩ := H
                    have p5 : 0 ≤ (x8_1 : Int) := of_decide_eq_true (by first | (with_reducible assumption) | assumption)
                    have q5 : x8_1 < (a0.size : Int) := of_decide_eq_true (by first | (with_reducible assumption) | assumption)
                    have hx5 := bt_at a0 x8_1
                    replace p5 := eq_true p5
                    replace q5 := eq_true q5
                    go_wp2
                    repeat (go_quiet (fail); try go_wp2)
                    go_ret3
                    first | exact ⟨noX, by first | rfl | (simp [errX_none, errX_some] <;> rfl) | (simp only [← hji9]; first | rfl | (simp [errX_none, errX_some] <;> rfl)) | (simp [*, errX_none, errX_some] <;> rfl), by repeat (first | (with_reducible first | exact HB.out | apply below_alloc | apply pw_below_drewN | apply below_drew1) | exact HB.out)⟩ | exact ⟨noX.1, noX.2, by first | rfl | (simp [errX_none, errX_some] <;> rfl) | (simp only [← hji9]; first | rfl | (simp [errX_none, errX_some] <;> rfl)) | (simp [*, errX_none, errX_some] <;> rfl), by repeat (first | (with_reducible first | exact HB.out | apply below_alloc | apply pw_below_drewN | apply below_drew1) | exact HB.out)⟩ | exact ⟨⟨noX, by first | rfl | (simp [errX_none, errX_some] <;> rfl) | (simp only [← hji9]; first | rfl | (simp [errX_none, errX_some] <;> rfl)) | (simp [*, errX_none, errX_some] <;> rfl)⟩, by repeat (first | (with_reducible first | exact HB.out | apply below_alloc | apply pw_below_drewN | apply below_drew1) | exact HB.out)⟩ | exact ⟨⟨noX.1, noX.2, by first | rfl | (simp [errX_none, errX_some] <;> rfl) | (simp only [← hji9]; first | rfl | (simp [errX_none, errX_some] <;> rfl)) | (simp [*, errX_none, errX_some] <;> rfl)⟩, by repeat (first | (with_reducible first | exact HB.out | apply below_alloc | apply pw_below_drewN | apply below_drew1) | exact HB.out)⟩
                  · rw [if_neg c11] at H
                    exact absurd H (by simp)
                · rw [if_neg c10] at H
                  exact absurd H (by simp)
              · rw [if_neg c8] at H
                exact absurd H (by simp)
            · rw [if_neg c6] at H
              have c6b0 : ((bt a0 x8_1) == 34) = false := beq_eq_false_iff_ne.mpr c6
              have c6b1 : ((bt a0 x8_1) != 34) = true := bne_iff_ne.mpr c6
              by_cases c13 : (bt a0 x8_1) = 92
              · rw [if_pos c13] at H
                have c13b0 : ((bt a0 x8_1) == 92) = true := beq_iff_eq.mpr c13
                have c13b1 : ((bt a0 x8_1) != 92) = false := bne_eq_false_iff_eq.mpr c13
                clear c13
                replace H := Option.bind_eq_some_iff.mp H
                obtain ⟨⟨t123, t124, t125⟩, A140, H⟩ := H
                replace H : (some (t123, t124, t125)) = some (r1, r2, r3) := H
                have A14 := Aside0.mk A140
                clear A140
                simp only [Option.some.injEq, Prod.mk.injEq] at H
                obtain ⟨rfl, rfl, rfl⟩ := H
                have p5 : 0 ≤ (x8_1 : Int) := of_decide_eq_true (by first | (with_reducible assumption) | assumption)
                have q5 : x8_1 < (a0.size : Int) := of_decide_eq_true (by first | (with_reducible assumption) | assumption)
                have hx5 := bt_at a0 x8_1
                replace p5 := eq_true p5
                replace q5 := eq_true q5
                have p12 : 0 ≤ (x8_1 : Int) := of_decide_eq_true (by first | (with_reducible assumption) | assumption)
                have q12 : x8_1 < (a0.size : Int) := of_decide_eq_true (by first | (with_reducible assumption) | assumption)
                have hx12 := bt_at a0 x8_1
                replace p12 := eq_true p12
                replace q12 := eq_true q12
                go_wp2_with (first | (go_at_call 109; (with_reducible refine (fastjson_validateString.calls k1 a0 t123 t124 t125 _ ?side1 A14.out).mono ?_); (case side1 => exact Laid.below HLD.out (by repeat (first | (with_reducible first | exact HB.out | apply below_alloc | apply pw_below_drewN | apply below_drew1) | exact HB.out))); rintro e w15 ⟨ex_t125, rfl, hb⟩; have n0_ := Aside0.mk (below_step (by repeat (first | (with_reducible first | exact HB.out | apply below_alloc | apply pw_below_drewN | apply below_drew1) | exact HB.out)) hb); clear HB; have HB := n0_; clear n0_; (try clear hb); (try clear hb2); (try clear hk); (try clear hi); (try simp only [errX_none, errX_some])))
                repeat (go_quiet (first | (go_at_call 109; (with_reducible refine (fastjson_validateString.calls k1 a0 t123 t124 t125 _ ?side1 A14.out).mono ?_); (case side1 => exact Laid.below HLD.out (by repeat (first | (with_reducible first | exact HB.out | apply below_alloc | apply pw_below_drewN | apply below_drew1) | exact HB.out))); rintro e w15 ⟨ex_t125, rfl, hb⟩; have n0_ := Aside0.mk (below_step (by repeat (first | (with_reducible first | exact HB.out | apply below_alloc | apply pw_below_drewN | apply below_drew1) | exact HB.out)) hb); clear HB; have HB := n0_; clear n0_; (try clear hb); (try clear hb2); (try clear hk); (try clear hi); (try simp only [errX_none, errX_some]))); try go_wp2_with (first | (go_at_call 109; (with_reducible refine (fastjson_validateString.calls k1 a0 t123 t124 t125 _ ?side1 A14.out).mono ?_); (case side1 => exact Laid.below HLD.out (by repeat (first | (with_reducible first | exact HB.out | apply below_alloc | apply pw_below_drewN | apply below_drew1) | exact HB.out))); rintro e w15 ⟨ex_t125, rfl, hb⟩; have n0_ := Aside0.mk (below_step (by repeat (first | (with_reducible first | exact HB.out | apply below_alloc | apply pw_below_drewN | apply below_drew1) | exact HB.out)) hb); clear HB; have HB := n0_; clear n0_; (try clear hb); (try clear hb2); (try clear hk); (try clear hi); (try simp only [errX_none, errX_some]))))
                go_ret3
                first | exact ⟨ex_t125, by first | rfl | (simp [errX_none, errX_some] <;> rfl) | (simp [*, errX_none, errX_some] <;> rfl), by repeat (first | (with_reducible first | exact HB.out | apply below_alloc | apply pw_below_drewN | apply below_drew1) | exact HB.out)⟩ | exact ⟨ex_t125.1, ex_t125.2, by first | rfl | (simp [errX_none, errX_some] <;> rfl) | (simp [*, errX_none, errX_some] <;> rfl), by repeat (first | (with_reducible first | exact HB.out | apply below_alloc | apply pw_below_drewN | apply below_drew1) | exact HB.out)⟩ | exact ⟨⟨ex_t125, by first | rfl | (simp [errX_none, errX_some] <;> rfl) | (simp [*, errX_none, errX_some] <;> rfl)⟩, by repeat (first | (with_reducible first | exact HB.out | apply below_alloc | apply pw_below_drewN | apply below_drew1) | exact HB.out)⟩ | exact ⟨⟨ex_t125.1, ex_t125.2, by first | rfl | (simp [errX_none, errX_some] <;> rfl) | (simp [*, errX_none, errX_some] <;> rfl)⟩, by repeat (first | (with_reducible first | exact HB.out | apply below_alloc | apply pw_below_drewN | apply below_drew1) | exact HB.out)⟩
              · rw [if_neg c13] at H
                have c13b0 : ((bt a0 x8_1) == 92) = false := beq_eq_false_iff_ne.mpr c13
                have c13b1 : ((bt a0 x8_1) != 92) = true := bne_iff_ne.mpr c13
                have H' := Aside0.mk H
                clear H
                have p5 : 0 ≤ (x8_1 : Int) := of_decide_eq_true (by first | (with_reducible assumption) | assumption)
                have q5 : x8_1 < (a0.size : Int) := of_decide_eq_true (by first | (with_reducible assumption) | assumption)
                have hx5 := bt_at a0 x8_1
                replace p5 := eq_true p5
                replace q5 := eq_true q5
                have p12 : 0 ≤ (x8_1 : Int) := of_decide_eq_true (by first | (with_reducible assumption) | assumption)
                have q12 : x8_1 < (a0.size : Int) := of_decide_eq_true (by first | (with_reducible assumption) | assumption)
                have hx12 := bt_at a0 x8_1
                replace p12 := eq_true p12
                replace q12 := eq_true q12
                go_wp2
                repeat (go_quiet (fail); try go_wp2)
                go_roundg k1
                case measure => have := HK1.out; omega
                case rel => exact ⟨(wrap64 (x8_1 + 1)), (by first | rfl | (simp; done) | (simp [*]; done)), H', ⟨by have := HK1.out; omega⟩, ⟨by repeat (first | (with_reducible first | exact HB.out | apply below_alloc | apply pw_below_drewN | apply below_drew1) | exact HB.out)⟩⟩
          · rw [if_neg c4] at H
            exact absurd H (by simp)
        · rw [if_neg c3] at H
          exact absurd H (by simp)
      · rw [if_neg c2] at H
        have c2b0 : decide (x8_1 < (a0.size : Int)) = false := decide_eq_false c2
        clear c2
        replace H := Option.bind_eq_some_iff.mp H
        obtain ⟨t122, A160, H⟩ := H
        replace H : (some ((⟨#[]⟩ : ByteArray), a0, t122)) = some (r1, r2, r3) := H
        have A16 := Aside0.mk A160
        clear A160
        simp only [Option.some.injEq, Prod.mk.injEq] at H
        obtain ⟨rfl, rfl, rfl⟩ := H
        go_wp2_with (first | (go_at_call 84; (with_reducible refine (errors_New.calls (⟨#[109, 105, 115, 115, 105, 110, 103, 32, 99, 108, 111, 115, 105, 110, 103]⟩ : ByteArray) t122 _ A16.out).mono ?_); rintro e w17 ⟨ex_t122, rfl, hb⟩; have n0_ := Aside0.mk (below_step (by repeat (first | (with_reducible first | exact HB.out | apply below_alloc | apply pw_below_drewN | apply below_drew1) | exact HB.out)) hb); clear HB; have HB := n0_; clear n0_; (try clear hb); (try clear hb2); (try clear hk); (try clear hi); (try simp only [errX_none, errX_some])))
        repeat (go_quiet (first | (go_at_call 84; (with_reducible refine (errors_New.calls (⟨#[109, 105, 115, 115, 105, 110, 103, 32, 99, 108, 111, 115, 105, 110, 103]⟩ : ByteArray) t122 _ A16.out).mono ?_); rintro e w17 ⟨ex_t122, rfl, hb⟩; have n0_ := Aside0.mk (below_step (by repeat (first | (with_reducible first | exact HB.out | apply below_alloc | apply pw_below_drewN | apply below_drew1) | exact HB.out)) hb); clear HB; have HB := n0_; clear n0_; (try clear hb); (try clear hb2); (try clear hk); (try clear hi); (try simp only [errX_none, errX_some]))); try go_wp2_with (first | (go_at_call 84; (with_reducible refine (errors_New.calls (⟨#[109, 105, 115, 115, 105, 110, 103, 32, 99, 108, 111, 115, 105, 110, 103]⟩ : ByteArray) t122 _ A16.out).mono ?_); rintro e w17 ⟨ex_t122, rfl, hb⟩; have n0_ := Aside0.mk (below_step (by repeat (first | (with_reducible first | exact HB.out | apply below_alloc | apply pw_below_drewN | apply below_drew1) | exact HB.out)) hb); clear HB; have HB := n0_; clear n0_; (try clear hb); (try clear hb2); (try clear hk); (try clear hi); (try simp only [errX_none, errX_some]))))
        go_ret3
        first | exact ⟨ex_t122, by first | rfl | (simp [errX_none, errX_some] <;> rfl) | (simp [*, errX_none, errX_some] <;> rfl), by repeat (first | (with_reducible first | exact HB.out | apply below_alloc | apply pw_below_drewN | apply below_drew1) | exact HB.out)⟩ | exact ⟨ex_t122.1, ex_t122.2, by first | rfl | (simp [errX_none, errX_some] <;> rfl) | (simp [*, errX_none, errX_some] <;> rfl), by repeat (first | (with_reducible first | exact HB.out | apply below_alloc | apply pw_below_drewN | apply below_drew1) | exact HB.out)⟩ | exact ⟨⟨ex_t122, by first | rfl | (simp [errX_none, errX_some] <;> rfl) | (simp [*, errX_none, errX_some] <;> rfl)⟩, by repeat (first | (with_reducible first | exact HB.out | apply below_alloc | apply pw_below_drewN | apply below_drew1) | exact HB.out)⟩ | exact ⟨⟨ex_t122.1, ex_t122.2, by first | rfl | (simp [errX_none, errX_some] <;> rfl) | (simp [*, errX_none, errX_some] <;> rfl)⟩, by repeat (first | (with_reducible first | exact HB.out | apply below_alloc | apply pw_below_drewN | apply below_drew1) | exact HB.out)⟩

/-! ### fastjson_DoorCheckKey: function 64 -/
def fastjson_DoorCheckKey.f (k : Nat) (a0 : ByteArray) : Option (ByteArray × Option Int) := (fastjson_validateKey.f k a0).bind fun bt126 => (some (bt126.2.1, bt126.2.2))
theorem fastjson_DoorCheckKey.mono : ∀ a0 k, LeO (fastjson_DoorCheckKey.f k a0) (fastjson_DoorCheckKey.f (k + 1) a0) := by
  intro a0 k
  unfold fastjson_DoorCheckKey.f
  repeat' first
      | (with_reducible exact fastjson_validateKey.mono _ _)
      | (with_reducible exact LeO.refl _)
      | (with_reducible exact LeO.none _)
      | (with_reducible refine LeO.ite ?_ ?_)
      | (with_reducible refine LeO.bind ?_ (fun _ => ?_))
      | exact fastjson_validateKey.mono _ _
      | exact LeO.none _
      | refine LeO.ite ?_ ?_
      | refine LeO.bind ?_ (fun _ => ?_)
set_option maxHeartbeats 8000000 in
set_option maxRecDepth 100000 in
theorem fastjson_DoorCheckKey.calls (k : Nat) (a0 : ByteArray) (r1 : ByteArray) (r2 : Option Int) (w : World) (hL : Laid w) (h : fastjson_DoorCheckKey.f k a0 = some (r1, r2)) :
    Calls Tryd.prog 64 #[.string a0] w fun e w' => ∃ x1_ : TypeId × Value, e = .returned (.tuple #[.string r1, errX x1_ r2]) ∧ Below w.heap.size w w' := by
  have HB := Aside0.mk (Below.refl w.heap.size w)
  have HLD := Aside0.mk hL
  clear hL
  have H : ((fastjson_validateKey.f k a0).bind fun bt126 => (some (bt126.2.1, bt126.2.2))) = some (r1, r2) := h
  clear h
  replace H := Option.bind_eq_some_iff.mp H
  obtain ⟨⟨t126, t127, t128⟩, A20, H⟩ := H
  replace H : (some (t127, t128)) = some (r1, r2) := H
  have A2 := Aside0.mk A20
  clear A20
  simp only [Option.some.injEq, Prod.mk.injEq] at H
  obtain ⟨rfl, rfl⟩ := H
  go_enter Tryd.func64, Tryd.ntmps64
  go_wp2_with (first | ((with_reducible refine gate_callee (f := 91) rfl ?_); refine goesL_ (some 9) rfl rfl Tryd.func91 (by kernel_rfl) rfl #[.string a0] rfl (by (try simp only [List.map_toArray, List.map_cons, List.map_nil]); first | done | rfl | (simp only [List.length_drop, List.length_take]; rfl)) ?_; (with_reducible refine (fastjson_validateKey.calls k a0 t126 t127 t128 _ ?side1 A2.out).mono ?_); (case side1 => exact Laid.below HLD.out (by repeat (first | (with_reducible first | exact HB.out | apply below_alloc | apply pw_below_drewN | apply below_drew1) | exact HB.out))); rintro e w3 ⟨ex_t128, rfl, hb⟩; refine ⟨_, rfl, ?_⟩; have n0_ := Aside0.mk (below_step (by repeat (first | (with_reducible first | exact HB.out | apply below_alloc | apply pw_below_drewN | apply below_drew1) | exact HB.out)) hb); clear HB; have HB := n0_; clear n0_; (try clear hb); (try clear hb2); (try clear hk); (try clear hi); (try simp only [errX_none, errX_some])))
  go_ret2
  first | exact ⟨ex_t128, by first | rfl | (simp [errX_none, errX_some] <;> rfl) | (simp [*, errX_none, errX_some] <;> rfl), by repeat (first | (with_reducible first | exact HB.out | apply below_alloc | apply pw_below_drewN | apply below_drew1) | exact HB.out)⟩ | exact ⟨ex_t128.1, ex_t128.2, by first | rfl | (simp [errX_none, errX_some] <;> rfl) | (simp [*, errX_none, errX_some] <;> rfl), by repeat (first | (with_reducible first | exact HB.out | apply below_alloc | apply pw_below_drewN | apply below_drew1) | exact HB.out)⟩ | exact ⟨⟨ex_t128, by first | rfl | (simp [errX_none, errX_some] <;> rfl) | (simp [*, errX_none, errX_some] <;> rfl)⟩, by repeat (first | (with_reducible first | exact HB.out | apply below_alloc | apply pw_below_drewN | apply below_drew1) | exact HB.out)⟩ | exact ⟨⟨ex_t128.1, ex_t128.2, by first | rfl | (simp [errX_none, errX_some] <;> rfl) | (simp [*, errX_none, errX_some] <;> rfl)⟩, by repeat (first | (with_reducible first | exact HB.out | apply below_alloc | apply pw_below_drewN | apply below_drew1) | exact HB.out)⟩

end Go.Proofs.YtfmllmlloekojaaDoor.PFnFjCheckMembers
