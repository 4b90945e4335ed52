-- Written for this claim by this session's own program (wip/xprint).
import Derived.Test.YtfmllmlloekojaaDoorPFnJrPathx0
namespace Go.Proofs.YtfmllmlloekojaaDoor.PFnJrPath
open Go.RowKit Go.Proofs.YtfmllmlloekojaaDoorW.PrintWords Go.Proofs.YtfmllmlloekojaaDoorW.PrintLast Go.Proofs.YtfmllmlloekojaaDoorW.PrintMore
open Go.Proofs.YtfmllmlloekojaaDoor.LaidL
variable {E : ErrTab}
attribute [local go_sem] max2_int min2_int max_two min_two max_three min_three max_four min_four   -- for this text's walks alone
set_option linter.unusedVariables false
set_option linter.unusedSimpArgs false

/-! ### stringslite_HasPrefix: function 93 -/
def stringslite_HasPrefix.f (a0 : ByteArray) (a1 : ByteArray) : Option (Bool) := if (a0.size : Int) ≥ (a1.size : Int) then (if 0 ≤ (a1.size : Int) then (if (a1.size : Int) ≤ (a0.size : Int) then (some ((a0.extract 0 ((a1.size : Int) : Int).toNat).toList == a1.toList)) else (none)) else (none)) else (some false)
set_option maxHeartbeats 8000000 in
set_option maxRecDepth 100000 in
theorem stringslite_HasPrefix.calls (a0 : ByteArray) (a1 : ByteArray) (r : Bool) (w : World) (h : stringslite_HasPrefix.f a0 a1 = some r) :
    Calls Tryd.prog 93 #[.string a0, .string a1] w fun e w' => e = .returned (.bool r) ∧ Drawn0 w w' := by
  have H : (if (a0.size : Int) ≥ (a1.size : Int) then (if 0 ≤ (a1.size : Int) then (if (a1.size : Int) ≤ (a0.size : Int) then (some ((a0.extract 0 ((a1.size : Int) : Int).toNat).toList == a1.toList)) else (none)) else (none)) else (some false)) = some r := h
  clear h
  by_cases c3 : (a0.size : Int) ≥ (a1.size : Int)
  · rw [if_pos c3] at H
    have c3b0 : decide ((a1.size : Int) ≤ (a0.size : Int)) = true := decide_eq_true c3
    have c3b1 : decide (a1.size ≤ a0.size) = true := decide_eq_true (Int.ofNat_le.mp c3)
    clear c3
    by_cases c4 : 0 ≤ (a1.size : Int)
    · rw [if_pos c4] at H
      have c4b0 := eq_true c4
      have c4b1 : decide (0 ≤ (a1.size : Int)) = true := decide_eq_true c4
      clear c4
      by_cases c5 : (a1.size : Int) ≤ (a0.size : Int)
      · rw [if_pos c5] at H
        have c5b0 := eq_true c5
        have c5b1 : decide ((a1.size : Int) ≤ (a0.size : Int)) = true := decide_eq_true c5
        clear c5
        obtain rfl := Option.some.inj H
        go_enter Tryd.func93, Tryd.ntmps93
        go_wp2
        go_ret
        exact ⟨by first | rfl | (simp; done) | (simp [*]; done), by repeat (first | exact Drawn0.refl _ | apply Drawn0.step)⟩
      · rw [if_neg c5] at H
        exact absurd H (by simp)
    · rw [if_neg c4] at H
      exact absurd H (by simp)
  · rw [if_neg c3] at H
    have c3b0 : decide ((a1.size : Int) ≤ (a0.size : Int)) = false := decide_eq_false c3
    have c3b1 : decide (a1.size ≤ a0.size) = false := decide_eq_false (fun h => c3 (Int.ofNat_le.mpr h))
    clear c3
    obtain rfl := Option.some.inj H
    go_enter Tryd.func93, Tryd.ntmps93
    go_wp2
    go_ret
    exact ⟨by first | rfl | (simp; done) | (simp [*]; done), by repeat (first | exact Drawn0.refl _ | apply Drawn0.step)⟩

/-! ### strings_HasPrefix: function 67 -/
def strings_HasPrefix.f (a0 : ByteArray) (a1 : ByteArray) : Option (Bool) := (stringslite_HasPrefix.f a0 a1).bind fun t101 => (some t101)
set_option maxHeartbeats 8000000 in
set_option maxRecDepth 100000 in
theorem strings_HasPrefix.calls (a0 : ByteArray) (a1 : ByteArray) (r : Bool) (w : World) (h : strings_HasPrefix.f a0 a1 = some r) :
    Calls Tryd.prog 67 #[.string a0, .string a1] w fun e w' => e = .returned (.bool r) ∧ Drawn0 w w' := by
  have H : ((stringslite_HasPrefix.f a0 a1).bind fun t101 => (some t101)) = some r := h
  clear h
  replace H := Option.bind_eq_some_iff.mp H
  obtain ⟨t101, A30, H⟩ := H
  replace H : (some t101) = some r := H
  have A3 := Aside0.mk A30
  clear A30
  obtain rfl := Option.some.inj H
  go_enter Tryd.func67, Tryd.ntmps67
  go_wp2_with (first | ((with_reducible refine gate_callee (f := 93) rfl ?_); refine goesL_ (some 7) rfl rfl Tryd.func93 (by kernel_rfl) rfl #[.string a0, .string a1] rfl (by (try simp only [List.map_toArray, List.map_cons, List.map_nil]); first | done | rfl | (simp only [List.length_drop, List.length_take]; rfl)) ?_; (with_reducible refine (stringslite_HasPrefix.calls a0 a1 t101 _ A3.out).mono ?_); rintro e w' ⟨rfl, ⟨nd, rfl⟩⟩; refine ⟨_, rfl, ?_⟩))
  go_ret
  exact ⟨by first | rfl | (simp; done) | (simp [*]; done), by repeat (first | exact Drawn0.refl _ | apply Drawn0.step)⟩

/-! ### jsonparser_zzCount: function 68 -/
def jsonparser_zzCount.l1 : Nat → ByteArray → ByteArray → Int → Int → Option (Int)
  | 0, _, _, _, _ => none
  | k + 1, x0, x1, x5, x6 => if (wrap64 (x6 + (x1.size : Int))) ≤ (x0.size : Int) then (if 0 ≤ x6 then (if x6 ≤ (wrap64 (x6 + (x1.size : Int))) then (if (x0.extract (x6 : Int).toNat ((wrap64 (x6 + (x1.size : Int))) : Int).toNat).toList = x1.toList then (jsonparser_zzCount.l1 k x0 x1 (wrap64 (x5 + 1)) (wrap64 (x6 + (x1.size : Int)))) else (jsonparser_zzCount.l1 k x0 x1 x5 (wrap64 (x6 + 1)))) else (none)) else (none)) else (some x5)
def jsonparser_zzCount.f (k : Nat) (a0 : ByteArray) (a1 : ByteArray) : Option (Int) := if (a1.size : Int) = 0 then (none) else (jsonparser_zzCount.l1 k a0 a1 0 0)
theorem jsonparser_zzCount.mono_l : ∀ k, (∀ y0 y1 y2 y3, LeO (jsonparser_zzCount.l1 k y0 y1 y2 y3) (jsonparser_zzCount.l1 (k + 1) y0 y1 y2 y3))
  | 0 => fun _ _ _ _ r h => by simp [jsonparser_zzCount.l1] at h
  | k + 1 => by
    have ih0 := jsonparser_zzCount.mono_l k
    · intro y0 y1 y2 y3
      unfold jsonparser_zzCount.l1
      repeat' first
      | (with_reducible exact ih0 _ _ _ _)
      | (with_reducible exact LeO.refl _)
      | (with_reducible exact LeO.none _)
      | (with_reducible refine LeO.ite ?_ ?_)
      | (with_reducible refine LeO.bind ?_ (fun _ => ?_))
      | exact ih0 _ _ _ _
      | exact LeO.none _
      | refine LeO.ite ?_ ?_
      | refine LeO.bind ?_ (fun _ => ?_)
theorem jsonparser_zzCount.mono : ∀ a0 a1 k, LeO (jsonparser_zzCount.f k a0 a1) (jsonparser_zzCount.f (k + 1) a0 a1) := by
  intro a0 a1 k
  have ih0 := jsonparser_zzCount.mono_l k
  unfold jsonparser_zzCount.f
  repeat' first
      | (with_reducible exact ih0 _ _ _ _)
      | (with_reducible exact LeO.refl _)
      | (with_reducible exact LeO.none _)
      | (with_reducible refine LeO.ite ?_ ?_)
      | (with_reducible refine LeO.bind ?_ (fun _ => ?_))
      | exact ih0 _ _ _ _
      | exact LeO.none _
      | refine LeO.ite ?_ ?_
      | refine LeO.bind ?_ (fun _ => ?_)
set_option maxHeartbeats 8000000 in
set_option maxRecDepth 100000 in
theorem jsonparser_zzCount.calls (k : Nat) (a0 : ByteArray) (a1 : ByteArray) (r : Int) (w : World) (h : jsonparser_zzCount.f k a0 a1 = some r) :
    Calls Tryd.prog 68 #[.string a0, .string a1] w fun e w' => e = .returned (.int .i64 r) ∧ Drawn0 w w' := by
  have H : (if (a1.size : Int) = 0 then (none) else (jsonparser_zzCount.l1 k a0 a1 0 0)) = some r := h
  clear h
  by_cases c3 : (a1.size : Int) = 0
  · rw [if_pos c3] at H
    exact absurd H (by simp)
  · rw [if_neg c3] at H
    have c3b0 : ((a1.size : Int) == 0) = false := beq_eq_false_iff_ne.mpr c3
    have c3b1 : ((a1.size : Int) != 0) = true := bne_iff_ne.mpr c3
    have H' := Aside0.mk H
    clear H
    go_enter Tryd.func68, Tryd.ntmps68
    go_wp2
    (try simp only [Act.put, List.setIfInBounds_toArray, List.set_cons_zero, List.set_cons_succ])
    go_loopg [5, 6] k (fun kq v5 v6 w' => ∃ (x5_1 : Int) (x6_1 : Int), v5 = .int .i64 x5_1 ∧ v6 = .int .i64 x6_1 ∧ Aside0 (jsonparser_zzCount.l1 kq a0 a1 x5_1 x6_1 = some r) ∧ Aside0 (kq ≤ k) ∧ Drawn0 w w')
    case atStart => exact ⟨(0), (0), (by first | rfl | (simp; done) | (simp [*]; done)), (by first | rfl | (simp; done) | (simp [*]; done)), H', ⟨Nat.le_refl _⟩, by repeat (first | exact Drawn0.refl _ | apply Drawn0.step)⟩
    case round =>
      clear H'
      try clear p2
      try clear c3
      try clear c3b0
      try clear c3b1
      obtain ⟨x5_1, x6_1, rfl, rfl, HA, HK1, ⟨m1, rfl⟩⟩ := hrel
      cases gk with
      | zero => exact absurd HA.out (by simp [jsonparser_zzCount.l1])
      | succ k1 =>
        have H := HA.out
        clear HA
        simp only [jsonparser_zzCount.l1] at H
        by_cases c4 : (wrap64 (x6_1 + (a1.size : Int))) ≤ (a0.size : Int)
        · rw [if_pos c4] at H
          have c4b0 : decide ((wrap64 (x6_1 + (a1.size : Int))) ≤ (a0.size : Int)) = true := decide_eq_true c4
          clear c4
          by_cases c5 : 0 ≤ x6_1
          · rw [if_pos c5] at H
            have c5b0 := eq_true c5
            have c5b1 : decide (0 ≤ x6_1) = true := decide_eq_true c5
            clear c5
            by_cases c6 : x6_1 ≤ (wrap64 (x6_1 + (a1.size : Int)))
            · rw [if_pos c6] at H
              have c6b0 := eq_true c6
              have c6b1 : decide (x6_1 ≤ (wrap64 (x6_1 + (a1.size : Int)))) = true := decide_eq_true c6
              have c7b0 := eq_true (of_decide_eq_true (by first | (with_reducible assumption) | assumption) : (wrap64 (x6_1 + (a1.size : Int))) ≤ (a0.size : Int))
              by_cases c8 : (a0.extract (x6_1 : Int).toNat ((wrap64 (x6_1 + (a1.size : Int))) : Int).toNat).toList = a1.toList
              · rw [if_pos c8] at H
                have c8b0 : ((a0.extract (x6_1 : Int).toNat ((wrap64 (x6_1 + (a1.size : Int))) : Int).toNat).toList == a1.toList) = true := beq_iff_eq.mpr c8
                have c8b1 : ((a0.extract (x6_1 : Int).toNat ((wrap64 (x6_1 + (a1.size : Int))) : Int).toNat).toList != a1.toList) = false := bne_eq_false_iff_eq.mpr c8
                clear c8
                have H' := Aside0.mk H
                clear H
                go_wp2
                go_roundg k1
                case measure => have := HK1.out; omega
                case rel => exact ⟨(wrap64 (x5_1 + 1)), (wrap64 (x6_1 + (a1.size : Int))), (by first | rfl | (simp; done) | (simp [*]; done)), (by first | rfl | (simp; done) | (simp [*]; done)), H', ⟨by have := HK1.out; omega⟩, by repeat (first | exact Drawn0.refl _ | apply Drawn0.step)⟩
              · rw [if_neg c8] at H
                have c8b0 : ((a0.extract (x6_1 : Int).toNat ((wrap64 (x6_1 + (a1.size : Int))) : Int).toNat).toList == a1.toList) = false := beq_eq_false_iff_ne.mpr c8
                have c8b1 : ((a0.extract (x6_1 : Int).toNat ((wrap64 (x6_1 + (a1.size : Int))) : Int).toNat).toList != a1.toList) = true := bne_iff_ne.mpr c8
                have H' := Aside0.mk H
                clear H
                go_wp2
                go_roundg k1
                case measure => have := HK1.out; omega
                case rel => exact ⟨(x5_1), (wrap64 (x6_1 + 1)), (by first | rfl | (simp; done) | (simp [*]; done)), (by first | rfl | (simp; done) | (simp [*]; done)), H', ⟨by have := HK1.out; omega⟩, by repeat (first | exact Drawn0.refl _ | apply Drawn0.step)⟩
            · rw [if_neg c6] at H
              exact absurd H (by simp)
          · rw [if_neg c5] at H
            exact absurd H (by simp)
        · rw [if_neg c4] at H
          have c4b0 : decide ((wrap64 (x6_1 + (a1.size : Int))) ≤ (a0.size : Int)) = false := decide_eq_false c4
          clear c4
          obtain rfl := Option.some.inj H
          go_wp2
          go_ret
          exact ⟨by first | rfl | (simp; done) | (simp [*]; done), by repeat (first | exact Drawn0.refl _ | apply Drawn0.step)⟩

/-! ### jsonparser_parseQuotedPathKey: function 69 -/
def jsonparser_parseQuotedPathKey.l0 : Nat → ByteArray → Int → Int → Option (ByteArray × Int × Option Int)
  | 0, _, _, _ => none
  | k + 1, x0, x7, x8 => if x8 < (x0.size : Int) then (if 0 ≤ x8 then (if (bt x0 x8) = 92 then (if (wrap64 (x8 + 1)) ≥ (x0.size : Int) then (some ((⟨#[]⟩ : ByteArray), 0, some 12)) else (jsonparser_parseQuotedPathKey.l0 k x0 x7 (wrap64 ((wrap64 (x8 + 1)) + 1)))) else (if (bt x0 x8) = 34 then (if 0 ≤ x7 then (if x7 ≤ x8 then (if x8 ≤ (x0.size : Int) then ((strings_IndexByte.f (x0.extract (x7 : Int).toNat (x8 : Int).toNat) 92).bind fun t102 => (if t102 = (-1) then (some (x0.extract (x7 : Int).toNat (x8 : Int).toNat, wrap64 (x8 + 1), none)) else (if (x0.extract (x7 : Int).toNat (x8 : Int).toNat).size ≤ 140737488355328 then ((jsonparser_Unescape.f (bytesOf (x0.extract (x7 : Int).toNat (x8 : Int).toNat)) ([] : List Int)).bind fun bt106 => (if bt106.2.isNone = true then (some (strOfNums bt106.1, wrap64 (x8 + 1), none)) else (some ((⟨#[]⟩ : ByteArray), 0, some 1)))) else (none)))) else (none)) else (none)) else (none)) else (if (bt x0 x8) < 32 then (some ((⟨#[]⟩ : ByteArray), 0, some 1)) else (jsonparser_parseQuotedPathKey.l0 k x0 x7 (wrap64 (x8 + 1)))))) else (none)) else (some ((⟨#[]⟩ : ByteArray), 0, some 12))
def jsonparser_parseQuotedPathKey.f (k : Nat) (a0 : ByteArray) (a1 : Int) : Option (ByteArray × Int × Option Int) := jsonparser_parseQuotedPathKey.l0 k a0 (wrap64 (a1 + 1)) (wrap64 (a1 + 1))
theorem jsonparser_parseQuotedPathKey.mono_l : ∀ k, (∀ y0 y1 y2, LeO (jsonparser_parseQuotedPathKey.l0 k y0 y1 y2) (jsonparser_parseQuotedPathKey.l0 (k + 1) y0 y1 y2))
  | 0 => fun _ _ _ r h => by simp [jsonparser_parseQuotedPathKey.l0] at h
  | k + 1 => by
    have ih0 := jsonparser_parseQuotedPathKey.mono_l k
    · intro y0 y1 y2
      unfold jsonparser_parseQuotedPathKey.l0
      repeat' first
      | (with_reducible exact ih0 _ _ _)
      | (with_reducible exact LeO.refl _)
      | (with_reducible exact LeO.none _)
      | (with_reducible refine LeO.ite ?_ ?_)
      | (with_reducible refine LeO.bind ?_ (fun _ => ?_))
      | exact ih0 _ _ _
      | exact LeO.none _
      | refine LeO.ite ?_ ?_
      | refine LeO.bind ?_ (fun _ => ?_)
theorem jsonparser_parseQuotedPathKey.mono : ∀ a0 a1 k, LeO (jsonparser_parseQuotedPathKey.f k a0 a1) (jsonparser_parseQuotedPathKey.f (k + 1) a0 a1) := by
  intro a0 a1 k
  have ih0 := jsonparser_parseQuotedPathKey.mono_l k
  unfold jsonparser_parseQuotedPathKey.f
  repeat' first
      | (with_reducible exact ih0 _ _ _)
      | (with_reducible exact LeO.refl _)
      | (with_reducible exact LeO.none _)
      | (with_reducible refine LeO.ite ?_ ?_)
      | (with_reducible refine LeO.bind ?_ (fun _ => ?_))
      | exact ih0 _ _ _
      | exact LeO.none _
      | refine LeO.ite ?_ ?_
      | refine LeO.bind ?_ (fun _ => ?_)
set_option maxHeartbeats 8000000 in
set_option maxRecDepth 100000 in
theorem jsonparser_parseQuotedPathKey.calls (k : Nat) (a0 : ByteArray) (a1 : Int) (r1 : ByteArray) (r2 : Int) (r3 : Option Int) (w : World) (hL : Laid E w) (h : jsonparser_parseQuotedPathKey.f k a0 a1 = some (r1, r2, r3)) :
    Calls Tryd.prog 69 #[.string a0, .int .i64 a1] w fun e w' => e = .returned (.tuple #[.string r1, .int .i64 r2, errE E r3]) ∧ Below w.heap.size w w' := by
  have hu67 := Tryd.underlying67
  have HB := Aside0.mk (Below.refl w.heap.size w)
  have HLD := Aside0.mk hL
  clear hL
  have H : (jsonparser_parseQuotedPathKey.l0 k a0 (wrap64 (a1 + 1)) (wrap64 (a1 + 1))) = some (r1, r2, r3) := h
  clear h
  have H' := Aside0.mk H
  clear H
  go_enter Tryd.func69, Tryd.ntmps69
  go_wp2
  repeat (go_quiet (fail); try go_wp2)
  (try simp only [Act.put, List.setIfInBounds_toArray, List.set_cons_zero, List.set_cons_succ])
  go_loopg [8] k (fun kq v8 w' => ∃ (x8_1 : Int), v8 = .int .i64 x8_1 ∧ Aside0 (jsonparser_parseQuotedPathKey.l0 kq a0 (wrap64 (a1 + 1)) x8_1 = some (r1, r2, r3)) ∧ Aside0 (kq ≤ k) ∧ Aside0 (Below w.heap.size w w'))
  case atStart => exact ⟨(wrap64 (a1 + 1)), (by first | rfl | (simp; done) | (simp [*]; done)), H', ⟨Nat.le_refl _⟩, ⟨by repeat (first | (with_reducible first | exact HB.out | apply below_alloc | apply pw_below_drewN | apply below_drew1) | exact HB.out)⟩⟩
  case round =>
    clear H'
    try clear p2
    obtain ⟨x8_1, rfl, HA, HK1, HB⟩ := hrel
    cases gk with
    | zero => exact absurd HA.out (by simp [jsonparser_parseQuotedPathKey.l0])
    | succ k1 =>
      have H := HA.out
      clear HA
      simp only [jsonparser_parseQuotedPathKey.l0] at H
      by_cases c3 : x8_1 < (a0.size : Int)
      · rw [if_pos c3] at H
        have c3b0 : decide (x8_1 < (a0.size : Int)) = true := decide_eq_true c3
        clear c3
        by_cases c4 : 0 ≤ x8_1
        · rw [if_pos c4] at H
          have c4b0 : decide (0 ≤ x8_1) = true := decide_eq_true c4
          clear c4
          by_cases c6 : (bt a0 x8_1) = 92
          · rw [if_pos c6] at H
            have c6b0 : ((bt a0 x8_1) == 92) = true := beq_iff_eq.mpr c6
            have c6b1 : ((bt a0 x8_1) != 92) = false := bne_eq_false_iff_eq.mpr c6
            clear c6
            by_cases c7 : (wrap64 (x8_1 + 1)) ≥ (a0.size : Int)
            · rw [if_pos c7] at H
              have c7b0 : decide ((a0.size : Int) ≤ (wrap64 (x8_1 + 1))) = true := decide_eq_true c7
              clear c7
              simp only [Option.some.injEq, Prod.mk.injEq] at H
              obtain ⟨rfl, rfl, rfl⟩ := H
              have p5 : 0 ≤ (x8_1 : Int) := of_decide_eq_true (by first | (with_reducible assumption) | assumption)
              have q5 : x8_1 < (a0.size : Int) := of_decide_eq_true (by first | (with_reducible assumption) | assumption)
              have hx5 := bt_at a0 x8_1
              replace p5 := eq_true p5
              replace q5 := eq_true q5
              have hcz8_0 : wr.cell? ⟨12, 0, none⟩ = some (.iface 128 (.pointer (some (E 12)))) := Laid.s12 (Laid.below HLD.out (by repeat (first | (with_reducible first | exact HB.out | apply below_alloc | apply pw_below_drewN | apply below_drew1) | exact HB.out)))
              go_wp2
              repeat (go_quiet (fail); try go_wp2)
              go_ret3
              exact ⟨by first | rfl | (simp [errE_none, errE_some] <;> rfl) | (simp [*, errE_none, errE_some] <;> rfl), by repeat (first | (with_reducible first | exact HB.out | apply below_alloc | apply pw_below_drewN | apply below_drew1) | exact HB.out)⟩
            · rw [if_neg c7] at H
              have c7b0 : decide ((a0.size : Int) ≤ (wrap64 (x8_1 + 1))) = false := decide_eq_false c7
              clear c7
              have H' := Aside0.mk H
              clear H
              have p5 : 0 ≤ (x8_1 : Int) := of_decide_eq_true (by first | (with_reducible assumption) | assumption)
              have q5 : x8_1 < (a0.size : Int) := of_decide_eq_true (by first | (with_reducible assumption) | assumption)
              have hx5 := bt_at a0 x8_1
              replace p5 := eq_true p5
              replace q5 := eq_true q5
              go_wp2
              repeat (go_quiet (fail); try go_wp2)
              go_roundg k1
              case measure => have := HK1.out; omega
              case rel => exact ⟨(wrap64 ((wrap64 (x8_1 + 1)) + 1)), (by first | rfl | (simp; done) | (simp [*]; done)), H', ⟨by have := HK1.out; omega⟩, ⟨by repeat (first | (with_reducible first | exact HB.out | apply below_alloc | apply pw_below_drewN | apply below_drew1) | exact HB.out)⟩⟩
          · rw [if_neg c6] at H
            have c6b0 : ((bt a0 x8_1) == 92) = false := beq_eq_false_iff_ne.mpr c6
            have c6b1 : ((bt a0 x8_1) != 92) = true := bne_iff_ne.mpr c6
            by_cases c9 : (bt a0 x8_1) = 34
            · rw [if_pos c9] at H
              have c9b0 : ((bt a0 x8_1) == 34) = true := beq_iff_eq.mpr c9
              have c9b1 : ((bt a0 x8_1) != 34) = false := bne_eq_false_iff_eq.mpr c9
              clear c9
              obtain ⟨ji10, hji10⟩ : ∃ j_ : Int, (wrap64 (a1 + 1)) = j_ := ⟨_, rfl⟩
              replace H : (if 0 ≤ (ji10) then (if (ji10) ≤ x8_1 then (if x8_1 ≤ (a0.size : Int) then ((strings_IndexByte.f (a0.extract ((ji10) : Int).toNat (x8_1 : Int).toNat) 92).bind fun t102 => (if t102 = (-1) then (some (a0.extract ((ji10) : Int).toNat (x8_1 : Int).toNat, wrap64 (x8_1 + 1), none)) else (if (a0.extract ((ji10) : Int).toNat (x8_1 : Int).toNat).size ≤ 140737488355328 then ((jsonparser_Unescape.f (bytesOf (a0.extract ((ji10) : Int).toNat (x8_1 : Int).toNat)) ([] : List Int)).bind fun bt106 => (if bt106.2.isNone = true then (some (strOfNums bt106.1, wrap64 (x8_1 + 1), none)) else (some ((⟨#[]⟩ : ByteArray), 0, some 1)))) else (none)))) else (none)) else (none)) else (none)) = some (r1, r2, r3) := by first | (rw [hji10] at H; exact H) | (simp only [hji10] at H ⊢; exact H)
              have hji10w : (IntKind.i64.wrap (a1 + 1)) = ji10 := (i64_w _).trans hji10
              by_cases c11 : 0 ≤ (ji10)
              · rw [if_pos c11] at H
                have c11b0 := eq_true c11
                have c11b1 : decide (0 ≤ (ji10)) = true := decide_eq_true c11
                clear c11
                by_cases c12 : (ji10) ≤ x8_1
                · rw [if_pos c12] at H
                  have c12b0 := eq_true c12
                  have c12b1 : decide ((ji10) ≤ x8_1) = true := decide_eq_true c12
                  clear c12
                  by_cases c13 : x8_1 ≤ (a0.size : Int)
                  · rw [if_pos c13] at H
                    have c13b0 := eq_true c13
                    have c13b1 : decide (x8_1 ≤ (a0.size : Int)) = true := decide_eq_true c13
                    clear c13
                    replace H := Option.bind_eq_some_iff.mp H
                    obtain ⟨t102, A140, H⟩ := H
                    replace H : (if t102 = (-1) then (some (a0.extract ((ji10) : Int).toNat (x8_1 : Int).toNat, wrap64 (x8_1 + 1), none)) else (if (a0.extract ((ji10) : Int).toNat (x8_1 : Int).toNat).size ≤ 140737488355328 then ((jsonparser_Unescape.f (bytesOf (a0.extract ((ji10) : Int).toNat (x8_1 : Int).toNat)) ([] : List Int)).bind fun bt106 => (if bt106.2.isNone = true then (some (strOfNums bt106.1, wrap64 (x8_1 + 1), none)) else (some ((⟨#[]⟩ : ByteArray), 0, some 1)))) else (none))) = some (r1, r2, r3) := H
                    have A14 := Aside0.mk A140
                    clear A140
                    by_cases c15 : t102 = (-1)
                    · rw [if_pos c15] at H
                      have c15b0 : (t102 == (-1)) = true := beq_iff_eq.mpr c15
                      have c15b1 : (t102 != (-1)) = false := bne_eq_false_iff_eq.mpr c15
                      clear c15
                      simp only [Option.some.injEq, Prod.mk.injEq] at H
                      obtain ⟨rfl, rfl, rfl⟩ := H
                      have p5 : 0 ≤ (x8_1 : Int) := of_decide_eq_true (by first | (with_reducible assumption) | assumption)
                      have q5 : x8_1 < (a0.size : Int) := of_decide_eq_true (by first | (with_reducible assumption) | assumption)
                      have hx5 := bt_at a0 x8_1
                      replace p5 := eq_true p5
                      replace q5 := eq_true q5
                      go_wp2_with (first | (go_at_call 83; (with_reducible refine (strings_IndexByte.calls (a0.extract ((ji10) : Int).toNat (x8_1 : Int).toNat) 92 t102 _ A14.out).mono ?_); rintro e w' ⟨rfl, ⟨nd, rfl⟩⟩; (try first | exact ⟨rfl, _, World.drewN_drewN _ _ _⟩ | exact ⟨rfl, _, Eq.trans (World.drewN_drewN _ _ _) (congrArg (World.drewN _) (Nat.add_assoc _ _ _))⟩)))
                      repeat (go_quiet (first | (go_at_call 83; (with_reducible refine (strings_IndexByte.calls (a0.extract ((ji10) : Int).toNat (x8_1 : Int).toNat) 92 t102 _ A14.out).mono ?_); rintro e w' ⟨rfl, ⟨nd, rfl⟩⟩; (try first | exact ⟨rfl, _, World.drewN_drewN _ _ _⟩ | exact ⟨rfl, _, Eq.trans (World.drewN_drewN _ _ _) (congrArg (World.drewN _) (Nat.add_assoc _ _ _))⟩))); try go_wp2_with (first | (go_at_call 83; (with_reducible refine (strings_IndexByte.calls (a0.extract ((ji10) : Int).toNat (x8_1 : Int).toNat) 92 t102 _ A14.out).mono ?_); rintro e w' ⟨rfl, ⟨nd, rfl⟩⟩; (try first | exact ⟨rfl, _, World.drewN_drewN _ _ _⟩ | exact ⟨rfl, _, Eq.trans (World.drewN_drewN _ _ _) (congrArg (World.drewN _) (Nat.add_assoc _ _ _))⟩))))
                      go_ret3
                      exact ⟨by first | rfl | (simp [errE_none, errE_some] <;> rfl) | (simp only [← hji10]; first | rfl | (simp [errE_none, errE_some] <;> rfl)) | (simp [*, errE_none, errE_some] <;> rfl), by repeat (first | (with_reducible first | exact HB.out | apply below_alloc | apply pw_below_drewN | apply below_drew1) | exact HB.out)⟩
                    · rw [if_neg c15] at H
                      have c15b0 : (t102 == (-1)) = false := beq_eq_false_iff_ne.mpr c15
                      have c15b1 : (t102 != (-1)) = true := bne_iff_ne.mpr c15
                      by_cases c16 : (a0.extract ((ji10) : Int).toNat (x8_1 : Int).toNat).size ≤ 140737488355328
                      · rw [if_pos c16] at H
                        have c16b0 := eq_true c16
                        have c16b1 : decide ((a0.extract ((ji10) : Int).toNat (x8_1 : Int).toNat).size ≤ 140737488355328) = true := decide_eq_true c16
                        clear c16
                        obtain ⟨y103, hy103⟩ : ∃ y_ : List Int, y_ = (bytesOf (a0.extract ((ji10) : Int).toNat (x8_1 : Int).toNat)) := ⟨_, rfl⟩
                        replace H : ((jsonparser_Unescape.f y103 ([] : List Int)).bind fun bt106 => (if bt106.2.isNone = true then (some (strOfNums bt106.1, wrap64 (x8_1 + 1), none)) else (some ((⟨#[]⟩ : ByteArray), 0, some 1)))) = some (r1, r2, r3) := by first | (rw [hy103]; with_reducible exact H) | (have H2_ := (Option.bind_some _ _).symm.trans H; rw [hy103]; with_reducible exact H2_) | (have H2_ := (Option.bind_some _ _).symm.trans H; with_reducible exact H2_) | with_reducible exact H | (rw [hy103]; exact H) | exact H
                        have Ny103 := Aside0.mk hy103
                        clear hy103
                        replace H := Option.bind_eq_some_iff.mp H
                        obtain ⟨⟨t106, t107⟩, A170, H⟩ := H
                        replace H : (if t107.isNone = true then (some (strOfNums t106, wrap64 (x8_1 + 1), none)) else (some ((⟨#[]⟩ : ByteArray), 0, some 1))) = some (r1, r2, r3) := H
                        have A17 := Aside0.mk A170
                        clear A170
                        rcases t107 with _ | q110
                        · have H1 : (some (strOfNums t106, wrap64 (x8_1 + 1), none)) = some (r1, r2, r3) := by rw [if_pos (show (none : Option Int).isNone = true by rfl)] at H; exact H
                          clear H
                          have H := H1
                          clear H1
                          try simp only [errE_none, errE_some]
                          simp only [Option.some.injEq, Prod.mk.injEq] at H
                          obtain ⟨rfl, rfl, rfl⟩ := H
                          have p5 : 0 ≤ (x8_1 : Int) := of_decide_eq_true (by first | (with_reducible assumption) | assumption)
                          have q5 : x8_1 < (a0.size : Int) := of_decide_eq_true (by first | (with_reducible assumption) | assumption)
                          have hx5 := bt_at a0 x8_1
                          replace p5 := eq_true p5
                          replace q5 := eq_true q5
                          go_wp2_with (first | (go_at_call 83; (with_reducible refine (strings_IndexByte.calls (a0.extract ((ji10) : Int).toNat (x8_1 : Int).toNat) 92 t102 _ A14.out).mono ?_); rintro e w' ⟨rfl, ⟨nd, rfl⟩⟩; (try first | exact ⟨rfl, _, World.drewN_drewN _ _ _⟩ | exact ⟨rfl, _, Eq.trans (World.drewN_drewN _ _ _) (congrArg (World.drewN _) (Nat.add_assoc _ _ _))⟩)) | ((with_reducible refine gate_dst (N := 52) rfl ?_); refine conv_event (s := (a0.extract ((ji10) : Int).toNat (x8_1 : Int).toNat)) (src := 9) (dst := 22) (e := 5) rfl (N := 52) rfl _ rfl rfl Tryd.underlying9 Tryd.underlying22 Tryd.underlying5 (Nat.le_trans (of_decide_eq_true (by first | (with_reducible assumption) | assumption) : (a0.extract ((ji10) : Int).toNat (x8_1 : Int).toNat).size ≤ 140737488355328) (by omega)) ?_; intro v104 w18 ho19 hb; (first | rw [← Ny103.out] at ho19 | (simp only [Int.reduceToNat] at ho19; rw [← Ny103.out] at ho19)); have n0_ := Aside0.mk (Kd.V_lower (Kd.V_mono (ok' := fun k_ => True) ho19 (fun k_ hk_ => trivial)) (below_size (by repeat (first | (with_reducible first | exact HB.out | apply below_alloc | apply pw_below_drewN | apply below_drew1) | exact HB.out)))); have n1_ := Aside0.mk (below_step (by repeat (first | (with_reducible first | exact HB.out | apply below_alloc | apply pw_below_drewN | apply below_drew1) | exact HB.out)) hb); clear HB; have HO105 := n0_; have HB := n1_; clear n0_ n1_; clear hb ho19; obtain ⟨Ao20, co20, eo20⟩ := Kd.V_slice HO105.out; subst eo20) | (go_at_call 94; (refine (jsonparser_Unescape.calls (E := E) _ _ y103 _ _ ([] : List Int) t106 none _ ?side1 ?side2 ?side3 ?side4 ?side5 A17.out).mono ?_); (case side1 => exact Laid.below HLD.out (by repeat (first | (with_reducible first | exact HB.out | apply below_alloc | apply pw_below_drewN | apply below_drew1) | exact HB.out))); (case side2 => repeat (first | exact (Kd.V_reads' HO105.out).2.2 | (with_reducible refine Kd.C_alloc ?_ _) | (with_reducible refine Kd.C_drewN ?_ _) | (with_reducible refine Kd.C_drew ?_))); (case side3 => exact (Kd.V_reads' HO105.out).2.1); (case side4 => exact Kd.C_nil _ _); (case side5 => exact Nat.le_refl _); rintro e w21 ⟨v108, rfl, ho0, hb⟩; have n0_ := Aside0.mk (Kd.V_elder' (by (with_reducible repeat (first | apply Kd.V_alloc | apply Kd.V_drewN | apply Kd.V_drew)); exact HO105.out) (Kd.R_base ho0) hb); have n1_ := Aside0.mk (Kd.R_lower ho0 (below_size (by repeat (first | (with_reducible first | exact HB.out | apply below_alloc | apply pw_below_drewN | apply below_drew1) | exact HB.out)))); have n2_ := Aside0.mk (below_step (by repeat (first | (with_reducible first | exact HB.out | apply below_alloc | apply pw_below_drewN | apply below_drew1) | exact HB.out)) hb); clear HO105; clear HB; have HO105 := n0_; have HO109 := n1_; have HB := n2_; clear n0_ n1_ n2_; (try clear hb); (try clear hb2); (try clear hk); (try clear hi); (try clear ho0); (try simp only [errE_none, errE_some]); have hcv22 := own_string (P := Tryd.prog) Tryd.underlying22 Tryd.underlying5 Tryd.underlying9 (Kd.own_of_R HO109.out)))
                          repeat (go_quiet (first | (go_at_call 83; (with_reducible refine (strings_IndexByte.calls (a0.extract ((ji10) : Int).toNat (x8_1 : Int).toNat) 92 t102 _ A14.out).mono ?_); rintro e w' ⟨rfl, ⟨nd, rfl⟩⟩; (try first | exact ⟨rfl, _, World.drewN_drewN _ _ _⟩ | exact ⟨rfl, _, Eq.trans (World.drewN_drewN _ _ _) (congrArg (World.drewN _) (Nat.add_assoc _ _ _))⟩)) | ((with_reducible refine gate_dst (N := 52) rfl ?_); refine conv_event (s := (a0.extract ((ji10) : Int).toNat (x8_1 : Int).toNat)) (src := 9) (dst := 22) (e := 5) rfl (N := 52) rfl _ rfl rfl Tryd.underlying9 Tryd.underlying22 Tryd.underlying5 (Nat.le_trans (of_decide_eq_true (by first | (with_reducible assumption) | assumption) : (a0.extract ((ji10) : Int).toNat (x8_1 : Int).toNat).size ≤ 140737488355328) (by omega)) ?_; intro v104 w18 ho19 hb; (first | rw [← Ny103.out] at ho19 | (simp only [Int.reduceToNat] at ho19; rw [← Ny103.out] at ho19)); have n0_ := Aside0.mk (Kd.V_lower (Kd.V_mono (ok' := fun k_ => True) ho19 (fun k_ hk_ => trivial)) (below_size (by repeat (first | (with_reducible first | exact HB.out | apply below_alloc | apply pw_below_drewN | apply below_drew1) | exact HB.out)))); have n1_ := Aside0.mk (below_step (by repeat (first | (with_reducible first | exact HB.out | apply below_alloc | apply pw_below_drewN | apply below_drew1) | exact HB.out)) hb); clear HB; have HO105 := n0_; have HB := n1_; clear n0_ n1_; clear hb ho19; obtain ⟨Ao20, co20, eo20⟩ := Kd.V_slice HO105.out; subst eo20) | (go_at_call 94; (refine (jsonparser_Unescape.calls (E := E) _ _ y103 _ _ ([] : List Int) t106 none _ ?side1 ?side2 ?side3 ?side4 ?side5 A17.out).mono ?_); (case side1 => exact Laid.below HLD.out (by repeat (first | (with_reducible first | exact HB.out | apply below_alloc | apply pw_below_drewN | apply below_drew1) | exact HB.out))); (case side2 => repeat (first | exact (Kd.V_reads' HO105.out).2.2 | (with_reducible refine Kd.C_alloc ?_ _) | (with_reducible refine Kd.C_drewN ?_ _) | (with_reducible refine Kd.C_drew ?_))); (case side3 => exact (Kd.V_reads' HO105.out).2.1); (case side4 => exact Kd.C_nil _ _); (case side5 => exact Nat.le_refl _); rintro e w21 ⟨v108, rfl, ho0, hb⟩; have n0_ := Aside0.mk (Kd.V_elder' (by (with_reducible repeat (first | apply Kd.V_alloc | apply Kd.V_drewN | apply Kd.V_drew)); exact HO105.out) (Kd.R_base ho0) hb); have n1_ := Aside0.mk (Kd.R_lower ho0 (below_size (by repeat (first | (with_reducible first | exact HB.out | apply below_alloc | apply pw_below_drewN | apply below_drew1) | exact HB.out)))); have n2_ := Aside0.mk (below_step (by repeat (first | (with_reducible first | exact HB.out | apply below_alloc | apply pw_below_drewN | apply below_drew1) | exact HB.out)) hb); clear HO105; clear HB; have HO105 := n0_; have HO109 := n1_; have HB := n2_; clear n0_ n1_ n2_; (try clear hb); (try clear hb2); (try clear hk); (try clear hi); (try clear ho0); (try simp only [errE_none, errE_some]); have hcv22 := own_string (P := Tryd.prog) Tryd.underlying22 Tryd.underlying5 Tryd.underlying9 (Kd.own_of_R HO109.out))); try go_wp2_with (first | (go_at_call 83; (with_reducible refine (strings_IndexByte.calls (a0.extract ((ji10) : Int).toNat (x8_1 : Int).toNat) 92 t102 _ A14.out).mono ?_); rintro e w' ⟨rfl, ⟨nd, rfl⟩⟩; (try first | exact ⟨rfl, _, World.drewN_drewN _ _ _⟩ | exact ⟨rfl, _, Eq.trans (World.drewN_drewN _ _ _) (congrArg (World.drewN _) (Nat.add_assoc _ _ _))⟩)) | ((with_reducible refine gate_dst (N := 52) rfl ?_); refine conv_event (s := (a0.extract ((ji10) : Int).toNat (x8_1 : Int).toNat)) (src := 9) (dst := 22) (e := 5) rfl (N := 52) rfl _ rfl rfl Tryd.underlying9 Tryd.underlying22 Tryd.underlying5 (Nat.le_trans (of_decide_eq_true (by first | (with_reducible assumption) | assumption) : (a0.extract ((ji10) : Int).toNat (x8_1 : Int).toNat).size ≤ 140737488355328) (by omega)) ?_; intro v104 w18 ho19 hb; (first | rw [← Ny103.out] at ho19 | (simp only [Int.reduceToNat] at ho19; rw [← Ny103.out] at ho19)); have n0_ := Aside0.mk (Kd.V_lower (Kd.V_mono (ok' := fun k_ => True) ho19 (fun k_ hk_ => trivial)) (below_size (by repeat (first | (with_reducible first | exact HB.out | apply below_alloc | apply pw_below_drewN | apply below_drew1) | exact HB.out)))); have n1_ := Aside0.mk (below_step (by repeat (first | (with_reducible first | exact HB.out | apply below_alloc | apply pw_below_drewN | apply below_drew1) | exact HB.out)) hb); clear HB; have HO105 := n0_; have HB := n1_; clear n0_ n1_; clear hb ho19; obtain ⟨Ao20, co20, eo20⟩ := Kd.V_slice HO105.out; subst eo20) | (go_at_call 94; (refine (jsonparser_Unescape.calls (E := E) _ _ y103 _ _ ([] : List Int) t106 none _ ?side1 ?side2 ?side3 ?side4 ?side5 A17.out).mono ?_); (case side1 => exact Laid.below HLD.out (by repeat (first | (with_reducible first | exact HB.out | apply below_alloc | apply pw_below_drewN | apply below_drew1) | exact HB.out))); (case side2 => repeat (first | exact (Kd.V_reads' HO105.out).2.2 | (with_reducible refine Kd.C_alloc ?_ _) | (with_reducible refine Kd.C_drewN ?_ _) | (with_reducible refine Kd.C_drew ?_))); (case side3 => exact (Kd.V_reads' HO105.out).2.1); (case side4 => exact Kd.C_nil _ _); (case side5 => exact Nat.le_refl _); rintro e w21 ⟨v108, rfl, ho0, hb⟩; have n0_ := Aside0.mk (Kd.V_elder' (by (with_reducible repeat (first | apply Kd.V_alloc | apply Kd.V_drewN | apply Kd.V_drew)); exact HO105.out) (Kd.R_base ho0) hb); have n1_ := Aside0.mk (Kd.R_lower ho0 (below_size (by repeat (first | (with_reducible first | exact HB.out | apply below_alloc | apply pw_below_drewN | apply below_drew1) | exact HB.out)))); have n2_ := Aside0.mk (below_step (by repeat (first | (with_reducible first | exact HB.out | apply below_alloc | apply pw_below_drewN | apply below_drew1) | exact HB.out)) hb); clear HO105; clear HB; have HO105 := n0_; have HO109 := n1_; have HB := n2_; clear n0_ n1_ n2_; (try clear hb); (try clear hb2); (try clear hk); (try clear hi); (try clear ho0); (try simp only [errE_none, errE_some]); have hcv22 := own_string (P := Tryd.prog) Tryd.underlying22 Tryd.underlying5 Tryd.underlying9 (Kd.own_of_R HO109.out))))
                          go_ret3
                          exact ⟨by first | rfl | (simp [errE_none, errE_some] <;> rfl) | (simp only [← hji10]; first | rfl | (simp [errE_none, errE_some] <;> rfl)) | (simp [*, errE_none, errE_some] <;> rfl), by repeat (first | (with_reducible first | exact HB.out | apply below_alloc | apply pw_below_drewN | apply below_drew1) | exact HB.out)⟩
                        · have H1 : (some ((⟨#[]⟩ : ByteArray), 0, some 1)) = some (r1, r2, r3) := by rw [if_neg (show ¬ (some q110).isNone = true by simp)] at H; exact H
                          clear H
                          have H := H1
                          clear H1
                          try simp only [errE_none, errE_some]
                          simp only [Option.some.injEq, Prod.mk.injEq] at H
                          obtain ⟨rfl, rfl, rfl⟩ := H
                          have p5 : 0 ≤ (x8_1 : Int) := of_decide_eq_true (by first | (with_reducible assumption) | assumption)
                          have q5 : x8_1 < (a0.size : Int) := of_decide_eq_true (by first | (with_reducible assumption) | assumption)
                          have hx5 := bt_at a0 x8_1
                          replace p5 := eq_true p5
                          replace q5 := eq_true q5
                          go_wp2_with (first | (go_at_call 83; (with_reducible refine (strings_IndexByte.calls (a0.extract ((ji10) : Int).toNat (x8_1 : Int).toNat) 92 t102 _ A14.out).mono ?_); rintro e w' ⟨rfl, ⟨nd, rfl⟩⟩; (try first | exact ⟨rfl, _, World.drewN_drewN _ _ _⟩ | exact ⟨rfl, _, Eq.trans (World.drewN_drewN _ _ _) (congrArg (World.drewN _) (Nat.add_assoc _ _ _))⟩)) | ((with_reducible refine gate_dst (N := 52) rfl ?_); refine conv_event (s := (a0.extract ((ji10) : Int).toNat (x8_1 : Int).toNat)) (src := 9) (dst := 22) (e := 5) rfl (N := 52) rfl _ rfl rfl Tryd.underlying9 Tryd.underlying22 Tryd.underlying5 (Nat.le_trans (of_decide_eq_true (by first | (with_reducible assumption) | assumption) : (a0.extract ((ji10) : Int).toNat (x8_1 : Int).toNat).size ≤ 140737488355328) (by omega)) ?_; intro v104 w23 ho24 hb; (first | rw [← Ny103.out] at ho24 | (simp only [Int.reduceToNat] at ho24; rw [← Ny103.out] at ho24)); have n0_ := Aside0.mk (Kd.V_lower (Kd.V_mono (ok' := fun k_ => True) ho24 (fun k_ hk_ => trivial)) (below_size (by repeat (first | (with_reducible first | exact HB.out | apply below_alloc | apply pw_below_drewN | apply below_drew1) | exact HB.out)))); have n1_ := Aside0.mk (below_step (by repeat (first | (with_reducible first | exact HB.out | apply below_alloc | apply pw_below_drewN | apply below_drew1) | exact HB.out)) hb); clear HB; have HO105 := n0_; have HB := n1_; clear n0_ n1_; clear hb ho24; obtain ⟨Ao25, co25, eo25⟩ := Kd.V_slice HO105.out; subst eo25) | (go_at_call 94; (refine (jsonparser_Unescape.calls (E := E) _ _ y103 _ _ ([] : List Int) t106 (some q110) _ ?side1 ?side2 ?side3 ?side4 ?side5 A17.out).mono ?_); (case side1 => exact Laid.below HLD.out (by repeat (first | (with_reducible first | exact HB.out | apply below_alloc | apply pw_below_drewN | apply below_drew1) | exact HB.out))); (case side2 => repeat (first | exact (Kd.V_reads' HO105.out).2.2 | (with_reducible refine Kd.C_alloc ?_ _) | (with_reducible refine Kd.C_drewN ?_ _) | (with_reducible refine Kd.C_drew ?_))); (case side3 => exact (Kd.V_reads' HO105.out).2.1); (case side4 => exact Kd.C_nil _ _); (case side5 => exact Nat.le_refl _); rintro e w26 ⟨v108, rfl, ho0, hb⟩; have n0_ := Aside0.mk (Kd.V_elder' (by (with_reducible repeat (first | apply Kd.V_alloc | apply Kd.V_drewN | apply Kd.V_drew)); exact HO105.out) (Kd.R_base ho0) hb); have n1_ := Aside0.mk (Kd.R_lower ho0 (below_size (by repeat (first | (with_reducible first | exact HB.out | apply below_alloc | apply pw_below_drewN | apply below_drew1) | exact HB.out)))); have n2_ := Aside0.mk (below_step (by repeat (first | (with_reducible first | exact HB.out | apply below_alloc | apply pw_below_drewN | apply below_drew1) | exact HB.out)) hb); clear HO105; clear HB; have HO105 := n0_; have HO109 := n1_; have HB := n2_; clear n0_ n1_ n2_; (try clear hb); (try clear hb2); (try clear hk); (try clear hi); (try clear ho0); (try simp only [errE_none, errE_some]); have hcz27_0 : w26.cell? ⟨1, 0, none⟩ = some (.iface 128 (.pointer (some (E 1)))) := Laid.s1 (Laid.below HLD.out (by repeat (first | (with_reducible first | exact HB.out | apply below_alloc | apply pw_below_drewN | apply below_drew1) | exact HB.out)))))
                          repeat (go_quiet (first | (go_at_call 83; (with_reducible refine (strings_IndexByte.calls (a0.extract ((ji10) : Int).toNat (x8_1 : Int).toNat) 92 t102 _ A14.out).mono ?_); rintro e w' ⟨rfl, ⟨nd, rfl⟩⟩; (try first | exact ⟨rfl, _, World.drewN_drewN _ _ _⟩ | exact ⟨rfl, _, Eq.trans (World.drewN_drewN _ _ _) (congrArg (World.drewN _) (Nat.add_assoc _ _ _))⟩)) | ((with_reducible refine gate_dst (N := 52) rfl ?_); refine conv_event (s := (a0.extract ((ji10) : Int).toNat (x8_1 : Int).toNat)) (src := 9) (dst := 22) (e := 5) rfl (N := 52) rfl _ rfl rfl Tryd.underlying9 Tryd.underlying22 Tryd.underlying5 (Nat.le_trans (of_decide_eq_true (by first | (with_reducible assumption) | assumption) : (a0.extract ((ji10) : Int).toNat (x8_1 : Int).toNat).size ≤ 140737488355328) (by omega)) ?_; intro v104 w23 ho24 hb; (first | rw [← Ny103.out] at ho24 | (simp only [Int.reduceToNat] at ho24; rw [← Ny103.out] at ho24)); have n0_ := Aside0.mk (Kd.V_lower (Kd.V_mono (ok' := fun k_ => True) ho24 (fun k_ hk_ => trivial)) (below_size (by repeat (first | (with_reducible first | exact HB.out | apply below_alloc | apply pw_below_drewN | apply below_drew1) | exact HB.out)))); have n1_ := Aside0.mk (below_step (by repeat (first | (with_reducible first | exact HB.out | apply below_alloc | apply pw_below_drewN | apply below_drew1) | exact HB.out)) hb); clear HB; have HO105 := n0_; have HB := n1_; clear n0_ n1_; clear hb ho24; obtain ⟨Ao25, co25, eo25⟩ := Kd.V_slice HO105.out; subst eo25) | (go_at_call 94; (refine (jsonparser_Unescape.calls (E := E) _ _ y103 _ _ ([] : List Int) t106 (some q110) _ ?side1 ?side2 ?side3 ?side4 ?side5 A17.out).mono ?_); (case side1 => exact Laid.below HLD.out (by repeat (first | (with_reducible first | exact HB.out | apply below_alloc | apply pw_below_drewN | apply below_drew1) | exact HB.out))); (case side2 => repeat (first | exact (Kd.V_reads' HO105.out).2.2 | (with_reducible refine Kd.C_alloc ?_ _) | (with_reducible refine Kd.C_drewN ?_ _) | (with_reducible refine Kd.C_drew ?_))); (case side3 => exact (Kd.V_reads' HO105.out).2.1); (case side4 => exact Kd.C_nil _ _); (case side5 => exact Nat.le_refl _); rintro e w26 ⟨v108, rfl, ho0, hb⟩; have n0_ := Aside0.mk (Kd.V_elder' (by (with_reducible repeat (first | apply Kd.V_alloc | apply Kd.V_drewN | apply Kd.V_drew)); exact HO105.out) (Kd.R_base ho0) hb); have n1_ := Aside0.mk (Kd.R_lower ho0 (below_size (by repeat (first | (with_reducible first | exact HB.out | apply below_alloc | apply pw_below_drewN | apply below_drew1) | exact HB.out)))); have n2_ := Aside0.mk (below_step (by repeat (first | (with_reducible first | exact HB.out | apply below_alloc | apply pw_below_drewN | apply below_drew1) | exact HB.out)) hb); clear HO105; clear HB; have HO105 := n0_; have HO109 := n1_; have HB := n2_; clear n0_ n1_ n2_; (try clear hb); (try clear hb2); (try clear hk); (try clear hi); (try clear ho0); (try simp only [errE_none, errE_some]); have hcz27_0 : w26.cell? ⟨1, 0, none⟩ = some (.iface 128 (.pointer (some (E 1)))) := Laid.s1 (Laid.below HLD.out (by repeat (first | (with_reducible first | exact HB.out | apply below_alloc | apply pw_below_drewN | apply below_drew1) | exact HB.out))))); try go_wp2_with (first | (go_at_call 83; (with_reducible refine (strings_IndexByte.calls (a0.extract ((ji10) : Int).toNat (x8_1 : Int).toNat) 92 t102 _ A14.out).mono ?_); rintro e w' ⟨rfl, ⟨nd, rfl⟩⟩; (try first | exact ⟨rfl, _, World.drewN_drewN _ _ _⟩ | exact ⟨rfl, _, Eq.trans (World.drewN_drewN _ _ _) (congrArg (World.drewN _) (Nat.add_assoc _ _ _))⟩)) | ((with_reducible refine gate_dst (N := 52) rfl ?_); refine conv_event (s := (a0.extract ((ji10) : Int).toNat (x8_1 : Int).toNat)) (src := 9) (dst := 22) (e := 5) rfl (N := 52) rfl _ rfl rfl Tryd.underlying9 Tryd.underlying22 Tryd.underlying5 (Nat.le_trans (of_decide_eq_true (by first | (with_reducible assumption) | assumption) : (a0.extract ((ji10) : Int).toNat (x8_1 : Int).toNat).size ≤ 140737488355328) (by omega)) ?_; intro v104 w23 ho24 hb; (first | rw [← Ny103.out] at ho24 | (simp only [Int.reduceToNat] at ho24; rw [← Ny103.out] at ho24)); have n0_ := Aside0.mk (Kd.V_lower (Kd.V_mono (ok' := fun k_ => True) ho24 (fun k_ hk_ => trivial)) (below_size (by repeat (first | (with_reducible first | exact HB.out | apply below_alloc | apply pw_below_drewN | apply below_drew1) | exact HB.out)))); have n1_ := Aside0.mk (below_step (by repeat (first | (with_reducible first | exact HB.out | apply below_alloc | apply pw_below_drewN | apply below_drew1) | exact HB.out)) hb); clear HB; have HO105 := n0_; have HB := n1_; clear n0_ n1_; clear hb ho24; obtain ⟨Ao25, co25, eo25⟩ := Kd.V_slice HO105.out; subst eo25) | (go_at_call 94; (refine (jsonparser_Unescape.calls (E := E) _ _ y103 _ _ ([] : List Int) t106 (some q110) _ ?side1 ?side2 ?side3 ?side4 ?side5 A17.out).mono ?_); (case side1 => exact Laid.below HLD.out (by repeat (first | (with_reducible first | exact HB.out | apply below_alloc | apply pw_below_drewN | apply below_drew1) | exact HB.out))); (case side2 => repeat (first | exact (Kd.V_reads' HO105.out).2.2 | (with_reducible refine Kd.C_alloc ?_ _) | (with_reducible refine Kd.C_drewN ?_ _) | (with_reducible refine Kd.C_drew ?_))); (case side3 => exact (Kd.V_reads' HO105.out).2.1); (case side4 => exact Kd.C_nil _ _); (case side5 => exact Nat.le_refl _); rintro e w26 ⟨v108, rfl, ho0, hb⟩; have n0_ := Aside0.mk (Kd.V_elder' (by (with_reducible repeat (first | apply Kd.V_alloc | apply Kd.V_drewN | apply Kd.V_drew)); exact HO105.out) (Kd.R_base ho0) hb); have n1_ := Aside0.mk (Kd.R_lower ho0 (below_size (by repeat (first | (with_reducible first | exact HB.out | apply below_alloc | apply pw_below_drewN | apply below_drew1) | exact HB.out)))); have n2_ := Aside0.mk (below_step (by repeat (first | (with_reducible first | exact HB.out | apply below_alloc | apply pw_below_drewN | apply below_drew1) | exact HB.out)) hb); clear HO105; clear HB; have HO105 := n0_; have HO109 := n1_; have HB := n2_; clear n0_ n1_ n2_; (try clear hb); (try clear hb2); (try clear hk); (try clear hi); (try clear ho0); (try simp only [errE_none, errE_some]); have hcz27_0 : w26.cell? ⟨1, 0, none⟩ = some (.iface 128 (.pointer (some (E 1)))) := Laid.s1 (Laid.below HLD.out (by repeat (first | (with_reducible first | exact HB.out | apply below_alloc | apply pw_below_drewN | apply below_drew1) | exact HB.out))))))
                          go_ret3
                          exact ⟨by first | rfl | (simp [errE_none, errE_some] <;> rfl) | (simp only [← hji10]; first | rfl | (simp [errE_none, errE_some] <;> rfl)) | (simp [*, errE_none, errE_some] <;> rfl), by repeat (first | (with_reducible first | exact HB.out | apply below_alloc | apply pw_below_drewN | apply below_drew1) | exact HB.out)⟩
                      · rw [if_neg c16] at H
                        exact absurd H (by simp)
                  · rw [if_neg c13] at H
                    exact absurd H (by simp)
                · rw [if_neg c12] at H
                  exact absurd H (by simp)
              · rw [if_neg c11] at H
                exact absurd H (by simp)
            · rw [if_neg c9] at H
              have c9b0 : ((bt a0 x8_1) == 34) = false := beq_eq_false_iff_ne.mpr c9
              have c9b1 : ((bt a0 x8_1) != 34) = true := bne_iff_ne.mpr c9
              by_cases c29 : (bt a0 x8_1) < 32
              · rw [if_pos c29] at H
                have c29b0 : decide ((bt a0 x8_1) < 32) = true := decide_eq_true c29
                clear c29
                simp only [Option.some.injEq, Prod.mk.injEq] at H
                obtain ⟨rfl, rfl, rfl⟩ := H
                have p5 : 0 ≤ (x8_1 : Int) := of_decide_eq_true (by first | (with_reducible assumption) | assumption)
                have q5 : x8_1 < (a0.size : Int) := of_decide_eq_true (by first | (with_reducible assumption) | assumption)
                have hx5 := bt_at a0 x8_1
                replace p5 := eq_true p5
                replace q5 := eq_true q5
                have p28 : 0 ≤ (x8_1 : Int) := of_decide_eq_true (by first | (with_reducible assumption) | assumption)
                have q28 : x8_1 < (a0.size : Int) := of_decide_eq_true (by first | (with_reducible assumption) | assumption)
                have hx28 := bt_at a0 x8_1
                replace p28 := eq_true p28
                replace q28 := eq_true q28
                have hcz30_0 : wr.cell? ⟨1, 0, none⟩ = some (.iface 128 (.pointer (some (E 1)))) := Laid.s1 (Laid.below HLD.out (by repeat (first | (with_reducible first | exact HB.out | apply below_alloc | apply pw_below_drewN | apply below_drew1) | exact HB.out)))
                go_wp2
                repeat (go_quiet (fail); try go_wp2)
                go_ret3
                exact ⟨by first | rfl | (simp [errE_none, errE_some] <;> rfl) | (simp [*, errE_none, errE_some] <;> rfl), by repeat (first | (with_reducible first | exact HB.out | apply below_alloc | apply pw_below_drewN | apply below_drew1) | exact HB.out)⟩
              · rw [if_neg c29] at H
                have c29b0 : decide ((bt a0 x8_1) < 32) = false := decide_eq_false c29
                clear c29
                have H' := Aside0.mk H
                clear H
                have p5 : 0 ≤ (x8_1 : Int) := of_decide_eq_true (by first | (with_reducible assumption) | assumption)
                have q5 : x8_1 < (a0.size : Int) := of_decide_eq_true (by first | (with_reducible assumption) | assumption)
                have hx5 := bt_at a0 x8_1
                replace p5 := eq_true p5
                replace q5 := eq_true q5
                have p28 : 0 ≤ (x8_1 : Int) := of_decide_eq_true (by first | (with_reducible assumption) | assumption)
                have q28 : x8_1 < (a0.size : Int) := of_decide_eq_true (by first | (with_reducible assumption) | assumption)
                have hx28 := bt_at a0 x8_1
                replace p28 := eq_true p28
                replace q28 := eq_true q28
                go_wp2
                repeat (go_quiet (fail); try go_wp2)
                go_roundg k1
                case measure => have := HK1.out; omega
                case rel => exact ⟨(wrap64 (x8_1 + 1)), (by first | rfl | (simp; done) | (simp [*]; done)), H', ⟨by have := HK1.out; omega⟩, ⟨by repeat (first | (with_reducible first | exact HB.out | apply below_alloc | apply pw_below_drewN | apply below_drew1) | exact HB.out)⟩⟩
        · rw [if_neg c4] at H
          exact absurd H (by simp)
      · rw [if_neg c3] at H
        have c3b0 : decide (x8_1 < (a0.size : Int)) = false := decide_eq_false c3
        clear c3
        simp only [Option.some.injEq, Prod.mk.injEq] at H
        obtain ⟨rfl, rfl, rfl⟩ := H
        have hcz31_0 : wr.cell? ⟨12, 0, none⟩ = some (.iface 128 (.pointer (some (E 12)))) := Laid.s12 (Laid.below HLD.out (by repeat (first | (with_reducible first | exact HB.out | apply below_alloc | apply pw_below_drewN | apply below_drew1) | exact HB.out)))
        go_wp2
        repeat (go_quiet (fail); try go_wp2)
        go_ret3
        exact ⟨by first | rfl | (simp [errE_none, errE_some] <;> rfl) | (simp [*, errE_none, errE_some] <;> rfl), by repeat (first | (with_reducible first | exact HB.out | apply below_alloc | apply pw_below_drewN | apply below_drew1) | exact HB.out)⟩

end Go.Proofs.YtfmllmlloekojaaDoor.PFnJrPath
