/- strconv.ParseUint of four bytes in base 16 at 16 bits (function 40, within it 48), as a Lean function over the text; an error, whatever it holds. -/
import Derived.Test.YtkhgbacbnkgafaaDoorShRp
import Derived.Test.YtkhgbacbnkgafaaDoorXLaidFnFjReadBytes
import Derived.Test.YtkhgbacbnkgafaaDoorXWords
import Derived.Lib.Hide
import Derived.Lib.ConvBytes
import Derived.Laws.BitsLemmas
set_option linter.unusedVariables false
namespace Go.Proofs.YtkhgbacbnkgafaaDoor.PFnFjReadBytes
open Go Go.RowKit Go.Proofs.YtkhgbacbnkgafaaDoorW.PrintWords

/-- What a byte's digit is in base 16. -/
def dgt (b : Int) : Option Int := if 48 ≤ b ∧ b ≤ 57 then some (b - 48) else if 97 ≤ b ∧ b ≤ 102 then some (b - 87) else if 65 ≤ b ∧ b ≤ 70 then some (b - 55) else none
def hexF : Int → List UInt8 → Option Int
  | a, [] => some a
  | a, c :: t => match dgt (c.toNat : Int) with
    | some d => hexF (a * 16 + d) t
    | none => none
def hexR : Option Int → Value
  | some v => .tuple #[.int .u64 v, .nilIface]
  | none => .tuple #[.int .u64 0, .iface 87 (.int .i64 2)]

set_option maxRecDepth 100000 in
theorem low_nat : ∀ b : Fin 256, (97 ≤ (b.val ||| 32) ∧ (b.val ||| 32) ≤ 102 ↔ (97 ≤ b.val ∧ b.val ≤ 102) ∨ (65 ≤ b.val ∧ b.val ≤ 70)) ∧ (97 ≤ b.val ∧ b.val ≤ 102 → (b.val ||| 32) = b.val) ∧ (65 ≤ b.val ∧ b.val ≤ 70 → (b.val ||| 32) = b.val + 32) := by decide

theorem low_int (c : Nat) (h : c < 256) : Go.bits .or .u8 (c : Int) 32 = ((c ||| 32 : Nat) : Int) :=
  (Go.bits_nat .u8 8 (by decide) (fun n a b => by rw [Go.IntKind.wrap_u8]; omega) c 32 (by omega) (by decide)).2

theorem dgt_low (c : Nat) (h : c < 256) (hd : ¬ (48 ≤ c ∧ c ≤ 57)) : dgt (c : Int) = if 97 ≤ Go.bits .or .u8 (c : Int) 32 ∧ Go.bits .or .u8 (c : Int) 32 ≤ 102 then some (Go.bits .or .u8 (c : Int) 32 - 87) else none := by
  obtain ⟨h1, h2, h3⟩ := low_nat ⟨c, h⟩
  rw [low_int c h]
  dsimp only at h1 h2 h3
  unfold dgt
  rw [if_neg (by omega)]
  by_cases k1 : 97 ≤ c ∧ c ≤ 102
  · rw [if_pos (by omega), h2 k1, if_pos (by omega)]
  · rw [if_neg (by omega)]
    by_cases k2 : 65 ≤ c ∧ c ≤ 70
    · rw [if_pos (by omega), h3 k2, if_pos (by omega)]
      congr 1; omega
    · rw [if_neg (by omega), if_neg]
      have := h1.1
      omega

set_option maxHeartbeats 8000000 in
set_option maxRecDepth 100000 in
theorem inner (t : ByteArray) (h4 : t.size = 4) (w : World) :
    Calls Tryd.prog 48 #[.string t, .int .i64 16, .int .i64 16] w fun e w' => e = .returned (hexR (hexF 0 t.data.toList)) ∧ w' = Lib.bytesWorld w 5 t := by
  have t9 := Tryd.underlying9
  have hemp : t.toList.isEmpty = false := by
    cases hx : t.toList with
    | nil =>
      have := congrArg List.length hx
      rw [ByteArray.toList_eq, Array.length_toList] at this
      have h5 : t.data.size = 4 := h4
      rw [h5] at this; cases this
    | cons _ _ => rfl
  have hcv := Lib.run_convert_string_bytes (P := Tryd.prog) w 9 22 5 t (u := .string) Tryd.underlying9 Tryd.underlying22 Tryd.underlying5
  have hB : ∀ j, j < t.size → (Lib.bytesWorld w 5 t).cell? ⟨w.heap.size, j, none⟩ = some (.int .u8 (t.data.toList.getD j 0).toNat) := fun j hj => Lib.bytesWorld_cell w 5 t j hj
  obtain ⟨W1, hW1⟩ : ∃ W1, W1 = Lib.bytesWorld w 5 t := ⟨_, rfl⟩
  rw [← hW1] at hcv hB ⊢
  clear hW1
  obtain ⟨bs, hL⟩ : ∃ bs, bs = t.data.toList := ⟨_, rfl⟩
  have hLn : bs.length = 4 := by rw [hL, ← h4]; exact Array.length_toList
  rw [← hL] at hB ⊢
  clear hL
  rw [h4] at hB
  have hmv : IntKind.u64.wrap (IntKind.u64.wrap 65536 - 1) = 65535 := by
    rw [IntKind.wrap_u64, IntKind.wrap_u64]
    decide
  go_enter Tryd.func48, Tryd.ntmps48
  go_wp2
  go_loop [12, 13, 101] (fun vu vn vi => ∃ (k : Nat) (a : Int), vu = .bool false ∧ vn = .int .u64 a ∧ vi = .int .i64 k ∧ k ≤ 4 ∧ Hid (0 ≤ a ∧ a < 16 ^ k ∧ hexF 0 bs = hexF a (bs.drop k)))
    (fun _ _ vi => 4 - (intOf vi).toNat)
  case atStart => exact ⟨0, 0, rfl, rfl, rfl, by omega, by omega, by omega, rfl⟩
  case round =>
    obtain ⟨k, a, rfl, rfl, rfl, hk, hh⟩ := hrel
    obtain ⟨ha, hap, hdec⟩ := hh.out
    clear hh
    by_cases hkn : k < 4
    · have hc := hB k hkn
      have hdrop : bs.drop k = bs[k]'(by omega) :: bs.drop (k + 1) := List.drop_eq_getElem_cons (by omega)
      have hget : bs.getD k 0 = bs[k]'(by omega) := by simp [List.getD, List.getElem?_eq_getElem (show k < bs.length by omega)]
      rw [hdrop] at hdec
      rw [hget] at hc
      generalize bs[k]'(by omega) = c at hc hdec
      have hc256 : c.toNat < 256 := c.toNat_lt
      clear hB hdrop hget
      have ha16 : a < 4096 := by
        have h3 : (16 : Int) ^ k ≤ 16 ^ 3 := by
          have h5 := Nat.pow_le_pow_right (n := 16) (by omega) (show k ≤ 3 by omega)
          exact_mod_cast h5
        omega
      have hpow : (16 : Int) ^ (k + 1) = 16 ^ k * 16 := Int.pow_succ 16 k
      by_cases hdig : 48 ≤ c.toNat ∧ c.toNat ≤ 57
      · obtain ⟨hd0, hd1⟩ := hdig
        have hF : hexF a (c :: bs.drop (k + 1)) = hexF (a * 16 + ((c.toNat : Int) - 48)) (bs.drop (k + 1)) := by
          have : dgt (c.toNat : Int) = some ((c.toNat : Int) - 48) := by unfold dgt; rw [if_pos (by omega)]
          simp only [hexF, this]
        have HN : Hid (0 ≤ a * 16 + ((c.toNat : Int) - 48) ∧ a * 16 + ((c.toNat : Int) - 48) < 16 ^ (k + 1) ∧ hexF 0 bs = hexF (a * 16 + ((c.toNat : Int) - 48)) (bs.drop (k + 1))) := Lib.hid ⟨by omega, by omega, hdec.trans hF⟩
        have i1 : a * 16 + ((c.toNat : Int) - 48) < 65536 := by omega
        clear hF hdec hpow hap
        go_wp2
        refine ⟨⟨k + 1, a * 16 + ((c.toNat : Int) - 48), rfl, (by first | rfl | (congr 1; omega)), (by first | rfl | (congr 1; omega)), by omega, HN⟩, by simp [intOf]; omega⟩
      · have hv0 := bits_lo_u8 .or (c.toNat : Int) 32
        have hv1 := bits_hi_u8 .or (c.toNat : Int) 32
        have hdg := dgt_low c.toNat hc256 hdig
        by_cases hlet : 97 ≤ Go.bits .or .u8 (c.toNat : Int) 32 ∧ Go.bits .or .u8 (c.toNat : Int) 32 ≤ 102
        · rw [if_pos hlet] at hdg
          obtain ⟨hl0, hl1⟩ := hlet
          have hF : hexF a (c :: bs.drop (k + 1)) = hexF (a * 16 + (Go.bits .or .u8 (c.toNat : Int) 32 - 87)) (bs.drop (k + 1)) := by simp only [hexF, hdg]
          have HN : Hid (0 ≤ a * 16 + (Go.bits .or .u8 (c.toNat : Int) 32 - 87) ∧ a * 16 + (Go.bits .or .u8 (c.toNat : Int) 32 - 87) < 16 ^ (k + 1) ∧ hexF 0 bs = hexF (a * 16 + (Go.bits .or .u8 (c.toNat : Int) 32 - 87)) (bs.drop (k + 1))) := Lib.hid ⟨by omega, by omega, hdec.trans hF⟩
          have i1 : a * 16 + (Go.bits .or .u8 (c.toNat : Int) 32 - 87) < 65536 := by omega
          have hn95 : ¬ (c.toNat : Int) = 95 := by
            intro e
            rw [e, show Go.bits .or .u8 95 32 = 127 from low_int 95 (by omega)] at hl1
            omega
          clear hF hdec hpow hap hdg
          go_wp2
          all_goals refine ⟨⟨k + 1, a * 16 + (Go.bits .or .u8 (c.toNat : Int) 32 - 87), rfl, (by first | rfl | (congr 1; omega)), (by first | rfl | (congr 1; omega)), by omega, HN⟩, by simp [intOf]; omega⟩
        · rw [if_neg hlet] at hdg
          have hF : hexF a (c :: bs.drop (k + 1)) = none := by simp only [hexF, hdg]
          rw [hF] at hdec
          clear hF hpow hap hdg
          have h95 : Go.bits .or .u8 95 32 = 127 := low_int 95 (by omega)
          go_wp2
          all_goals go_ret2
          all_goals first | exact ⟨rfl, rfl⟩ | exact ⟨by rw [hdec]; rfl, rfl⟩
    · have hkk : k = 4 := by omega
      subst hkk
      have hF : hexF a (bs.drop 4) = some a := by rw [List.drop_eq_nil_of_le (by omega)]; rfl
      rw [hF] at hdec
      have ha16 : a < 65536 := by omega
      clear hF hap
      go_wp2
      go_ret2
      first | exact ⟨rfl, rfl⟩ | exact ⟨by rw [hdec]; rfl, rfl⟩

def strconv_ParseUint_71.f (a0 : ByteArray) (a1 a2 : Int) : Option (Int × Option Int) :=
  if a1 = 16 ∧ a2 = 16 ∧ a0.size = 4 then
    (match hexF 0 a0.data.toList with
      | some v => some (v, none)
      | none => some (0, some 0))
  else none

set_option maxHeartbeats 4000000 in
set_option maxRecDepth 100000 in
theorem strconv_ParseUint_71.calls (a0 : ByteArray) (a1 a2 : Int) (r1 : Int) (r2 : Option Int) (w : World) (hL : Laid w) (h : strconv_ParseUint_71.f a0 a1 a2 = some (r1, r2)) :
    Calls Tryd.prog 40 #[.string a0, .int .i64 a1, .int .i64 a2] w fun e w' => ∃ x1_ : TypeId × Value, e = .returned (.tuple #[.int .u64 r1, errX x1_ r2]) ∧ Below w.heap.size w w' := by
  unfold strconv_ParseUint_71.f at h
  split at h
  · rename_i hs
    obtain ⟨rfl, rfl, hsz⟩ := hs
    have hin := inner a0 hsz
    cases hp : hexF 0 a0.data.toList with
    | some v =>
      rw [hp] at h
      simp only [hp, hexR] at hin
      simp only [Option.some.injEq, Prod.mk.injEq] at h
      obtain ⟨rfl, rfl⟩ := h
      go_enter Tryd.func40, Tryd.ntmps40
      go_wp2_with (go_at_call 48; (with_reducible refine (hin _).mono ?_); rintro e w' ⟨rfl, rfl⟩)
      go_ret2
      exact ⟨(0, .nilIface), rfl, bytes_below (Below.refl _ _) (Nat.le_refl _) _ a0⟩
    | none =>
      rw [hp] at h
      simp only [hp, hexR] at hin
      simp only [Option.some.injEq, Prod.mk.injEq] at h
      obtain ⟨rfl, rfl⟩ := h
      have hb1 : Below w.heap.size w (Lib.bytesWorld w 5 a0) := bytes_below (Below.refl _ _) (Nat.le_refl _) _ a0
      obtain ⟨u, v, hc⟩ := Laid.s1 (Laid.below hL hb1)
      go_enter Tryd.func40, Tryd.ntmps40
      go_wp2_with (first | (go_at_call 48; (with_reducible refine (hin _).mono ?_); rintro e w' ⟨rfl, rfl⟩) | (go_at_call 49; (with_reducible refine (Tryd.strconv_toError_syntax _ a0 _ _ _ _ (by omega) hc (.inr ⟨u, v, rfl⟩)).mono ?_); rintro e w' ⟨N, rfl, _, _, hb⟩))
      go_ret2
      exact ⟨(_, _), rfl, hb1.trans (hb.mono hb1.size)⟩
  · cases h

end Go.Proofs.YtkhgbacbnkgafaaDoor.PFnFjReadBytes
