/- jsonparser.Unescape (function 94): of a text with a backslash, no room given. -/
import Derived.Test.YtfmllmlloekojaaDoorEscMake
set_option linter.unusedVariables false
namespace Go.Proofs.YtfmllmlloekojaaDoor.PFnJrPath
open Go Go.RowKit Go.Proofs.YtfmllmlloekojaaDoorW.PrintWords Go.Proofs.YtfmllmlloekojaaDoor.LaidL Go.Proofs.YtfmllmlloekojaaDoor.Esc
variable {E : ErrTab}

def jsonparser_Unescape.f (l0 l1 : List Int) : Option (List Int × Option Int) :=
  if l1 = [] ∧ suf l0 ≠ [] ∧ l0.length ≤ 140737488355328 then
    (match unesc false false l0 with
      | none => some ([], some 10)
      | some ys => some (ys, none))
  else none

theorem unescape_some (l : List Int) (h : (92 : Int) ∈ l) (hl : l.length ≤ 140737488355328) : ∃ r, jsonparser_Unescape.f l [] = some r := by
  have hs : suf l ≠ [] := by
    intro e
    have hp := pre_suf l
    rw [e, List.append_nil] at hp
    rw [← hp] at h
    have := List.all_eq_true.1 (List.all_takeWhile (l := l) (p := noBs)) _ h
    exact absurd this (by decide)
  unfold jsonparser_Unescape.f
  rw [if_pos ⟨rfl, hs, hl⟩]
  cases unesc false false l with
  | none => exact ⟨_, rfl⟩
  | some ys => exact ⟨_, rfl⟩

theorem R_of_row {g c base : Nat} {L ys : List Int} {w : World} (hr : RowIs g L w) (hg : base ≤ g) (hl : L.length = c) (hc : c ≤ maxLen) (hy : ys.length ≤ c) (ht : L.take ys.length = ys) :
    Kd.R (Kd.int .u8) 5 w base (fun _ => True) (.slice (some ⟨g, 0, none⟩) ys.length c) ys := by
  refine Kd.R_of_own (enc := Value.int .u8) (h1 := fun _ => rfl) ?_ (fun _ _ => trivial)
  refine ⟨by simp [encs], .inr ⟨g, c, (L.map (Value.int .u8)).toArray, rfl, hg, hr, hy, hc, by simp [hl], ?_⟩⟩
  rw [Nat.mul_one, List.toList_toArray, ← List.map_take, ht]
  rfl

theorem post_none {q u : Bool} {xs : List Int} {w w' : World} {e : Ending} (h : unesc q u xs = none) (hp : CfgPost E q u xs w e w') : Below w.heap.size w w' ∧ e = .returned (.tuple #[.slice none 0 0, errE E (some 10)]) := by
  obtain ⟨h1, h2⟩ := hp
  rw [h] at h2
  exact ⟨h1, h2⟩
theorem post_some {q u : Bool} {xs ys : List Int} {w w' : World} {e : Ending} (h : unesc q u xs = some ys) (hp : CfgPost E q u xs w e w') : Below w.heap.size w w' ∧ ∃ v, e = .returned (.tuple #[v, .nilIface]) ∧ Kd.R (Kd.int .u8) 5 w' w.heap.size (fun _ => True) v ys := by
  obtain ⟨h1, h2⟩ := hp
  rw [h] at h2
  obtain ⟨g, c, hg, rfl, hy, hc, L, hr, hl, ht⟩ := h2
  exact ⟨h1, _, rfl, R_of_row hr hg hl hc hy ht⟩

set_option maxHeartbeats 4000000 in
theorem jsonparser_Unescape.calls (A0 : Option Addr) (c0 : Nat) (l0 : List Int) (A1 : Option Addr) (c1 : Nat) (l1 : List Int) (r1 : List Int) (r2 : Option Int) (w : World) (hL : Laid E w) (hr0 : Kd.C (Kd.int .u8) w A0 l0.length l0) (hc0 : l0.length ≤ c0) (hr1 : Kd.C (Kd.int .u8) w A1 l1.length l1) (hc1 : c1 ≤ l1.length) (h : jsonparser_Unescape.f l0 l1 = some (r1, r2)) :
    Calls Tryd.prog 94 #[.slice A0 l0.length c0, .slice A1 l1.length c1] w fun e w' => ∃ v0_ : Value, e = .returned (.tuple #[v0_, errE E r2]) ∧ Kd.R (Kd.int .u8) 5 w' w.heap.size (fun _ => True) v0_ r1 ∧ Below w.heap.size w w' := by
  unfold jsonparser_Unescape.f at h
  split at h
  · rename_i hh
    obtain ⟨rfl, hs, hbd⟩ := hh
    obtain rfl : c1 = 0 := by simpa using hc1
    have g0 := hL.g13_0
    have g1 := hL.g13_1
    have g2 := hL.g13_2
    have HM := Lib.hid (cfg_make (E := E) false false 0 A0 A1 c0 l0 w hL hs hr0 hc0 hbd)
    cases hu : unesc false false l0 with
    | none =>
      rw [hu] at h
      have HU := Lib.hid hu
      simp only [Option.some.injEq, Prod.mk.injEq] at h
      obtain ⟨rfl, rfl⟩ := h
      clear hr0 hr1 hc1 hs hu
      rw [List.length_nil]
      go_enter Tryd.func94, Tryd.ntmps94
      go_wp2_with (go_at_call 112; (refine HM.out.mono ?_); rintro e w1 hp; obtain ⟨hb, rfl⟩ := post_none HU.out hp; have HBL := Lib.hid hb; clear hp hb)
      go_ret2
      exact ⟨_, rfl, Kd.R_nil _ _ _ _ _, HBL.out⟩
    | some ys =>
      rw [hu] at h
      have HU := Lib.hid hu
      simp only [Option.some.injEq, Prod.mk.injEq] at h
      obtain ⟨rfl, rfl⟩ := h
      clear hr0 hr1 hc1 hs hu
      rw [List.length_nil]
      go_enter Tryd.func94, Tryd.ntmps94
      go_wp2_with (go_at_call 112; (refine HM.out.mono ?_); rintro e w1 hp; obtain ⟨hb, v, rfl, hR⟩ := post_some HU.out hp; have HBL := Lib.hid hb; have HRR := Lib.hid hR; clear hp hb hR)
      go_ret2
      exact ⟨_, rfl, HRR.out, HBL.out⟩
  · cases h

end Go.Proofs.YtfmllmlloekojaaDoor.PFnJrPath
