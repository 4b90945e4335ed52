/- The walk of spec.Small (function 4): a text's bytes, each capital letter of ASCII turned to the small one in its place. What it comes to is told as a Lean function. -/
import Derived.Test.YtkdpkenhhcgnbaaXWords
import Derived.Test.YtkdpkenhhcgnbaaProg
set_option linter.unusedVariables false
namespace Go.Proofs.Ytkdpkenhhcgnbaa.SmallW
open Go.RowKit Go.Proofs.YtkdpkenhhcgnbaaW.PrintWords

def low (c : Int) : Int := if 65 ≤ c ∧ c ≤ 90 then c + 32 else c
def val (s : ByteArray) (k j : Nat) : Int := if j < k then low (bt s j) else bt s j

def natOf : Value → Nat
  | .int _ n => n.toNat
  | _ => 0

/-- k bytes are turned. -/
structure Inv (s : ByteArray) (w wr : World) (k : Nat) : Prop where
  below : Below w.heap.size w wr
  cell : ∀ j, j < s.size → wr.cell? ⟨w.heap.size, j, none⟩ = some (.int .u8 (val s k j))
  thaw : ∀ j, j < s.size → wr.frozen? ⟨w.heap.size, j, none⟩ = false

theorem conv_raw {P : Program} {ops : Array Oper} {rest : List Oper} {o : Oper} {a : Act} {Q : Exit → Act → World → Prop} {s : ByteArray} {src dst e : Nat} {W : World} (hgd : o.guard = none) {N : Tmp} (_hd : o.dst = some N) (x : Operand) (ho : o.op = .convert src dst x) (hx : a.eval x = .string s)
    (hsrc : P.underlying src = some .string) (hdst : P.underlying dst = some (.slice e)) (he : P.underlying e = some (.int .u8)) (hs : s.size ≤ 140737488355328)
    (h : ∀ w1, Inv s W w1 0 → wpList P ops Q rest (a.put o.dst (.slice (some ⟨W.heap.size, 0, none⟩) s.size (grownCap W s.size 0 e))) w1) :
    wpList P ops Q (o :: rest) a W := by
  have hge := grownCap_ge W s.size 0 e
  refine Kd.event_run (v := .slice (some ⟨W.heap.size, 0, none⟩) s.size (grownCap W s.size 0 e)) (w1 := Lib.bytesWorld W e s) hgd ?_ (h _ ⟨bytes_below (Below.refl _ _) (Nat.le_refl _) e s, fun j hj => ?_, fun j hj => ?_⟩)
  · simp [execOp, ho, hx, print_bytes (P := P) src dst e hsrc hdst he s W]
  · have hb := Lib.bytesWorld_at_new W e s
    have hd : s.data.size = s.size := rfl
    have e1 : (Lib.bytesCells W e s)[j]? = some (.int .u8 (bt s j)) := by
      rw [Lib.bytesCells, Array.getElem?_append_left (by simp; omega)]
      simp only [Array.getElem?_map]
      rw [Array.getElem?_eq_getElem (by omega)]
      simp only [Option.map_some]
      congr 2
      have hb2 := bt_at s (j : Int) (by simpa using hj)
      rw [← hb2]; rfl
    simp only [World.cell?, hb, e1, val, Nat.not_lt_zero, if_false]
    rfl
  · have hb := Lib.bytesWorld_at_new W e s
    have hd : s.data.size = s.size := rfl
    simp only [World.frozen?, hb]
    simp [Lib.bytesCells]; omega

theorem Inv.same {s : ByteArray} {w wr : World} {k : Nat} (h : Inv s w wr k) (hk : k < s.size) (hno : ¬ (65 ≤ bt s k ∧ bt s k ≤ 90)) : Inv s w wr (k + 1) := by
  refine ⟨h.below, fun j hj => ?_, h.thaw⟩
  rw [h.cell j hj]
  congr 2
  unfold val
  by_cases hjk : j = k
  · subst hjk
    rw [if_neg (by omega), if_pos (by omega)]
    unfold low; rw [if_neg hno]
  · by_cases hlt : j < k
    · rw [if_pos hlt, if_pos (by omega)]
    · rw [if_neg hlt, if_neg (by omega)]
theorem Inv.set {s : ByteArray} {w wr : World} {k : Nat} (h : Inv s w wr k) (hk : k < s.size) (hup : 65 ≤ bt s k ∧ bt s k ≤ 90) : Inv s w (wr.setCell ⟨w.heap.size, k, none⟩ (.int .u8 (bt s k + 32))) (k + 1) := by
  refine ⟨h.below.setCell (Nat.le_refl _) _, fun j hj => ?_, fun j hj => ?_⟩
  · by_cases hjk : j = k
    · subst hjk
      rw [World.cell?_setCell_same _ _ _ (h.cell j hj)]
      unfold val low
      rw [if_pos (by omega), if_pos hup]
    · rw [World.cell?_setCell_other _ _ _ _ (by intro e; injection e with _ e2; exact hjk e2.symm), h.cell j hj]
      congr 2
      unfold val
      by_cases hlt : j < k
      · rw [if_pos hlt, if_pos (by omega)]
      · rw [if_neg hlt, if_neg (by omega)]
  · have := h.thaw j hj
    simpa using this

set_option maxRecDepth 1000000 in
set_option maxHeartbeats 4000000 in
theorem calls (s : ByteArray) (hs : s.size ≤ 140737488355328) (w : World) :
    Calls Try.prog 4 #[.string s] w fun e w' => e = .returned (.string (strOfNums ((List.range s.size).map fun j : Nat => low (bt s (j : Int))))) ∧ Below w.heap.size w w' := by
  go_enter Try.func4, Try.ntmps4
  go_wp2_with (first | ((with_reducible refine gate_dst (N := 7) rfl ?_); refine conv_raw (s := s) (src := 9) (dst := 29) (e := 5) rfl (N := 7) rfl _ rfl rfl Try.underlying9 Try.underlying29 Try.underlying5 hs ?_; intro w1 hinv))
  go_loopw [10] (fun i wr => ∃ k : Nat, i = .int .i64 k ∧ k ≤ s.size ∧ Aside0 (Inv s w wr k)) (fun i _ => s.size - natOf i)
  case atStart => exact ⟨0, rfl, by omega, Aside0.mk hinv⟩
  case round =>
    obtain ⟨k, rfl, hk, HI⟩ := hrel
    by_cases hlt : k < s.size
    · have hc : wr.cell? ⟨w.heap.size, k, none⟩ = some (.int .u8 (bt s k)) := by
        rw [HI.out.cell k hlt]; unfold val; rw [if_neg (by omega)]
      have hf := HI.out.thaw k hlt
      by_cases hu : 65 ≤ bt s k ∧ bt s k ≤ 90
      · obtain ⟨hu1, hu2⟩ := hu
        go_wp2
        exact ⟨⟨k + 1, by simp, by omega, Aside0.mk (HI.out.set hlt ⟨hu1, hu2⟩)⟩, by simp [natOf]; omega⟩
      · go_wp2
        all_goals exact ⟨⟨k + 1, by simp, by omega, Aside0.mk (HI.out.same hlt hu)⟩, by simp [natOf]; omega⟩
    · have hke : k = s.size := by omega
      have hbel := HI.out.below
      have hstr : (convert 29 9 (.slice (some ⟨w.heap.size, 0, none⟩) s.size (grownCap w s.size 0 5))).run Try.prog wr = .ok (.string (strOfNums ((List.range s.size).map fun j : Nat => low (bt s (j : Int))))) wr := by
        refine run_convert_bytes_arg wr 29 5 Try.underlying29 Try.underlying5 w.heap.size 0 s.size _ _ (by simp) (fun i hi => ?_) 9 Try.underlying9
        have h1 := HI.out.cell i hi
        unfold val at h1
        rw [if_pos (by omega)] at h1
        rw [Nat.zero_add, h1]
        simp [List.getD_eq_getElem?_getD, hi]
      clear hlt hk
      subst hke
      have hst := Aside0.mk hbel
      clear hbel
      go_wp2
      go_ret
      exact ⟨rfl, hst.out⟩

end Go.Proofs.Ytkdpkenhhcgnbaa.SmallW
namespace Go.Proofs.Ytkdpkenhhcgnbaa.PFnGjResultLessFold
open Go.RowKit Go.Proofs.YtkdpkenhhcgnbaaW.PrintWords

def spec_Small.f (a0 : ByteArray) : Option ByteArray := if a0.size ≤ 140737488355328 then some (strOfNums ((List.range a0.size).map fun j : Nat => SmallW.low (bt a0 (j : Int)))) else none
theorem spec_Small.calls (a0 : ByteArray) (r : ByteArray) (w : World) (h : spec_Small.f a0 = some r) :
    Calls Try.prog 4 #[.string a0] w fun e w' => e = .returned (.string r) ∧ Below w.heap.size w w' := by
  unfold spec_Small.f at h
  split at h
  · rename_i hs
    obtain rfl := Option.some.inj h
    exact SmallW.calls a0 hs w
  · cases h

end Go.Proofs.Ytkdpkenhhcgnbaa.PFnGjResultLessFold
