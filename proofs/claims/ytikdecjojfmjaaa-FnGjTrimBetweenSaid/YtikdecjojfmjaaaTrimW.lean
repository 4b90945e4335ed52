/- The walk of gjson's trim (function 38): two labels to which it jumps back. What it comes to is told as a Lean function. -/
import Derived.Test.YtikdecjojfmjaaaProg
import Derived.Test.YtikdecjojfmjaaaWMore
import Derived.WalkMore
import Derived.ScopeJumps
namespace Go.Proofs.Ytikdecjojfmjaaa.TrimW
open Go.RowKit Go.Proofs.YtikdecjojfmjaaaW.PrintWords

/-- As Q; by a goto to label 0 or 1: J0, J1. -/
def jumps (J0 J1 : Act → World → Prop) (Q : Exit → Act → World → Prop) : Exit → Act → World → Prop
  | .goto 0, a, w => J0 a w
  | .goto 1, a, w => J1 a w
  | .goto _, _, _ => False
  | e, a, w => Q e a w

theorem jumps_ret {J0 J1 : Act → World → Prop} {Q : Exit → Act → World → Prop} {a : Act} {w : World} : jumps J0 J1 Q .ret a w = Q .ret a w := rfl
theorem bt_first (s : ByteArray) (h : 0 < s.size) : ((s[0]'h).toNat : Int) = bt s 0 := bt_at s 0 h
theorem bt_last (s : ByteArray) (h : 0 < s.size) : ((s[s.size - 1]'(by omega)).toNat : Int) = bt s ((s.size : Int) - 1) := by
  have e : ((s.size : Int) - 1).toNat = s.size - 1 := by omega
  unfold bt
  rw [dif_pos (by omega)]
  simp only [e]

theorem wp_scope_two {P : Program} {a : Act} {w : World} {Q : Exit → Act → World → Prop} {c : Code} (r0 r1 : Code) (J0 J1 : Act → World → Prop) (μ : Act → World → Nat) (hf0 : findLabel c 0 = some r0) (hf1 : findLabel c 1 = some r1)
    (first : c.wp P (jumps J0 J1 Q) a w)
    (pass0 : ∀ a w, J0 a w → r0.wp P (jumps (fun a' w' => J0 a' w' ∧ μ a' w' < μ a w) (fun a' w' => J1 a' w' ∧ μ a' w' < μ a w) Q) a w)
    (pass1 : ∀ a w, J1 a w → r1.wp P (jumps (fun _ _ => False) (fun a' w' => J1 a' w' ∧ μ a' w' < μ a w) Q) a w) : (Code.scope c).wp P Q a w := by
  intro b k cs
  have hg0 : gotoIn 0 (.inScope c :: k) = some (.code r0 :: .inScope c :: k) := by simp [gotoIn, hf0]
  have hg1 : gotoIn 1 (.inScope c :: k) = some (.code r1 :: .inScope c :: k) := by simp [gotoIn, hf1]
  have key : ∀ n a w, μ a w = n → (J0 a w → ∃ e a' w', Q e a' w' ∧ Arrives P (lone (b.at a (.code r0 :: .inScope c :: k)) cs w) b k cs e a' w') ∧ (J1 a w → ∃ e a' w', Q e a' w' ∧ Arrives P (lone (b.at a (.code r1 :: .inScope c :: k)) cs w) b k cs e a' w') := by
    intro n
    induction n using Nat.strongRecOn with
    | _ n ih =>
      intro a w hn
      constructor
      · intro hJ
        obtain ⟨e, a₁, w₁, hq, harr⟩ := pass0 a w hJ b (.inScope c :: k) cs
        cases e with
        | normal => exact ⟨.normal, a₁, w₁, hq, Steps.trans harr (.one step_inScope)⟩
        | exit id => exact ⟨.exit id, a₁, w₁, hq, fun k' hk => harr k' (by simp [exitTo, hk])⟩
        | goto l' =>
          match l', hq, harr with
          | 0, hq, harr =>
            obtain ⟨hJ', hlt⟩ := hq
            obtain ⟨e₂, a₂, w₂, hq₂, harr₂⟩ := (ih _ (by omega) a₁ w₁ rfl).1 hJ'
            exact ⟨e₂, a₂, w₂, hq₂, .of_steps (harr _ hg0) harr₂⟩
          | 1, hq, harr =>
            obtain ⟨hJ', hlt⟩ := hq
            obtain ⟨e₂, a₂, w₂, hq₂, harr₂⟩ := (ih _ (by omega) a₁ w₁ rfl).2 hJ'
            exact ⟨e₂, a₂, w₂, hq₂, .of_steps (harr _ hg1) harr₂⟩
          | (n + 2), hq, _ => exact hq.elim
        | ret => exact ⟨_, a₁, w₁, hq, harr⟩
        | panic ch => exact ⟨_, a₁, w₁, hq, harr⟩
        | outgrown => exact ⟨_, a₁, w₁, hq, harr⟩
      · intro hJ
        obtain ⟨e, a₁, w₁, hq, harr⟩ := pass1 a w hJ b (.inScope c :: k) cs
        cases e with
        | normal => exact ⟨.normal, a₁, w₁, hq, Steps.trans harr (.one step_inScope)⟩
        | exit id => exact ⟨.exit id, a₁, w₁, hq, fun k' hk => harr k' (by simp [exitTo, hk])⟩
        | goto l' =>
          match l', hq, harr with
          | 0, hq, _ => exact hq.elim
          | 1, hq, harr =>
            obtain ⟨hJ', hlt⟩ := hq
            obtain ⟨e₂, a₂, w₂, hq₂, harr₂⟩ := (ih _ (by omega) a₁ w₁ rfl).2 hJ'
            exact ⟨e₂, a₂, w₂, hq₂, .of_steps (harr _ hg1) harr₂⟩
          | (n + 2), hq, _ => exact hq.elim
        | ret => exact ⟨_, a₁, w₁, hq, harr⟩
        | panic ch => exact ⟨_, a₁, w₁, hq, harr⟩
        | outgrown => exact ⟨_, a₁, w₁, hq, harr⟩
  obtain ⟨e, a₁, w₁, hq, harr⟩ := first b (.inScope c :: k) cs
  cases e with
  | normal => exact ⟨.normal, a₁, w₁, hq, .head step_scope (Steps.trans harr (.one step_inScope))⟩
  | exit id => exact ⟨.exit id, a₁, w₁, hq, fun k' hk => .head step_scope (harr k' (by simp [exitTo, hk]))⟩
  | goto l' =>
    match l', hq, harr with
    | 0, hq, harr =>
      obtain ⟨e₂, a₂, w₂, hq₂, harr₂⟩ := (key _ a₁ w₁ rfl).1 hq
      exact ⟨e₂, a₂, w₂, hq₂, .of_steps (.head step_scope (harr _ hg0)) harr₂⟩
    | 1, hq, harr =>
      obtain ⟨e₂, a₂, w₂, hq₂, harr₂⟩ := (key _ a₁ w₁ rfl).2 hq
      exact ⟨e₂, a₂, w₂, hq₂, .of_steps (.head step_scope (harr _ hg1)) harr₂⟩
    | (n + 2), hq, _ => exact hq.elim
  | ret => exact ⟨_, a₁, w₁, hq, .of_steps (.one step_scope) harr⟩
  | panic ch => exact ⟨_, a₁, w₁, hq, .of_steps (.one step_scope) harr⟩
  | outgrown => exact ⟨_, a₁, w₁, hq, .of_steps (.one step_scope) harr⟩

def leftN : Nat → ByteArray → ByteArray
  | 0, s => s
  | n + 1, s => if 0 < s.size then (if bt s 0 ≤ 32 then leftN n (s.extract 1 s.size) else s) else s
def rightN : Nat → ByteArray → ByteArray
  | 0, s => s
  | n + 1, s => if 0 < s.size then (if bt s ((s.size : Int) - 1) ≤ 32 then rightN n (s.extract 0 (s.size - 1)) else s) else s
def left (s : ByteArray) : ByteArray := leftN s.size s
def right (s : ByteArray) : ByteArray := rightN s.size s

theorem left_yes {s : ByteArray} (h : 0 < s.size) (hb : bt s 0 ≤ 32) : left (s.extract 1 s.size) = left s := by
  unfold left
  obtain ⟨n, hn⟩ : ∃ n, s.size = n + 1 := ⟨s.size - 1, by omega⟩
  rw [show (s.extract 1 s.size).size = n from by simp; omega, show leftN s.size s = leftN (n + 1) s from by rw [← hn], leftN, if_pos h, if_pos hb]
theorem left_no {s : ByteArray} (h : ¬ (0 < s.size ∧ bt s 0 ≤ 32)) : left s = s := by
  unfold left
  cases hs : s.size with
  | zero => rfl
  | succ n =>
    rw [leftN, if_pos (by omega), if_neg (fun hb => h ⟨by omega, hb⟩)]
theorem right_yes {s : ByteArray} (h : 0 < s.size) (hb : bt s ((s.size : Int) - 1) ≤ 32) : right (s.extract 0 (s.size - 1)) = right s := by
  unfold right
  obtain ⟨n, hn⟩ : ∃ n, s.size = n + 1 := ⟨s.size - 1, by omega⟩
  rw [show (s.extract 0 (s.size - 1)).size = n from by simp; omega, show rightN s.size s = rightN (n + 1) s from by rw [← hn], rightN, if_pos h, if_pos hb]
theorem right_no {s : ByteArray} (h : ¬ (0 < s.size ∧ bt s ((s.size : Int) - 1) ≤ 32)) : right s = s := by
  unfold right
  cases hs : s.size with
  | zero => rfl
  | succ n =>
    rw [hs] at h
    rw [rightN, if_pos (by omega), if_neg (fun hb => h ⟨by omega, by simpa [hs] using hb⟩)]

def frame (s : ByteArray) (a : Act) : Prop := ∃ u1 u2 u3 u4 u5 u6 u7 u8 u9 u10 u11 u12 u13 u14 u15 u16 u17 u18 u19 u20 u21 u22 u23 u24 u25 u26 u27 u28 u29 : Value,
  a = { tmps := #[.string s, u1, u2, u3, u4, u5, u6, u7, u8, u9, u10, u11, u12, u13, u14, u15, u16, u17, u18, u19, u20, u21, u22, u23, u24, u25, u26, u27, u28, u29], defers := [] }

def sizeOf0 (a : Act) : Nat := match a.tmps.getD 0 undef with | .string s => s.size | _ => 0

theorem frame_size {s : ByteArray} {a : Act} (h : frame s a) : sizeOf0 a = s.size := by
  obtain ⟨_, _, _, _, _, _, _, _, _, _, _, _, _, _, _, _, _, _, _, _, _, _, _, _, _, _, _, _, _, rfl⟩ := h
  rfl

theorem sub1 {s : ByteArray} (h : 0 < s.size) : (s.extract 1 s.size).size < s.size := by simp; omega
theorem sub2 {s : ByteArray} (h : 0 < s.size) : (s.extract 0 (s.size - 1)).size < s.size := by simp; omega

def J0 (a0 : ByteArray) (w : World) (a : Act) (w' : World) : Prop := w' = w ∧ ∃ s, frame s a ∧ s.size ≤ 140737488351232 ∧ left s = left a0
def J1 (a0 : ByteArray) (w : World) (a : Act) (w' : World) : Prop := w' = w ∧ ∃ s, frame s a ∧ s.size ≤ 140737488351232 ∧ right s = right (left a0)

set_option maxRecDepth 1000000 in
set_option maxHeartbeats 1000000 in
theorem calls (a0 : ByteArray) (h0 : a0.size ≤ 140737488351232) (w : World) :
    Calls Try.prog 38 #[.string a0] w fun e w' => e = .returned (.string (right (left a0))) ∧ w' = w := by
  go_enter Try.func38, Try.ntmps38
  go_wp2
  refine wp_scope_two ?r0 ?r1 (J0 a0 w) (J1 a0 w) (fun a _ => sizeOf0 a) ?hf0 ?hf1 ?first ?pass0 ?pass1
  case hf0 => rfl
  case hf1 => rfl
  case first =>
    by_cases hz : 0 < a0.size
    · have hx := bt_first a0 hz
      go_wp2
      go_step3
      go_wp2
      · rename_i hc
        have hb : bt a0 0 ≤ 32 := hc
        go_step3
        show J0 a0 _ _ _
        exact ⟨rfl, a0.extract 1 a0.size, ⟨_, _, _, _, _, _, _, _, _, _, _, _, _, _, _, _, _, _, _, _, _, _, _, _, _, _, _, _, _, rfl⟩, Nat.le_trans (Nat.le_of_lt (sub1 hz)) h0, left_yes hz hb⟩
      · rename_i hc
        have hb : ¬ bt a0 0 ≤ 32 := by omega
        have her := (show right a0 = right (left a0) from by rw [left_no (fun h => hb h.2)])
        have HER := Aside0.mk her
        clear her
        go_step3
        have hx1 := bt_last a0 hz
        have hz1 := hz
        go_wp2
        · rename_i hc
          have hb1 : bt a0 ((a0.size : Int) - 1) ≤ 32 := hc
          go_step3
          show J1 a0 _ _ _
          exact ⟨rfl, a0.extract 0 (a0.size - 1), ⟨_, _, _, _, _, _, _, _, _, _, _, _, _, _, _, _, _, _, _, _, _, _, _, _, _, _, _, _, _, rfl⟩, Nat.le_trans (Nat.le_of_lt (sub2 hz1)) h0, (right_yes hz1 hb1).trans HER.out⟩
        · rename_i hc
          have hb1 : ¬ bt a0 ((a0.size : Int) - 1) ≤ 32 := by omega
          rw [jumps_ret]
          go_ret
          exact ⟨by rw [← HER.out, right_no (fun h => hb1 h.2)]; rfl, rfl⟩
    · have her := (show right a0 = right (left a0) from by rw [left_no (fun h => hz h.1)])
      have HER := Aside0.mk her
      clear her
      go_wp2
      go_step3
      go_wp2
      go_step3
      have hz1 := hz
      go_wp2
      rw [jumps_ret]
      go_ret
      exact ⟨by rw [← HER.out, right_no (fun h => hz1 h.1)]; rfl, rfl⟩
  case pass0 =>
    rintro a w' ⟨rfl, s, ⟨u1, u2, u3, u4, u5, u6, u7, u8, u9, u10, u11, u12, u13, u14, u15, u16, u17, u18, u19, u20, u21, u22, u23, u24, u25, u26, u27, u28, u29, rfl⟩, hs, hl⟩
    have HL := Aside0.mk hl
    clear hl
    by_cases hz : 0 < s.size
    · have hx := bt_first s hz
      go_wp2
      · rename_i hc
        have hb : bt s 0 ≤ 32 := hc
        go_step3
        show J0 a0 _ _ _ ∧ sizeOf0 _ < sizeOf0 _
        exact ⟨⟨rfl, s.extract 1 s.size, ⟨_, _, _, _, _, _, _, _, _, _, _, _, _, _, _, _, _, _, _, _, _, _, _, _, _, _, _, _, _, rfl⟩, Nat.le_trans (Nat.le_of_lt (sub1 hz)) hs, (left_yes hz hb).trans HL.out⟩, sub1 hz⟩
      · rename_i hc
        have hb : ¬ bt s 0 ≤ 32 := by omega
        have her := (show right s = right (left a0) from by rw [← HL.out, left_no (fun h => hb h.2)])
        have HER := Aside0.mk her
        clear her
        go_step3
        have hx1 := bt_last s hz
        have hz1 := hz
        go_wp2
        · rename_i hc
          have hb1 : bt s ((s.size : Int) - 1) ≤ 32 := hc
          go_step3
          show J1 a0 _ _ _ ∧ sizeOf0 _ < sizeOf0 _
          exact ⟨⟨rfl, s.extract 0 (s.size - 1), ⟨_, _, _, _, _, _, _, _, _, _, _, _, _, _, _, _, _, _, _, _, _, _, _, _, _, _, _, _, _, rfl⟩, Nat.le_trans (Nat.le_of_lt (sub2 hz1)) hs, (right_yes hz1 hb1).trans HER.out⟩, sub2 hz1⟩
        · rename_i hc
          have hb1 : ¬ bt s ((s.size : Int) - 1) ≤ 32 := by omega
          rw [jumps_ret]
          go_ret
          exact ⟨by rw [← HER.out, right_no (fun h => hb1 h.2)]; rfl, rfl⟩
    · have her := (show right s = right (left a0) from by rw [← HL.out, left_no (fun h => hz h.1)])
      have HER := Aside0.mk her
      clear her
      go_wp2
      go_step3
      have hz1 := hz
      go_wp2
      rw [jumps_ret]
      go_ret
      exact ⟨by rw [← HER.out, right_no (fun h => hz1 h.1)]; rfl, rfl⟩
  case pass1 =>
    rintro a w' ⟨rfl, s, ⟨u1, u2, u3, u4, u5, u6, u7, u8, u9, u10, u11, u12, u13, u14, u15, u16, u17, u18, u19, u20, u21, u22, u23, u24, u25, u26, u27, u28, u29, rfl⟩, hs, hl⟩
    have HL := Aside0.mk hl
    clear hl
    by_cases hz : 0 < s.size
    · skip
      have hx1 := bt_last s hz
      have hz1 := hz
      go_wp2
      · rename_i hc
        have hb1 : bt s ((s.size : Int) - 1) ≤ 32 := hc
        go_step3
        show J1 a0 _ _ _ ∧ sizeOf0 _ < sizeOf0 _
        exact ⟨⟨rfl, s.extract 0 (s.size - 1), ⟨_, _, _, _, _, _, _, _, _, _, _, _, _, _, _, _, _, _, _, _, _, _, _, _, _, _, _, _, _, rfl⟩, Nat.le_trans (Nat.le_of_lt (sub2 hz1)) hs, (right_yes hz1 hb1).trans HL.out⟩, sub2 hz1⟩
      · rename_i hc
        have hb1 : ¬ bt s ((s.size : Int) - 1) ≤ 32 := by omega
        rw [jumps_ret]
        go_ret
        exact ⟨by rw [← HL.out, right_no (fun h => hb1 h.2)]; rfl, rfl⟩
    · skip
      have hz1 := hz
      go_wp2
      rw [jumps_ret]
      go_ret
      exact ⟨by rw [← HL.out, right_no (fun h => hz1 h.1)]; rfl, rfl⟩

end Go.Proofs.Ytikdecjojfmjaaa.TrimW
namespace Go.Proofs.Ytikdecjojfmjaaa.PFnGjTrimBetween
open Go.RowKit Go.Proofs.YtikdecjojfmjaaaW.PrintWords

def gjson_trim.f (a0 : ByteArray) : Option ByteArray := if a0.size ≤ 140737488351232 then some (TrimW.right (TrimW.left a0)) else none
theorem gjson_trim.calls (a0 : ByteArray) (r : ByteArray) (w : World) (h : gjson_trim.f a0 = some r) :
    Calls Try.prog 38 #[.string a0] w fun e w' => e = .returned (.string r) ∧ Drawn0 w w' := by
  unfold gjson_trim.f at h
  split at h
  · rename_i hs
    obtain rfl := Option.some.inj h
    refine (TrimW.calls a0 hs w).mono ?_
    rintro e w' ⟨rfl, rfl⟩
    exact ⟨rfl, Drawn0.refl _⟩
  · cases h

end Go.Proofs.Ytikdecjojfmjaaa.PFnGjTrimBetween
