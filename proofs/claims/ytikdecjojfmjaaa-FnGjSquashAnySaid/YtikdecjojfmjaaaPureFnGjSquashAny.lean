/- For every text that begins with a bracket, a brace, a parenthesis or a quotation mark (at most 2^12 bytes), whatever its other bytes, the squash that gjson makes of it is a beginning of the text, one byte at least. No condition beyond the statement's own guards. -/
import Derived.Test.YtikdecjojfmjaaaPFnGjSquashAnyx2
import Derived.Test.YtikdecjojfmjaaaEv
namespace Go.Proofs.Ytikdecjojfmjaaa.Pure
open Go.RowKit Go.Proofs.Ytikdecjojfmjaaa.PFnGjSquashAny Go.Proofs.YtikdecjojfmjaaaW.PrintWords Go.Proofs.YtikdecjojfmjaaaW.PrintLast Go.Proofs.Ytikdecjojfmjaaa.EvL

namespace Squash

def Pre (s r : ByteArray) : Prop := ∃ m : Nat, 1 ≤ m ∧ m ≤ s.size ∧ r = s.extract 0 m

theorem pre_all (s : ByteArray) (h : 1 ≤ s.size) : Pre s s := ⟨s.size, h, Nat.le_refl _, by simp⟩

theorem pre_cut (s : ByteArray) (i : Int) (h0 : 0 ≤ i) (h1 : i < s.size) : Pre s (s.extract 0 (i + 1).toNat) :=
  ⟨(i + 1).toNat, by omega, by omega, rfl⟩

/-- What stands to be shown of the outer loop from some place on. -/
def Out (s : ByteArray) (x : Int) : Prop := ∀ x4 : Int, EvP (fun k => gjson_squash.l0 k s x x4) (Pre s)

theorem j5_any (s : ByteArray) (hn : s.size ≤ 2147483647) (x3 x4 : Int) (h0 : 1 ≤ x3) (h1 : x3 ≤ s.size) (ho : Out s (x3 + 1)) :
    EvP (fun k => gjson_squash.j5 k s x3 x4) (Pre s) := by
  refine EvP.succ ?_
  simp only [gjson_squash.j5]
  rw [w64 (by omega) (by omega)]
  refine EvP.ite (fun _ => ?_) (fun _ => ho x4)
  refine EvP.ite (fun _ => EvP.ret _ (pre_all s (by omega))) (fun h => ?_)
  refine EvP.pos (by omega) (EvP.pos (by omega) (EvP.ret _ ?_))
  exact pre_cut s x3 (by omega) (by omega)

theorem l2_any (s : ByteArray) (hn : s.size ≤ 2147483647) (x3 x4 x5 : Int) (h5 : 1 ≤ x5) (h53 : x5 ≤ x3) (h3 : x3 < s.size)
    (ho : Out s (x3 + 1)) (hl : EvP (fun k => gjson_squash.l1 k s (x3 + 1) x4 x5) (Pre s)) (d : Nat) :
    ∀ x6 x7 : Int, x7 < x3 → x5 - 1 ≤ x7 + 1 → -1 ≤ x7 → x7 - (x5 - 1) + 1 = d → EvP (fun k => gjson_squash.l2 k s x3 x4 x5 x6 x7) (Pre s) := by
  have hj := j5_any s hn x3 x4 (by omega) (by omega) ho
  induction d with
  | zero =>
    intro x6 x7 h7 h75 h70 hd
    refine EvP.succ ?_
    simp only [gjson_squash.l2]
    rw [w64 (x := x5 - 1) (by omega) (by omega), w64 (x := x3 + 1) (by omega) (by omega)]
    refine EvP.neg (by omega) (EvP.ite (fun _ => hl) (fun _ => hj))
  | succ d ih =>
    intro x6 x7 h7 h75 h70 hd
    refine EvP.succ ?_
    simp only [gjson_squash.l2]
    rw [w64 (x := x5 - 1) (by omega) (by omega), w64 (x := x3 + 1) (by omega) (by omega), w64 (x := x7 - 1) (by omega) (by omega)]
    refine EvP.ite (fun h => ?_) (fun _ => EvP.ite (fun _ => hl) (fun _ => hj))
    refine EvP.pos (by omega) (EvP.pos (by omega) ?_)
    refine EvP.ite (fun _ => ih _ _ (by omega) (by omega) (by omega) (by omega)) (fun _ => EvP.ite (fun _ => hl) (fun _ => hj))

theorem l1_any (s : ByteArray) (hn : s.size ≤ 2147483647) (x4 x5 : Int) (h5 : 1 ≤ x5) (d : Nat) :
    ∀ x3 : Int, x5 ≤ x3 → x3 ≤ s.size → (s.size : Int) - x3 = d → (∀ y : Int, x3 < y → y ≤ s.size + 1 → Out s y) → EvP (fun k => gjson_squash.l1 k s x3 x4 x5) (Pre s) := by
  induction d with
  | zero =>
    intro x3 h53 h3 hd ho
    refine EvP.succ ?_
    simp only [gjson_squash.l1]
    refine EvP.neg (by omega) ?_
    exact j5_any s hn x3 x4 (by omega) (by omega) (ho _ (by omega) (by omega))
  | succ d ih =>
    intro x3 h53 h3 hd ho
    have hl := ih (x3 + 1) (by omega) (by omega) (by omega) (fun y hy => ho y (by omega))
    have hj := j5_any s hn x3 x4 (by omega) (by omega) (ho _ (by omega) (by omega))
    refine EvP.succ ?_
    simp only [gjson_squash.l1]
    rw [w64 (x := x3 + 1) (by omega) (by omega), w64 (x := x3 - 1) (by omega) (by omega), w64 (x := x3 - 2) (by omega) (by omega)]
    refine EvP.pos (by omega) (EvP.pos (by omega) ?_)
    refine EvP.ite (fun _ => hl) (fun _ => EvP.ite (fun _ => ?_) (fun _ => hl))
    refine EvP.pos (by omega) (EvP.pos (by omega) ?_)
    refine EvP.ite (fun _ => ?_) (fun _ => hj)
    by_cases h : x5 = x3
    · exact l2_any s hn x3 x4 x5 h5 h53 (by omega) (ho _ (by omega) (by omega)) hl 0 _ _ (by omega) (by omega) (by omega) (by omega)
    · exact l2_any s hn x3 x4 x5 h5 h53 (by omega) (ho _ (by omega) (by omega)) hl (x3 - 2 - (x5 - 1) + 1).toNat _ _ (by omega) (by omega) (by omega) (by omega)

theorem j7_any (s : ByteArray) (hn : s.size ≤ 2147483647) (x3 x4 : Int) (b : Bool) (h0 : 0 ≤ x3) (h1 : x3 < s.size) (ho : Out s (x3 + 1)) :
    EvP (fun k => gjson_squash.j7 k s x3 x4 b) (Pre s) := by
  refine EvP.succ ?_
  simp only [gjson_squash.j7]
  rw [w64 (x := x3 + 1) (by omega) (by omega)]
  refine EvP.ite (fun _ => EvP.ite (fun _ => ?_) (fun _ => ho _)) (fun _ => ho _)
  exact EvP.pos (by omega) (EvP.pos (by omega) (EvP.ret _ (pre_cut s x3 (by omega) (by omega))))

theorem j6_any (s : ByteArray) (hn : s.size ≤ 2147483647) (x3 x4 x29 : Int) (b : Bool) (h0 : 0 ≤ x3) (h1 : x3 < s.size) (ho : Out s (x3 + 1)) :
    EvP (fun k => gjson_squash.j6 k s x3 x4 x29 b) (Pre s) := by
  refine EvP.succ ?_
  simp only [gjson_squash.j6]
  rw [w64 (x := x3 + 1) (by omega) (by omega)]
  refine EvP.ite (fun _ => ho _) (fun _ => EvP.ite (fun _ => ?_) (fun _ => EvP.ite (fun _ => ?_) (fun _ => ?_))) <;> exact j7_any s hn _ _ _ h0 h1 ho

theorem j2_any (s : ByteArray) (hn : s.size ≤ 2147483647) (x3 x4 : Int) (b : Bool) (h0 : 0 ≤ x3) (h1 : x3 < s.size) (ho : ∀ y : Int, x3 < y → y ≤ s.size + 1 → Out s y) :
    EvP (fun k => gjson_squash.j2 k s x3 x4 b) (Pre s) := by
  have h6 := fun (x29 : Int) (b : Bool) => j6_any s hn x3 x4 x29 b h0 h1 (ho _ (by omega) (by omega))
  refine EvP.succ ?_
  simp only [gjson_squash.j2]
  rw [w64 (x := x3 + 1) (by omega) (by omega)]
  refine EvP.ite (fun _ => ?_) (fun _ => ho _ (by omega) (by omega) _)
  refine EvP.pos (by omega) (EvP.pos (by omega) ?_)
  refine EvP.ite (fun _ => ?_) (fun _ => EvP.ite (fun _ => h6 _ _) (fun _ => EvP.ite (fun _ => h6 _ _) (fun _ => h6 _ _)))
  exact l1_any s hn x4 (x3 + 1) (by omega) ((s.size : Int) - (x3 + 1)).toNat (x3 + 1) (by omega) (by omega) (by omega) (fun y hy => ho y (by omega))

theorem l0_any (s : ByteArray) (hn : s.size ≤ 2147483647) (h1 : 1 ≤ s.size) (d : Nat) : ∀ x3 : Int, 0 ≤ x3 → x3 ≤ s.size + 1 → (s.size : Int) + 1 - x3 < d → Out s x3 := by
  induction d with
  | zero => intro x3 h0 h1 hd; omega
  | succ d ih =>
    intro x3 h0 h3 hd x4
    refine EvP.succ ?_
    simp only [gjson_squash.l0]
    refine EvP.ite (fun _ => ?_) (fun _ => EvP.ret _ (pre_all s h1))
    have h2 := fun b => j2_any s hn x3 x4 b h0 (by omega) (fun y hy hy2 => ih y (by omega) hy2 (by omega))
    exact EvP.pos h0 (EvP.ite (fun _ => h2 _) (fun _ => h2 _))

theorem f_any (s : ByteArray) (hn : s.size ≤ 2147483647) (h1 : 1 ≤ s.size) : EvP (fun k => gjson_squash.f k s) (Pre s) := by
  have h0 : ∀ x : Int, 0 ≤ x → x ≤ 1 → Out s x := fun x h0 h2 => l0_any s hn h1 (s.size + 2) x h0 (by omega) (by omega)
  unfold gjson_squash.f
  refine EvP.pos (by omega) (EvP.ite (fun _ => ?_) (fun _ => ?_))
  · refine EvP.succ ?_
    simp only [gjson_squash.j0]
    exact h0 0 (by omega) (by omega) 0
  · refine EvP.succ ?_
    simp only [gjson_squash.j0]
    exact h0 1 (by omega) (by omega) 1

theorem impl_any (s : ByteArray) (hn : s.size ≤ 2147483647) (h1 : 1 ≤ s.size) : EvP (fun k => impl_GjSquash.f k s) (Pre s) := by
  unfold impl_GjSquash.f gjson_DoorSquash.f
  exact EvP.bind (EvP.bind (f_any s hn h1) (fun a ha => EvP.ret a ha)) (fun a ha => EvP.ret a ha)

theorem arm {s : ByteArray} (hn : s.size ≤ 2147483647) (h1 : 1 ≤ s.size) :
    EvP (fun k => (impl_GjSquash.f k s).bind fun t103 => (if t103.toList = ([] : List UInt8) then (some false) else (if (t103.size : Int) ≤ (s.size : Int) then (if 0 ≤ (t103.size : Int) then (some (t103.toList == (s.extract 0 ((t103.size : Int) : Int).toNat).toList)) else (none)) else (some false)))) (fun r => r = true) := by
  refine EvP.bind (impl_any s hn h1) ?_
  rintro a ⟨m, hm1, hm2, rfl⟩
  have hs : (s.extract 0 m).size = m := by simp; omega
  refine EvP.neg ?_ (EvP.pos (by omega) (EvP.pos (by omega) (EvP.ret _ ?_)))
  · intro h
    have := congrArg List.length h
    rw [toList_len, hs] at this
    simp at this
    omega
  · rw [hs]; simp

end Squash

theorem FnGjSquashAny : laws_FnGjSquashAny.Pure := by
  intro s _
  apply EvP.told
  unfold laws_FnGjSquashAny.f
  refine EvP.ite (fun _ => EvP.ret _ rfl) (fun hn => ?_)
  have hn' : s.size ≤ 2147483647 := by omega
  have hj : ∀ b, (b = false → 1 ≤ s.size) → EvP (fun k => laws_FnGjSquashAny.j0 k s b) (fun r => r = true) := by
    intro b hb
    refine EvP.succ ?_
    simp only [laws_FnGjSquashAny.j0]
    refine EvP.ite (fun _ => EvP.ret _ rfl) (fun h => ?_)
    have h1 : 1 ≤ s.size := hb (by simpa using h)
    refine EvP.pos (by omega) ?_
    refine EvP.ite (fun _ => Squash.arm hn' h1) (fun _ => EvP.ite (fun _ => Squash.arm hn' h1) (fun _ => EvP.ite (fun _ => Squash.arm hn' h1) (fun _ => EvP.ite (fun _ => Squash.arm hn' h1) (fun _ => EvP.ret _ rfl))))
  refine EvP.ite (fun _ => hj _ (by simp)) (fun h => hj _ (fun _ => ?_))
  have : s.toList.length ≠ 0 := fun e => h (List.eq_nil_of_length_eq_zero e)
  rw [toList_len] at this
  omega

end Go.Proofs.Ytikdecjojfmjaaa.Pure
