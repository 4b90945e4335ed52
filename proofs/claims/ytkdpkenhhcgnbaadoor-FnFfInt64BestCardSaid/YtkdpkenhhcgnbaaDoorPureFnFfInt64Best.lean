/- ParseInt64BestEffort gives what ParseInt64 gives, and 0 where that gives an error (texts of at most 1000 bytes). No condition beyond the statement's own guards. -/
import Derived.Test.YtkdpkenhhcgnbaaDoorPFnFfInt64Bestx2
import Derived.Test.YtkdpkenhhcgnbaaDoorStr
set_option linter.unusedVariables false
namespace Go.Proofs.YtkdpkenhhcgnbaaDoor.Pure
open Go.RowKit Go.Proofs.YtkdpkenhhcgnbaaDoor.PFnFfInt64Best Go.Proofs.YtkdpkenhhcgnbaaDoorW.PrintWords Go.Proofs.YtkdpkenhhcgnbaaDoorW.PrintLast Go.Proofs.YtkdpkenhhcgnbaaDoor.EvL Go.Proofs.YtkdpkenhhcgnbaaDoor.StrL

namespace I64

/-- What the library's own reader gives: none for an error. -/
def slow (s : ByteArray) : Option Int := match Lib.parseIntB 64 s.data.toList with
  | .ok v => some v
  | _ => none
def tail (s : ByteArray) (i : Int) (m : Bool) (d j : Int) : Option Int :=
  if i ≤ j then none else if i < s.size then none else some (if m = true then wrap64 (-d) else d)
def go (s : ByteArray) (m : Bool) (j : Int) : Nat → Int → Int → Option Int
  | 0, i, d => tail s i m d j
  | n + 1, i, d => if i < s.size ∧ 48 ≤ bt s i ∧ bt s i ≤ 57 then (if i + 1 > 18 then slow s else go s m j n (i + 1) (wrap64 (wrap64 (d * 10) + (bt s i - 48) % 256))) else tail s i m d j

/-- A number, or an error. -/
def Told (want : Option Int) (r : Int × Option Int) : Prop := (r.2.isNone = true ∧ want = some r.1) ∨ (r.2.isNone = false ∧ want = none)
def Best (want : Option Int) (r : Int) : Prop := r = want.getD 0

theorem told_none (n : Int) (c : Int) : Told none (n, some c) := .inr ⟨rfl, rfl⟩
theorem told_some (n : Int) : Told (some n) (n, none) := .inl ⟨rfl, rfl⟩

theorem slow_f (s : ByteArray) (hn : s.size ≤ 1000) : ∃ r, strconv_ParseInt_61.f s 10 64 = some r ∧ Told (slow s) r := by
  unfold strconv_ParseInt_61.f slow
  rw [if_pos ⟨rfl, rfl, by omega⟩]
  cases Lib.parseIntB 64 s.data.toList with
  | ok v => exact ⟨_, rfl, told_some v⟩
  | «syntax» => exact ⟨_, rfl, told_none _ _⟩
  | range => exact ⟨_, rfl, told_none _ _⟩

section
variable (s : ByteArray) (hn : s.size ≤ 1000) (m : Bool) (j : Int)

theorem a3 (hn : s.size ≤ 1000) (i d : Int) (h0 : 0 ≤ i) : EvP (fun k => fastfloat_ParseInt64.j3 k s i m d j) (Told (tail s i m d j)) := by
  refine EvP.succ ?_
  simp only [fastfloat_ParseInt64.j3, errors_New.f, Option.bind_some, u64w (x := (s.size : Int)) (by omega) (by omega)]
  unfold tail
  refine EvP.ite (fun h => EvP.ret _ (by rw [if_pos h]; exact told_none _ _)) (fun h1 => EvP.ite (fun h => EvP.ret _ (by rw [if_neg h1, if_pos h]; exact told_none _ _)) (fun h2 => ?_))
  rw [if_neg h1, if_neg h2]
  exact EvP.ite (fun h => EvP.ret _ (by rw [if_pos h]; exact told_some _)) (fun h => EvP.ret _ (by rw [if_neg h]; exact told_some _))
theorem b3 (hn : s.size ≤ 1000) (i d : Int) (h0 : 0 ≤ i) : EvP (fun k => fastfloat_ParseInt64BestEffort.j3 k s i m d j) (Best (tail s i m d j)) := by
  refine EvP.succ ?_
  simp only [fastfloat_ParseInt64BestEffort.j3, u64w (x := (s.size : Int)) (by omega) (by omega)]
  unfold tail
  refine EvP.ite (fun h => EvP.ret _ (by rw [if_pos h]; rfl)) (fun h1 => EvP.ite (fun h => EvP.ret _ (by rw [if_neg h1, if_pos h]; rfl)) (fun h2 => ?_))
  rw [if_neg h1, if_neg h2]
  exact EvP.ite (fun h => EvP.ret _ (by rw [if_pos h]; rfl)) (fun h => EvP.ret _ (by rw [if_neg h]; rfl))

theorem a0 (hn : s.size ≤ 1000) : ∀ (n : Nat) (i d : Int), 0 ≤ i → (s.size : Int) - i ≤ n → EvP (fun k => fastfloat_ParseInt64.l0 k s i m d j) (Told (go s m j n i d)) := by
  intro n
  induction n with
  | zero =>
    intro i d h0 hd
    refine EvP.succ ?_
    simp only [fastfloat_ParseInt64.l0, u64w (x := (s.size : Int)) (by omega) (by omega)]
    exact EvP.neg (by omega) (a3 s m j hn i d h0)
  | succ n ih =>
    intro i d h0 hd
    refine EvP.succ ?_
    simp only [fastfloat_ParseInt64.l0, u64w (x := (s.size : Int)) (by omega) (by omega)]
    unfold go
    have hend : ∀ h : ¬ (i < (s.size : Int) ∧ 48 ≤ bt s i ∧ bt s i ≤ 57), EvP (fun k => fastfloat_ParseInt64.j3 k s i m d j) (Told (if i < (s.size : Int) ∧ 48 ≤ bt s i ∧ bt s i ≤ 57 then (if i + 1 > 18 then slow s else go s m j n (i + 1) (wrap64 (wrap64 (d * 10) + (bt s i - 48) % 256))) else tail s i m d j)) := fun h => by
      rw [if_neg h]; exact a3 s m j hn i d h0
    refine EvP.ite (fun hlt => ?_) (fun h => hend (fun c => h c.1))
    have hj2 : ∀ v : Bool, (v = true ↔ 48 ≤ bt s i ∧ bt s i ≤ 57) → EvP (fun k => fastfloat_ParseInt64.j2 k s i m d j v) (Told (if i < (s.size : Int) ∧ 48 ≤ bt s i ∧ bt s i ≤ 57 then (if i + 1 > 18 then slow s else go s m j n (i + 1) (wrap64 (wrap64 (d * 10) + (bt s i - 48) % 256))) else tail s i m d j)) := by
      intro v hv
      refine EvP.succ ?_
      simp only [fastfloat_ParseInt64.j2, u64w (x := i + 1) (by omega) (by omega)]
      refine EvP.ite (fun h => ?_) (fun h => hend (fun c => h (hv.2 c.2)))
      rw [if_pos ⟨hlt, hv.1 h⟩]
      refine EvP.pos h0 (EvP.pos hlt (EvP.ite (fun h18 => ?_) (fun h18 => ?_)))
      · rw [if_pos h18]
        obtain ⟨r, hr, ht⟩ := slow_f s hn
        rw [hr]
        simp only [Option.bind_some]
        refine EvP.ite (fun hz => EvP.ret _ ?_) (fun hz => EvP.ret _ ?_)
        · rcases ht with ht | ht
          · rw [ht.2]; exact told_some _
          · rw [ht.1] at hz; cases hz
        · rcases ht with ht | ht
          · exact absurd ht.1 hz
          · rw [ht.2]; exact told_none _ _
      · rw [if_neg h18]
        exact ih (i + 1) _ (by omega) (by omega)
    refine EvP.pos h0 (EvP.pos hlt (EvP.ite (fun h => hj2 _ (by simp; omega)) (fun h => hj2 _ (by simp; omega))))

theorem b0 (hn : s.size ≤ 1000) : ∀ (n : Nat) (i d : Int), 0 ≤ i → (s.size : Int) - i ≤ n → EvP (fun k => fastfloat_ParseInt64BestEffort.l0 k s i m d j) (Best (go s m j n i d)) := by
  intro n
  induction n with
  | zero =>
    intro i d h0 hd
    refine EvP.succ ?_
    simp only [fastfloat_ParseInt64BestEffort.l0, u64w (x := (s.size : Int)) (by omega) (by omega)]
    exact EvP.neg (by omega) (b3 s m j hn i d h0)
  | succ n ih =>
    intro i d h0 hd
    refine EvP.succ ?_
    simp only [fastfloat_ParseInt64BestEffort.l0, u64w (x := (s.size : Int)) (by omega) (by omega)]
    unfold go
    have hend : ∀ h : ¬ (i < (s.size : Int) ∧ 48 ≤ bt s i ∧ bt s i ≤ 57), EvP (fun k => fastfloat_ParseInt64BestEffort.j3 k s i m d j) (Best (if i < (s.size : Int) ∧ 48 ≤ bt s i ∧ bt s i ≤ 57 then (if i + 1 > 18 then slow s else go s m j n (i + 1) (wrap64 (wrap64 (d * 10) + (bt s i - 48) % 256))) else tail s i m d j)) := fun h => by
      rw [if_neg h]; exact b3 s m j hn i d h0
    refine EvP.ite (fun hlt => ?_) (fun h => hend (fun c => h c.1))
    have hj2 : ∀ v : Bool, (v = true ↔ 48 ≤ bt s i ∧ bt s i ≤ 57) → EvP (fun k => fastfloat_ParseInt64BestEffort.j2 k s i m d j v) (Best (if i < (s.size : Int) ∧ 48 ≤ bt s i ∧ bt s i ≤ 57 then (if i + 1 > 18 then slow s else go s m j n (i + 1) (wrap64 (wrap64 (d * 10) + (bt s i - 48) % 256))) else tail s i m d j)) := by
      intro v hv
      refine EvP.succ ?_
      simp only [fastfloat_ParseInt64BestEffort.j2, u64w (x := i + 1) (by omega) (by omega)]
      refine EvP.ite (fun h => ?_) (fun h => hend (fun c => h (hv.2 c.2)))
      rw [if_pos ⟨hlt, hv.1 h⟩]
      refine EvP.pos h0 (EvP.pos hlt (EvP.ite (fun h18 => ?_) (fun h18 => ?_)))
      · rw [if_pos h18]
        obtain ⟨r, hr, ht⟩ := slow_f s hn
        rw [hr]
        simp only [Option.bind_some]
        refine EvP.ite (fun hz => EvP.ret _ ?_) (fun hz => EvP.ret _ ?_)
        · rcases ht with ht | ht
          · rw [ht.2]; rfl
          · rw [ht.1] at hz; cases hz
        · rcases ht with ht | ht
          · exact absurd ht.1 hz
          · rw [ht.2]; rfl
      · rw [if_neg h18]
        exact ih (i + 1) _ (by omega) (by omega)
    refine EvP.pos h0 (EvP.pos hlt (EvP.ite (fun h => hj2 _ (by simp; omega)) (fun h => hj2 _ (by simp; omega))))
end

def want (s : ByteArray) : Option Int :=
  if s.size = 0 then none else if bt s 0 = 45 then (if s.size ≤ 1 then none else go s (bt s 0 == 45) 1 s.size 1 0) else go s (bt s 0 == 45) 0 s.size 0 0

theorem int_f (s : ByteArray) (hn : s.size ≤ 1000) : EvP (fun k => fastfloat_ParseInt64.f k s) (Told (want s)) := by
  unfold fastfloat_ParseInt64.f want
  simp only [errors_New.f, Option.bind_some, u64w (x := (s.size : Int)) (by omega) (by omega)]
  refine EvP.ite (fun h => EvP.ret _ (by rw [if_pos (by omega)]; exact told_none _ _)) (fun h => ?_)
  rw [if_neg (by omega)]
  refine EvP.pos (by omega) (EvP.ite (fun h45 => ?_) (fun h45 => ?_))
  · rw [if_pos h45]
    refine EvP.ite (fun h1 => EvP.ret _ (by rw [if_pos (by omega)]; exact told_none _ _)) (fun h1 => ?_)
    rw [if_neg (by omega)]
    refine EvP.succ ?_
    simp only [fastfloat_ParseInt64.j0]
    exact a0 s _ 1 hn s.size 1 0 (by omega) (by omega)
  · rw [if_neg h45]
    refine EvP.succ ?_
    simp only [fastfloat_ParseInt64.j0]
    exact a0 s _ 0 hn s.size 0 0 (by omega) (by omega)
theorem best_f (s : ByteArray) (hn : s.size ≤ 1000) : EvP (fun k => impl_FfInt64Best.f k s) (Best (want s)) := by
  unfold impl_FfInt64Best.f
  refine EvP.bind (Q := Best (want s)) ?_ (fun r hr => EvP.ret _ hr)
  unfold fastfloat_ParseInt64BestEffort.f want
  simp only [u64w (x := (s.size : Int)) (by omega) (by omega)]
  refine EvP.ite (fun h => EvP.ret _ (by rw [if_pos (by omega)]; rfl)) (fun h => ?_)
  rw [if_neg (by omega)]
  refine EvP.pos (by omega) (EvP.ite (fun h45 => ?_) (fun h45 => ?_))
  · rw [if_pos h45]
    refine EvP.ite (fun h1 => EvP.ret _ (by rw [if_pos (by omega)]; rfl)) (fun h1 => ?_)
    rw [if_neg (by omega)]
    refine EvP.succ ?_
    simp only [fastfloat_ParseInt64BestEffort.j0]
    exact b0 s _ 1 hn s.size 1 0 (by omega) (by omega)
  · rw [if_neg h45]
    refine EvP.succ ?_
    simp only [fastfloat_ParseInt64BestEffort.j0]
    exact b0 s _ 0 hn s.size 0 0 (by omega) (by omega)

theorem want_seven : want (⟨#[45, 55]⟩ : ByteArray) = some (-7) := by decide +kernel

end I64

open I64 in
theorem FnFfInt64Best : laws_FnFfInt64Best.Pure := by
  intro s _
  apply EvP.told
  unfold laws_FnFfInt64Best.f
  refine EvP.ite (fun _ => EvP.ret _ rfl) (fun _ => EvP.ite (fun _ => EvP.ret _ rfl) (fun hn => ?_))
  have hn' : s.size ≤ 1000 := by omega
  have h7 : EvP (fun k => (impl_FfInt64Best.f k (⟨#[45, 55]⟩ : ByteArray)).bind fun t174 => (some (t174 == (-7)))) (fun r => r = true) := by
    refine EvP.bind (best_f (⟨#[45, 55]⟩ : ByteArray) (by decide)) ?_
    intro r hr
    unfold Best at hr
    rw [want_seven] at hr
    exact EvP.ret _ (by rw [hr]; rfl)
  unfold impl_FfInt64.f
  refine EvP.bind (Q := fun r => (r.2 = true ∧ want s = some r.1) ∨ (r.2 = false ∧ want s = none)) ?_ ?_
  · refine EvP.bind (int_f s hn') ?_
    intro r hr
    rcases hr with hr | hr
    · exact EvP.pos hr.1 (EvP.ret _ (.inl ⟨rfl, hr.2⟩))
    · exact EvP.neg (by rw [hr.1]; simp) (EvP.ret _ (.inr ⟨rfl, hr.2⟩))
  · intro r hr
    rcases hr with hr | hr
    · refine EvP.pos hr.1 (EvP.bind (best_f s hn') ?_)
      intro q hq
      unfold Best at hq
      rw [hr.2] at hq
      exact EvP.pos hq h7
    · refine EvP.neg (by rw [hr.1]; simp) (EvP.bind (best_f s hn') ?_)
      intro q hq
      unfold Best at hq
      rw [hr.2] at hq
      exact EvP.pos hq h7

end Go.Proofs.YtkdpkenhhcgnbaaDoor.Pure
