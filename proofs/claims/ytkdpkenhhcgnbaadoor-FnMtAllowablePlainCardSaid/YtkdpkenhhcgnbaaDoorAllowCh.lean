/- spec.Character and spec.UTF8 (law PFnMtAllowablePlain) come to an end at every text; a character told has one byte to four. -/
import Derived.Test.YtkdpkenhhcgnbaaDoorPFnMtAllowablePlainx2
import Derived.Test.YtkdpkenhhcgnbaaDoorStr
set_option linter.unusedVariables false
namespace Go.Proofs.YtkdpkenhhcgnbaaDoor.PFnMtAllowablePlain.ChA
open Go.RowKit Go.Proofs.YtkdpkenhhcgnbaaDoor.PFnMtAllowablePlain Go.Proofs.YtkdpkenhhcgnbaaDoorW.PrintWords Go.Proofs.YtkdpkenhhcgnbaaDoorW.PrintLast Go.Proofs.YtkdpkenhhcgnbaaDoor.EvL Go.Proofs.YtkdpkenhhcgnbaaDoor.StrL

theorem high_some (c : Int) : ∃ r, spec_high.f c = some r := by
  unfold spec_high.f
  repeat' split
  all_goals exact ⟨_, rfl⟩
theorem low_some (c : Int) : ∃ r, spec_low.f c = some r := by
  unfold spec_low.f
  repeat' split
  all_goals exact ⟨_, rfl⟩

/-- A character that is told has one byte to four. -/
def Few (r : Int × Int × Bool) : Prop := r.2.2 = true → 1 ≤ r.2.1 ∧ r.2.1 ≤ 4

section
variable (s : ByteArray) (hn : s.size ≤ 2147483647)

theorem l0_any (hn : s.size ≤ 2147483647) (a m least : Int) (h0 : 0 ≤ a) (hm1 : 1 ≤ m) (hm3 : m ≤ 3) (hin : a + m < s.size) : ∀ (d : Nat) (x7 i : Int), 1 ≤ i → m + 1 - i = d → EvP (fun k => spec_Character.l0 k s a x7 m least i) Few := by
  intro d
  induction d with
  | zero =>
    intro x7 i h1 hd
    refine EvP.succ ?_
    simp only [spec_Character.l0]
    have hno : Few (65533, 1, false) := fun h => by cases h
    refine EvP.neg (by omega) (EvP.ite (fun _ => EvP.ret _ hno) (fun _ => EvP.ite (fun _ => EvP.ret _ hno) (fun _ => ?_)))
    obtain ⟨r1, h1⟩ := high_some x7
    obtain ⟨r2, h2⟩ := low_some x7
    rw [h1, h2]
    simp only [Option.bind_some]
    rw [w64 (x := m + 1) (by omega) (by omega)]
    exact EvP.ite (fun _ => EvP.ret _ hno) (fun _ => EvP.ite (fun _ => EvP.ret _ hno) (fun _ => EvP.ret _ (fun _ => ⟨by simp only; omega, by simp only; omega⟩)))
  | succ d ih =>
    intro x7 i h1 hd
    refine EvP.succ ?_
    simp only [spec_Character.l0]
    have hno : Few (65533, 1, false) := fun h => by cases h
    rw [w64 (x := a + i) (by omega) (by omega), w64 (x := i + 1) (by omega) (by omega)]
    refine EvP.pos (by omega) (EvP.pos (by omega) (EvP.pos (by omega) (EvP.ite (fun _ => EvP.ret _ hno) (fun _ => EvP.ite (fun _ => EvP.ret _ hno) (fun _ => ?_)))))
    exact ih _ (i + 1) (by omega) (by omega)

theorem j2_any (hn : s.size ≤ 2147483647) (a m least x7 : Int) (h0 : 0 ≤ a) (ha : a < s.size) (hm1 : 1 ≤ m) (hm3 : m ≤ 3) : EvP (fun k => spec_Character.j2 k s a x7 m least) Few := by
  refine EvP.succ ?_
  simp only [spec_Character.j2]
  rw [w64 (x := (s.size : Int) - a) (by omega) (by omega)]
  exact EvP.ite (fun _ => EvP.ret _ (fun h => by cases h)) (fun _ => l0_any s hn a m least h0 hm1 hm3 (by omega) m.toNat x7 1 (by omega) (by omega))

theorem char_any (hn : s.size ≤ 2147483647) (a : Int) (h0 : 0 ≤ a) (ha : a < s.size) : EvP (fun k => spec_Character.f k s a) Few := by
  unfold spec_Character.f
  have hr := bt_range s a
  have hno : Few (65533, 1, false) := fun h => by cases h
  rw [w64 (x := bt s a) (by omega) (by omega)]
  have hj1 : ∀ v : Bool, EvP (fun k => spec_Character.j1 k s a (bt s a) v) Few := by
    intro v
    refine EvP.succ ?_
    simp only [spec_Character.j1]
    exact EvP.ite (fun _ => j2_any s hn a 2 2048 _ h0 ha (by omega) (by omega)) (fun _ => EvP.ite (fun _ => EvP.ite (fun _ => j2_any s hn a 3 65536 _ h0 ha (by omega) (by omega)) (fun _ => EvP.ret _ hno)) (fun _ => EvP.ret _ hno))
  have hj0 : ∀ v : Bool, EvP (fun k => spec_Character.j0 k s a (bt s a) v) Few := by
    intro v
    refine EvP.succ ?_
    simp only [spec_Character.j0]
    exact EvP.ite (fun _ => j2_any s hn a 1 128 _ h0 ha (by omega) (by omega)) (fun _ => EvP.ite (fun _ => hj1 _) (fun _ => hj1 _))
  refine EvP.pos h0 (EvP.pos ha (EvP.ite (fun _ => EvP.ret _ (fun _ => ⟨by simp only; omega, by simp only; omega⟩)) (fun _ => EvP.ite (fun _ => hj0 _) (fun _ => hj0 _))))

theorem utf8_l0 (hn : s.size ≤ 2147483647) : ∀ (d : Nat) (i : Int), 0 ≤ i → i ≤ s.size + 4 → (s.size : Int) + 4 - i ≤ d → EvP (fun k => spec_UTF8.l0 k s i) (fun _ => True) := by
  intro d
  induction d with
  | zero =>
    intro i h0 h1 hd
    refine EvP.succ ?_
    simp only [spec_UTF8.l0]
    exact EvP.neg (by omega) (EvP.ret _ trivial)
  | succ d ih =>
    intro i h0 h1 hd
    refine EvP.succ ?_
    simp only [spec_UTF8.l0]
    refine EvP.ite (fun h => ?_) (fun _ => EvP.ret _ trivial)
    refine EvP.bind (char_any s hn i h0 h) ?_
    intro r hr
    refine EvP.ite (fun hok => ?_) (fun _ => EvP.ret _ trivial)
    have := hr hok
    rw [w64 (by omega) (by omega)]
    exact ih _ (by omega) (by omega) (by omega)
theorem utf8_f (hn : s.size ≤ 2147483647) : EvP (fun k => spec_UTF8.f k s) (fun _ => True) := utf8_l0 s hn (s.size + 4) 0 (by omega) (by omega) (by omega)
end

end Go.Proofs.YtkdpkenhhcgnbaaDoor.PFnMtAllowablePlain.ChA
