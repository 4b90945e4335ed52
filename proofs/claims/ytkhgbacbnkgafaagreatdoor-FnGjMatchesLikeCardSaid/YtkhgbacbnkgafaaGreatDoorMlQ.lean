/- Plain laws of spec.Light and spec.Quote (law PFnGjMatchesLike): at most two stars; that a text's quoted form is told. -/
import Derived.Test.YtkhgbacbnkgafaaGreatDoorMlPl
set_option linter.unusedVariables false
namespace Go.Proofs.YtkhgbacbnkgafaaGreatDoor.PFnGjMatchesLike.Gb
open Go.RowKit Go.Proofs.YtkhgbacbnkgafaaGreatDoor.PFnGjMatchesLike Go.Proofs.YtkhgbacbnkgafaaGreatDoor.PFnGjMatchesLike.Uc Go.Proofs.YtkhgbacbnkgafaaGreatDoorW.PrintWords Go.Proofs.YtkhgbacbnkgafaaGreatDoorW.PrintLast Go.Proofs.YtkhgbacbnkgafaaGreatDoor.EvL Go.Proofs.YtkhgbacbnkgafaaGreatDoor.StrL

theorem light_l0 {s : ByteArray} (hn : s.size ≤ 2147483647) : ∀ (d : Nat) (a i : Int), 0 ≤ a → a ≤ i → i + (d : Int) = s.size →
    EvP (fun k => spec_Light.l0 k s a i) (fun r => r = true ↔ a + (stB ((ints s).drop i.toNat) : Int) ≤ 2)
  | 0, a, i, h0, h1, hd => by
    refine EvP.succ ?_
    simp only [spec_Light.l0]
    refine EvP.neg (by omega) (EvP.ret _ ?_)
    rw [List.drop_eq_nil_of_le (by rw [ints_length]; omega)]
    simp [stB]
  | d + 1, a, i, h0, h1, hd => by
    refine EvP.succ ?_
    simp only [spec_Light.l0]
    have hdr := drop_of_lt (s := s) (i := i) (by omega) (by omega)
    refine EvP.pos (by omega) (EvP.pos (by omega) (EvP.ite (fun hb => ?_) (fun hb => ?_)))
    · rw [w64 (x := a + 1) (by omega) (by omega), w64 (x := i + 1) (by omega) (by omega)]
      refine (light_l0 hn d (a + 1) (i + 1) (by omega) (by omega) (by omega)).mono (fun r hr => hr.trans ?_)
      rw [hdr]
      simp only [stB]
      rw [if_pos hb]
      omega
    · rw [w64 (x := i + 1) (by omega) (by omega)]
      refine (light_l0 hn d a (i + 1) (by omega) (by omega) (by omega)).mono (fun r hr => hr.trans ?_)
      rw [hdr]
      simp only [stB]
      rw [if_neg hb]
      omega
theorem light_f {s : ByteArray} (hn : s.size ≤ 2147483647) : EvP (fun k => spec_Light.f k s) (fun r => r = true ↔ stB (ints s) ≤ 2) := by
  unfold spec_Light.f
  refine (light_l0 hn s.size 0 0 (by omega) (by omega) (by omega)).mono (fun r hr => hr.trans ?_)
  rw [show (0 : Int).toNat = 0 from rfl, List.drop_zero]
  omega

theorem short_some (a : Int) : ∃ r, spec_shortOf.f a = some r := by
  unfold spec_shortOf.f
  repeat' split
  all_goals exact ⟨_, rfl⟩
theorem digit_some (a : Int) (b : Bool) : ∃ r, spec_digitOf.f a b = some r := by
  unfold spec_digitOf.f
  repeat' split
  all_goals exact ⟨_, rfl⟩
theorem quote_l0 {s : ByteArray} (hn : s.size ≤ 2147483647) : ∀ (d : Nat) (acc : List Int) (i : Int), 0 ≤ i → (acc.length : Int) ≤ 6 * i + 1 → i + (d : Int) = s.size →
    EvP (fun k => spec_Quote.l0 k s acc i) (fun _ => True)
  | 0, acc, i, h0, h1, hd => by
    refine EvP.succ ?_
    simp only [spec_Quote.l0]
    exact EvP.neg (by omega) (EvP.pos (by omega) (EvP.ret _ trivial))
  | d + 1, acc, i, h0, h1, hd => by
    have ih := fun acc' h => quote_l0 hn d acc' (i + 1) (by omega) h (by omega)
    have hj : ∀ (x6 : Int) (b : Bool), EvP (fun k => spec_Quote.j1 k s acc i (bt s i) x6 b) (fun _ => True) := by
      intro x6 b
      obtain ⟨q, hq⟩ := digit_some (wrap64 (Int.tmod (bt s i) 16)) false
      refine EvP.succ ?_
      simp only [spec_Quote.j1, hq, Option.bind_some]
      rw [w64 (x := i + 1) (by omega) (by omega)]
      refine EvP.ite (fun _ => EvP.pos (by simp only [List.length_cons, List.length_nil]; omega) (ih _ (by simp only [List.length_append, List.length_cons, List.length_nil]; omega))) (fun _ => EvP.ite (fun _ => EvP.pos (by simp only [List.length_cons, List.length_nil]; omega) (ih _ (by simp only [List.length_append, List.length_cons, List.length_nil]; omega))) (fun _ => EvP.pos (by omega) (ih _ (by simp only [List.length_append, List.length_cons, List.length_nil]; omega))))
    obtain ⟨q, hq⟩ := short_some (bt s i)
    refine EvP.succ ?_
    simp only [spec_Quote.l0, hq, Option.bind_some]
    exact EvP.pos (by omega) (EvP.pos (by omega) (EvP.ite (fun _ => hj _ _) (fun _ => hj _ _)))
theorem quote_f {s : ByteArray} (hn : s.size ≤ 2147483647) : EvP (fun k => spec_Quote.f k s) (fun _ => True) := by
  unfold spec_Quote.f
  exact quote_l0 hn s.size [34] 0 (by omega) (by simp) (by omega)

/-- What the law's own reading of text and pattern tells. -/
theorem told_f (s p : ByteArray) (h0 : s.size ≤ 2147483647) (h1 : p.size ≤ 2147483647) : EvP (fun k => laws_mtTold.f k s p) (fun r => r.2 = true → s.size ≤ 4096 ∧ p.size ≤ 4096 ∧ ∃ cs ts, Txt (ints s) cs ∧ Gl (ints p) ts ∧ (r.1 = true ↔ M ts cs)) := by
  unfold laws_mtTold.f
  refine EvP.ite (fun _ => EvP.ret _ (fun h => by cases h)) (fun c1 => EvP.ite (fun _ => EvP.ret _ (fun h => by cases h)) (fun c2 => EvP.bind (matches_f s p (by omega) (by omega)) (fun r hr => EvP.ret _ (fun h => ?_))))
  rcases hr with ⟨_, hr⟩ | ⟨hr, _⟩
  · exact ⟨by omega, by omega, hr⟩
  · dsimp only at h; rw [hr] at h; cases h

/-- What match.matchTrimSuffix leaves. -/
theorem trim_f {s p : ByteArray} {cs pb : List Int} {ts : List S56} (h0 : s.size ≤ 2147483647) (h1 : p.size ≤ 2147483647) (ht : Txt (ints s) cs) (hp : ints p = 42 :: pb) (hg : Gl pb ts) :
    EvP (fun k => match_matchTrimSuffix.f k s p false) (Told s p ts cs) := by
  unfold match_matchTrimSuffix.f
  exact trim_l0 s.size s p cs pb ts (Nat.le_refl _) h0 h1 ht hp hg

end Go.Proofs.YtkhgbacbnkgafaaGreatDoor.PFnGjMatchesLike.Gb
