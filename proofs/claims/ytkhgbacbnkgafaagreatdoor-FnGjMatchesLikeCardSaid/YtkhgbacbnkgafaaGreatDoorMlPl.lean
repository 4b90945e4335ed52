/- What patterns say, step by step (for match.match). -/
import Derived.Test.YtkhgbacbnkgafaaGreatDoorMlLp
import Derived.Shelf.Unicode.DecodeSlow
set_option linter.unusedVariables false
namespace Go.Proofs.YtkhgbacbnkgafaaGreatDoor.PFnGjMatchesLike.Gb
open Go.RowKit Go.Proofs.YtkhgbacbnkgafaaGreatDoor.PFnGjMatchesLike Go.Proofs.YtkhgbacbnkgafaaGreatDoor.PFnGjMatchesLike.Uc Go.Proofs.YtkhgbacbnkgafaaGreatDoorW.PrintWords Go.Proofs.YtkhgbacbnkgafaaGreatDoorW.PrintLast Go.Proofs.YtkhgbacbnkgafaaGreatDoor.EvL Go.Proofs.YtkhgbacbnkgafaaGreatDoor.StrL

theorem Txt.uniq : ∀ (d : Nat) (l cs ds : List Int), l.length ≤ d → Txt l cs → Txt l ds → cs = ds := by
  intro d
  induction d with
  | zero =>
    intro l cs ds hd h1 h2
    obtain rfl : l = [] := List.eq_nil_of_length_eq_zero (by omega)
    rw [h1.nil_inv, h2.nil_inv]
  | succ d ih =>
    intro l cs ds hd h1 h2
    by_cases he : l = []
    · subst he; rw [h1.nil_inv, h2.nil_inv]
    · obtain ⟨c, n, cs', e1, rfl, k1⟩ := h1.head he
      obtain ⟨c2, n2, ds', e2, rfl, k2⟩ := h2.head he
      rw [e1] at e2
      injection e2 with e2; injection e2 with e2 e3
      subst e2; subst e3
      have hn : 1 ≤ n := by
        cases h1 with
        | @cons x t c2 cs2 hx ht =>
          have h3 := dec_of hx (t := t)
          rw [h3] at e1
          injection e1 with e1; injection e1 with e1 e4
          rw [← e4]
          exact (Ch.len hx).1
      have hpos : 0 < l.length := List.length_pos_iff.2 he
      rw [ih (l.drop n) cs' ds' (by rw [List.length_drop]; omega) k1 k2]

theorem dec_pos {l : List Int} {c : Int} {n : Nat} (h : dec l = some (c, n)) (hb : ∀ b ∈ l, 0 ≤ b) : 1 ≤ n := by
  obtain ⟨x, t, _, hx, rfl⟩ := of_dec hb h
  exact (Ch.len hx).1

theorem Gl.uniq : ∀ (d : Nat) (l : List Int) (ts us : List S56), l.length ≤ d → (∀ b ∈ l, 0 ≤ b) → Gl l ts → Gl l us → ts = us := by
  intro d
  induction d with
  | zero =>
    intro l cs ds hd hb h1 h2
    obtain rfl : l = [] := List.eq_nil_of_length_eq_zero (by omega)
    rw [h1.nil_inv, h2.nil_inv]
  | succ d ih =>
    intro l ts us hd hb h1 h2
    by_cases he : l = []
    · subst he; rw [h1.nil_inv, h2.nil_inv]
    · obtain ⟨c, n, e1, k1⟩ := h1.head he
      obtain ⟨c2, n2, e2, k2⟩ := h2.head he
      have hn := dec_pos e1 hb
      rw [e1] at e2
      injection e2 with e2; injection e2 with e2 e3
      subst e2; subst e3
      have hpos : 0 < l.length := List.length_pos_iff.2 he
      have hbd : ∀ b ∈ l.drop n, 0 ≤ b := fun b h => hb b (List.mem_of_mem_drop h)
      have key : ∀ a b, Gl (l.drop n) a → Gl (l.drop n) b → a = b := fun a b => ih (l.drop n) a b (by rw [List.length_drop]; omega) hbd
      rcases k1 with ⟨q, ts', rfl, k1⟩ | ⟨q, ts', rfl, k1⟩ | ⟨q, c3, n3, ts', e3, rfl, k1⟩ | ⟨q1, q2, q3, ts', rfl, k1⟩ <;>
      rcases k2 with ⟨r, us', rfl, k2⟩ | ⟨r, us', rfl, k2⟩ | ⟨r, c4, n4, us', e4, rfl, k2⟩ | ⟨r1, r2, r3, us', rfl, k2⟩ <;>
      first
        | (exfalso; omega)
        | (rw [key _ _ k1 k2])
        | skip
      rw [e3] at e4
      injection e4 with e4; injection e4 with e4 e5
      subst e4; subst e5
      rw [ih ((l.drop n).drop n3) ts' us' (by rw [List.length_drop, List.length_drop]; omega) (fun b h => hbd b (List.mem_of_mem_drop h)) k1 k2]

theorem Txt.len {l cs : List Int} (h : Txt l cs) : cs.length ≤ l.length := by
  induction h with
  | nil => simp
  | cons hx _ ih => have := Ch.len hx; rw [List.length_cons, List.length_append]; omega
theorem Gl.len {l : List Int} {ts : List S56} (h : Gl l ts) : ts.length ≤ l.length := by
  induction h with
  | nil => simp
  | star _ ih => simp only [List.length_cons]; omega
  | one _ ih => simp only [List.length_cons]; omega
  | esc hx _ ih => simp only [List.length_cons, List.length_append]; omega
  | lit hx _ _ _ _ ih => have := Ch.len hx; simp only [List.length_cons, List.length_append]; omega

theorem Gl.star_inv {l : List Int} {ts : List S56} (h : Gl (42 :: l) ts) : ∃ ts', ts = ⟨true, false, 0⟩ :: ts' ∧ Gl l ts' := by
  obtain ⟨c, n, e, k⟩ := h.head (by simp)
  have h2 := dec_of (ch_ascii 42 (by omega) (by omega)) (t := l)
  rw [List.singleton_append, e] at h2
  injection h2 with h2; injection h2 with h2 h3
  subst h2; subst h3
  rcases k with ⟨_, ts', rfl, k⟩ | ⟨h, _⟩ | ⟨h, _⟩ | ⟨h, _⟩
  · exact ⟨ts', rfl, k⟩
  · omega
  · omega
  · exact absurd rfl h

/-- What spec.Matches tells. -/
theorem matches_f (s p : ByteArray) (hs : s.size ≤ 2147483647) (hp : p.size ≤ 2147483647) : EvP (fun k => spec_Matches.f k s p) (fun r => (r.2 = true ∧ ∃ cs ts, Txt (ints s) cs ∧ Gl (ints p) ts ∧ (r.1 = true ↔ M ts cs)) ∨
    (r.2 = false ∧ ((∀ cs, ¬ Txt (ints s) cs) ∨ ∀ ts, ¬ Gl (ints p) ts))) := by
  unfold spec_Matches.f
  refine EvP.bind (chars_f s hs) (fun a ha => EvP.bind (globs_f p hp) (fun b hb => EvP.ite (fun h1 => EvP.ite (fun h2 => ?_) (fun h2 => ?_)) (fun h1 => ?_)))
  · obtain ⟨_, ht⟩ := ha.resolve_right (fun h => by rw [h.1] at h1; cases h1)
    obtain ⟨_, hg⟩ := hb.resolve_right (fun h => by rw [h.1] at h2; cases h2)
    have k1 := ht.len
    have k2 := hg.len
    rw [ints_length] at k1 k2
    exact EvP.bind (fits_f a.1 (by omega) b.1 (by omega)) (fun t htt => EvP.ret _ (.inl ⟨rfl, _, _, ht, hg, htt⟩))
  · refine EvP.ret _ (.inr ⟨rfl, .inr (hb.resolve_left (fun h => h2 h.1)).2⟩)
  · refine EvP.ret _ (.inr ⟨rfl, .inl (ha.resolve_left (fun h => h1 h.1)).2⟩)


/-! ### steps -/
theorem M_nil {cs : List Int} : M [] cs ↔ cs = [] := by
  constructor
  · intro h; cases h; rfl
  · rintro rfl; exact .nil
theorem M_star {ts : List S56} {cs : List Int} : M (⟨true, false, 0⟩ :: ts) cs ↔ ∃ a b, cs = a ++ b ∧ M ts b := by
  constructor
  · intro h
    cases h with
    | star hs h => exact ⟨_, _, rfl, h⟩
    | step hs _ _ => cases hs
  · rintro ⟨a, b, rfl, h⟩
    exact .star rfl h
theorem M_star_all (cs : List Int) : M [⟨true, false, 0⟩] cs := M_star.2 ⟨cs, [], by simp, .nil⟩
theorem M_star_nil {ts : List S56} : M (⟨true, false, 0⟩ :: ts) [] ↔ M ts [] := by
  rw [M_star]
  constructor
  · rintro ⟨a, b, h, k⟩
    obtain ⟨rfl, rfl⟩ := List.append_eq_nil_iff.1 h.symm
    exact k
  · intro h; exact ⟨[], [], rfl, h⟩
theorem M_star_cons {ts : List S56} {c : Int} {cs : List Int} : M (⟨true, false, 0⟩ :: ts) (c :: cs) ↔ M ts (c :: cs) ∨ M (⟨true, false, 0⟩ :: ts) cs := by
  constructor
  · intro h
    obtain ⟨a, b, e, k⟩ := M_star.1 h
    cases a with
    | nil => rw [List.nil_append] at e; exact .inl (e ▸ k)
    | cons x a =>
      rw [List.cons_append] at e
      injection e with _ e
      exact .inr (M_star.2 ⟨a, b, e, k⟩)
  · rintro (h | h)
    · exact M_star.2 ⟨[], _, rfl, h⟩
    · obtain ⟨a, b, e, k⟩ := M_star.1 h
      exact M_star.2 ⟨c :: a, b, by rw [e]; rfl, k⟩
theorem M_star_star {ts : List S56} {cs : List Int} : M (⟨true, false, 0⟩ :: ⟨true, false, 0⟩ :: ts) cs ↔ M (⟨true, false, 0⟩ :: ts) cs := by
  constructor
  · intro h
    obtain ⟨a, b, rfl, k⟩ := M_star.1 h
    obtain ⟨a2, b2, rfl, k2⟩ := M_star.1 k
    exact M_star.2 ⟨a ++ a2, b2, by rw [List.append_assoc], k2⟩
  · intro h; exact M_star.2 ⟨[], cs, rfl, h⟩
theorem M_step {t : S56} {ts : List S56} {c : Int} {cs : List Int} (hs : t.f0 = false) : M (t :: ts) (c :: cs) ↔ fit t c ∧ M ts cs := by
  constructor
  · intro h
    generalize hx : c :: cs = x at h
    cases h with
    | star h0 _ => rw [hs] at h0; cases h0
    | step _ hf h => injection hx with h1 h2; subst h1; subst h2; exact ⟨hf, h⟩
  · rintro ⟨h1, h2⟩; exact .step hs h1 h2
theorem M_step_nil {t : S56} {ts : List S56} (hs : t.f0 = false) : ¬ M (t :: ts) [] := by
  intro h
  generalize hx : ([] : List Int) = x at h
  cases h with
  | star h0 _ => rw [hs] at h0; cases h0
  | step _ hf h => cases hx

/-- How many stars. -/
def sts : List S56 → Nat
  | [] => 0
  | t :: ts => (if t.f0 = true then 1 else 0) + sts ts
def stB : List Int → Nat
  | [] => 0
  | b :: l => (if b = 42 then 1 else 0) + stB l
theorem stB_append : ∀ a b : List Int, stB (a ++ b) = stB a + stB b
  | [], b => by simp [stB]
  | x :: a, b => by simp only [List.cons_append, stB, stB_append a b]; omega
theorem Gl.stars {l : List Int} {ts : List S56} (h : Gl l ts) : sts ts ≤ stB l := by
  induction h with
  | nil => exact Nat.le_refl _
  | star _ ih => simp only [sts, stB, if_true]; omega
  | one _ ih => simp only [sts, stB]; rw [if_neg (by simp), if_neg (by omega)]; omega
  | esc hx _ ih => simp only [sts, stB, stB_append]; rw [if_neg (by simp), if_neg (by omega)]; omega
  | lit hx _ _ _ _ ih => simp only [sts, stB_append]; rw [if_neg (by simp)]; omega

/-- The calls that a match makes at most. -/
def mcost (n : Nat) : Nat → Nat
  | 0 => 1
  | k + 1 => 1 + (n + 1) * mcost n k
theorem mcost_pos (n k : Nat) : 1 ≤ mcost n k := by cases k <;> simp only [mcost] <;> omega
theorem mcost_mono (n : Nat) : ∀ k, mcost n k ≤ mcost n (k + 1)
  | 0 => by simp only [mcost]; omega
  | k + 1 => by
    have h := mcost_mono n k
    have h2 : (n + 1) * mcost n k ≤ (n + 1) * mcost n (k + 1) := Nat.mul_le_mul_left _ h
    simp only [mcost] at h2 ⊢
    omega
theorem mcost_two {n : Nat} (h1 : 1 ≤ n) (h2 : n ≤ 4096) : mcost n 2 ≤ n * 10000 := by
  simp only [mcost]
  have h3 : (n + 1) * (1 + (n + 1) * 1) ≤ (n + 1) * 4098 := Nat.mul_le_mul_left _ (by omega)
  omega

/-! ### the first character -/
theorem get_front {s : ByteArray} {x t : List Int} (h : ints s = x ++ t) (i : Nat) (hi : i < x.length) : ((s.get! i).toNat : Int) = x.getD i 0 := by
  have hl := congrArg List.length h
  rw [ints_length, List.length_append] at hl
  have h1 : (ints s)[i]? = x[i]? := by rw [h, List.getElem?_append_left hi]
  unfold ints at h1
  rw [List.getElem?_map] at h1
  have h2 : s.data.toList[i]? = some (s.get! i) := by
    rw [List.getElem?_eq_getElem (by rw [Array.length_toList]; show i < s.size; omega)]
    simp only [ByteArray.get!, Array.getElem_toList]
    congr 1
    exact (getElem!_pos s.data i (show i < s.size by omega)).symm
  rw [h2] at h1
  rw [List.getD_eq_getElem?_getD, ← h1]
  rfl
theorem decfirst {s : ByteArray} {x t : List Int} {c : Int} (h : ints s = x ++ t) (hx : Ch x c) : (((Lib.decodeGo s).1 : Int), ((Lib.decodeGo s).2 : Int)) = (c, (x.length : Int)) := by
  have hl := congrArg List.length h
  rw [ints_length, List.length_append] at hl
  have hlen := Ch.len hx
  have hgo : Lib.decodeGo s = Utf8.decode s 0 := by
    unfold Lib.decodeGo
    rw [if_neg (by omega)]
  rw [hgo, Lib.decode_at]
  have g := get_front h
  cases hx with
  | one b h0 h1 =>
    have g0 := g 0 (by simp)
    simp only [List.getD_cons_zero] at g0
    unfold Lib.decodeN
    rw [if_pos (by omega)]
    simp only [List.length_singleton, Prod.mk.injEq]
    first | exact ⟨g0, rfl⟩ | exact ⟨g0, trivial⟩
  | two b0 b1 c h0 h1 hc =>
    have g0 := g 0 (by simp)
    have g1 := g 1 (by simp)
    simp only [List.getD_cons_zero, List.getD_cons_succ, Nat.zero_add, List.length_cons, List.length_nil] at g0 g1 hl ⊢
    unfold Lib.decodeN
    rw [if_neg (by omega), if_pos (by omega), if_pos (by omega)]
    simp only [Prod.mk.injEq]
    first | exact ⟨by omega, by omega⟩ | exact ⟨by omega, trivial⟩
  | three b0 b1 b2 c h0 h1 h2 hc hls hs =>
    have g0 := g 0 (by simp)
    have g1 := g 1 (by simp)
    have g2 := g 2 (by simp)
    simp only [List.getD_cons_zero, List.getD_cons_succ, Nat.zero_add, List.length_cons, List.length_nil] at g0 g1 g2 hl ⊢
    unfold Lib.decodeN
    rw [if_neg (by omega), if_neg (by omega), if_pos (by omega), if_pos (by omega)]
    simp only [Prod.mk.injEq]
    first | exact ⟨by omega, by omega⟩ | exact ⟨by omega, trivial⟩
  | four b0 b1 b2 b3 c h0 h1 h2 h3 hc hls hm =>
    have g0 := g 0 (by simp)
    have g1 := g 1 (by simp)
    have g2 := g 2 (by simp)
    have g3 := g 3 (by simp)
    simp only [List.getD_cons_zero, List.getD_cons_succ, Nat.zero_add, List.length_cons, List.length_nil] at g0 g1 g2 g3 hl ⊢
    unfold Lib.decodeN
    rw [if_neg (by omega), if_neg (by omega), if_neg (by omega), if_pos (by omega), if_pos (by omega)]
    simp only [Prod.mk.injEq]
    first | exact ⟨by omega, by omega⟩ | exact ⟨by omega, trivial⟩

end Go.Proofs.YtkhgbacbnkgafaaGreatDoor.PFnGjMatchesLike.Gb
