/- Plain law of match.matchTrimSuffix (law PFnGjMatchesLike): what it takes from the ends of a text and of a pattern that begins with a star leaves it as it is whether the one is made of what the other says. -/
import Derived.Test.YtkhgbacbnkgafaaGreatDoorMlDl
import Derived.Laws.BitsLemmas
set_option linter.unusedVariables false
namespace Go.Proofs.YtkhgbacbnkgafaaGreatDoor.PFnGjMatchesLike.Gb
open Go.RowKit Go.Proofs.YtkhgbacbnkgafaaGreatDoor.PFnGjMatchesLike Go.Proofs.YtkhgbacbnkgafaaGreatDoor.PFnGjMatchesLike.Uc Go.Proofs.YtkhgbacbnkgafaaGreatDoorW.PrintWords Go.Proofs.YtkhgbacbnkgafaaGreatDoorW.PrintLast Go.Proofs.YtkhgbacbnkgafaaGreatDoor.EvL Go.Proofs.YtkhgbacbnkgafaaGreatDoor.StrL

theorem Txt.nil_inv {cs : List Int} (h : Txt [] cs) : cs = [] := by
  generalize hl : ([] : List Int) = l at h
  cases h with
  | nil => rfl
  | cons hx =>
    have h1 := Ch.len hx
    have h2 := congrArg List.length hl
    rw [List.length_append, List.length_nil] at h2
    omega

theorem Txt.last {l cs : List Int} (h : Txt l cs) : l ≠ [] → ∃ l' y cs' c, l = l' ++ y ∧ cs = cs' ++ [c] ∧ Txt l' cs' ∧ Ch y c := by
  induction h with
  | nil => intro h; exact absurd rfl h
  | @cons x t c cs hx ht ih =>
    intro _
    by_cases he : t = []
    · subst he
      obtain rfl := ht.nil_inv
      exact ⟨[], x, [], c, by simp, rfl, .nil, hx⟩
    · obtain ⟨l', y, cs', c', rfl, rfl, h1, h2⟩ := ih he
      exact ⟨x ++ l', y, c :: cs', c', by simp, rfl, .cons hx h1, h2⟩

inductive Tail : List Int → S56 → Prop
  | star : Tail [42] ⟨true, false, 0⟩
  | one : Tail [63] ⟨false, true, 0⟩
  | esc {x : List Int} {c : Int} (hx : Ch x c) : Tail (92 :: x) ⟨false, false, c⟩
  | lit {x : List Int} {c : Int} (hx : Ch x c) (h1 : c ≠ 42) (h2 : c ≠ 63) (h3 : c ≠ 92) : Tail x ⟨false, false, c⟩

theorem Gl.put {tl q : List Int} {t : S56} {ts : List S56} (ht : Tail tl t) (h : Gl q ts) : Gl (tl ++ q) (t :: ts) := by
  cases ht with
  | star => exact .star h
  | one => exact .one h
  | esc hx => exact .esc hx h
  | lit hx h1 h2 h3 => exact .lit hx h1 h2 h3 h

theorem Gl.nil_inv {ts : List S56} (h : Gl [] ts) : ts = [] := by
  generalize hl : ([] : List Int) = l at h
  cases h with
  | nil => rfl
  | star => cases hl
  | one => cases hl
  | esc => cases hl
  | lit hx =>
    have h1 := Ch.len hx
    have h2 := congrArg List.length hl
    rw [List.length_append, List.length_nil] at h2
    omega

def LastOf (l : List Int) (ts : List S56) : Prop := ∃ q tl ts' t, l = q ++ tl ∧ ts = ts' ++ [t] ∧ Gl q ts' ∧ Tail tl t

theorem last_put {tl q : List Int} {t : S56} {ts : List S56} (ht : Tail tl t) (h : Gl q ts) (ih : q ≠ [] → LastOf q ts) : LastOf (tl ++ q) (t :: ts) := by
  by_cases he : q = []
  · subst he
    obtain rfl := h.nil_inv
    exact ⟨[], tl, [], t, by simp, rfl, .nil, ht⟩
  · obtain ⟨q', tl', ts', t', rfl, rfl, h1, h2⟩ := ih he
    exact ⟨tl ++ q', tl', t :: ts', t', by simp, rfl, h1.put ht, h2⟩

theorem Gl.last {l : List Int} {ts : List S56} (h : Gl l ts) : l ≠ [] → LastOf l ts := by
  induction h with
  | nil => intro h; exact absurd rfl h
  | star ht ih => intro _; exact last_put .star ht ih
  | one ht ih => intro _; exact last_put .one ht ih
  | esc hx ht ih => intro _; exact last_put (.esc hx) ht ih
  | lit hx h1 h2 h3 ht ih => intro _; exact last_put (.lit hx h1 h2 h3) ht ih

/-! ### the backslashes at the end -/
def cnt : List Int → Nat
  | [] => 0
  | b :: t => if b = 92 then cnt t + 1 else 0
def tr (l : List Int) : Nat := cnt l.reverse
theorem tr_snoc (l : List Int) (b : Int) : tr (l ++ [b]) = if b = 92 then tr l + 1 else 0 := by unfold tr; rw [List.reverse_append]; rfl

theorem ch_last {x : List Int} {c : Int} (h : Ch x c) : ∃ x' b, x = x' ++ [b] ∧ (b = 92 → x' = [] ∧ c = 92) := by
  cases h with
  | one b h0 h1 => exact ⟨[], _, rfl, fun e => ⟨rfl, e⟩⟩
  | two b0 b1 c h0 h1 hc => exact ⟨[b0], b1, rfl, fun e => by omega⟩
  | three b0 b1 b2 c h0 h1 h2 hc hl hs => exact ⟨[b0, b1], b2, rfl, fun e => by omega⟩
  | four b0 b1 b2 b3 c h0 h1 h2 h3 hc hl hm => exact ⟨[b0, b1, b2], b3, rfl, fun e => by omega⟩

theorem tail_even {q tl : List Int} {t : S56} (h : Tail tl t) (hq : tr q % 2 = 0) : tr (q ++ tl) % 2 = 0 := by
  cases h with
  | star => rw [tr_snoc, if_neg (by omega)]
  | one => rw [tr_snoc, if_neg (by omega)]
  | esc hx =>
    obtain ⟨x', b, rfl, hb⟩ := ch_last hx
    by_cases e : b = 92
    · obtain ⟨rfl, _⟩ := hb e
      subst e
      rw [show q ++ 92 :: ([] ++ [92]) = (q ++ [92]) ++ [92] from by simp, tr_snoc, if_pos rfl, tr_snoc, if_pos rfl]
      omega
    · rw [show q ++ 92 :: (x' ++ [b]) = (q ++ 92 :: x') ++ [b] from by simp, tr_snoc, if_neg e]
  | lit hx h1 h2 h3 =>
    obtain ⟨x', b, rfl, hb⟩ := ch_last hx
    rw [← List.append_assoc, tr_snoc, if_neg (fun e => h3 (hb e).2)]

theorem Gl.even {l : List Int} {ts : List S56} (h : Gl l ts) : ∀ q, tr q % 2 = 0 → tr (q ++ l) % 2 = 0 := by
  have step : ∀ {tl l : List Int} {t : S56}, Tail tl t → (∀ q, tr q % 2 = 0 → tr (q ++ l) % 2 = 0) → ∀ q, tr q % 2 = 0 → tr (q ++ (tl ++ l)) % 2 = 0 := by
    intro tl l t ht ih q hq
    rw [← List.append_assoc]
    exact ih _ (tail_even ht hq)
  induction h with
  | nil => intro q hq; rw [List.append_nil]; exact hq
  | star ht ih => exact step .star ih
  | one ht ih => exact step .one ih
  | esc hx ht ih => exact step (.esc hx) ih
  | lit hx h1 h2 h3 ht ih => exact step (.lit hx h1 h2 h3) ih

theorem tr_lt (l : List Int) (b : Int) (hb : b ≠ 92) : tr (b :: l) < (b :: l).length := by
  have key : ∀ m : List Int, cnt (m ++ [b]) ≤ m.length := by
    intro m
    induction m with
    | nil => simp [cnt, hb]
    | cons a m ih =>
      rw [List.cons_append, cnt]
      split
      · rw [List.length_cons]; omega
      · simp
  unfold tr
  rw [List.reverse_cons]
  have := key l.reverse
  rw [List.length_reverse] at this
  rw [List.length_cons]; omega

theorem bt_mid {s : ByteArray} {q r : List Int} {b : Int} (h : ints s = (q ++ [b]) ++ r) : bt s (q.length : Int) = b := by
  rw [bt_getD, h, Int.toNat_natCast, List.append_assoc, List.getD_eq_getElem?_getD, List.getElem?_append_right (Nat.le_refl _)]
  simp

theorem and_one (x : Int) (h0 : 0 ≤ x) (h1 : x < 2147483648) : Go.bits .and .i64 x 1 = x % 2 := by
  have := Go.bits_mask .i64 31 (by decide) (fun n a b => by rw [Go.IntKind.wrap_i64]; omega) 1 (by decide) x h0 (by omega)
  simpa using this

section
variable (x0 x1 : ByteArray) (x9 : Bool) (P : ByteArray × ByteArray × Bool → Prop)

theorem trim_l1 (h1n : x1.size ≤ 2147483647) (x10 x11 : Int) (x12 : Bool) : ∀ (d : Nat) (q r : List Int) (i : Int), tr q = d → tr q < q.length → ints x1 = q ++ r → (r.length : Int) = x11 + i → 0 ≤ x11 → 0 ≤ i →
    ((i + tr q) % 2 = 1 → EvP (fun k => match_matchTrimSuffix.j3 k x0 x1 false x9 x10 (x11 + 1) true) P) → ((i + tr q) % 2 = 0 → EvP (fun k => match_matchTrimSuffix.j3 k x0 x1 false x9 x10 x11 x12) P) →
    EvP (fun k => match_matchTrimSuffix.l1 k x0 x1 false x9 x10 x11 x12 i) P := by
  intro d
  induction d with
  | zero =>
    intro q r i hd hlt hq hr h11 hi k1 k2
    rcases List.eq_nil_or_concat q with rfl | ⟨q', b, rfl⟩
    · simp at hlt
    · rw [List.concat_eq_append] at *
      have hsz : (x1.size : Int) = (q'.length : Int) + 1 + x11 + i := by
        have := congrArg List.length hq
        rw [ints_length, List.length_append, List.length_append, List.length_singleton] at this
        omega
      have hb := bt_mid hq
      have hne : b ≠ 92 := by
        intro e
        rw [tr_snoc, if_pos e] at hd
        omega
      refine EvP.succ ?_
      simp only [match_matchTrimSuffix.l1]
      rw [w64 (x := (x1.size : Int) - x11) (by omega) (by omega), w64 (x := (x1.size : Int) - x11 - i) (by omega) (by omega), w64 (x := (x1.size : Int) - x11 - i - 1) (by omega) (by omega), show (x1.size : Int) - x11 - i - 1 = (q'.length : Int) from by omega, hb, and_one i hi (by omega), w64 (x := x11 + 1) (by omega) (by omega)]
      rw [hd] at k1 k2
      refine EvP.pos (by omega) (EvP.pos (by omega) (EvP.neg hne (EvP.ite (fun e => k1 (by omega)) (fun e => k2 (by omega)))))
  | succ d ih =>
    intro q r i hd hlt hq hr h11 hi k1 k2
    rcases List.eq_nil_or_concat q with rfl | ⟨q', b, rfl⟩
    · simp at hlt
    · rw [List.concat_eq_append] at *
      have hsz : (x1.size : Int) = (q'.length : Int) + 1 + x11 + i := by
        have := congrArg List.length hq
        rw [ints_length, List.length_append, List.length_append, List.length_singleton] at this
        omega
      have hb := bt_mid hq
      by_cases hne : b = 92
      · rw [tr_snoc, if_pos hne] at hd hlt k1 k2
        rw [List.length_append, List.length_singleton] at hlt
        refine EvP.succ ?_
        simp only [match_matchTrimSuffix.l1]
        rw [w64 (x := (x1.size : Int) - x11) (by omega) (by omega), w64 (x := (x1.size : Int) - x11 - i) (by omega) (by omega), w64 (x := (x1.size : Int) - x11 - i - 1) (by omega) (by omega), show (x1.size : Int) - x11 - i - 1 = (q'.length : Int) from by omega, hb, w64 (x := i + 1) (by omega) (by omega)]
        refine EvP.pos (by omega) (EvP.pos (by omega) (EvP.pos hne (ih q' ([b] ++ r) (i + 1) (by omega) (by omega) (by rw [hq, List.append_assoc]) (by rw [List.length_append, List.length_singleton]; omega) h11 (by omega) (fun e => k1 (by omega)) (fun e => k2 (by omega)))))
      · rw [tr_snoc, if_neg hne] at hd; omega

theorem trim_j4 (h0n : x0.size ≤ 2147483647) (h1n : x1.size ≤ 2147483647) (c x11 : Int) (x12 : Bool) (sc sn : Int) (hdl : utf8_DecodeLastRuneInString.f x0 = some (sc, sn)) (h0 : 0 ≤ sn ∧ sn ≤ x0.size) (h1 : 0 ≤ x11 ∧ x11 ≤ x1.size)
    (hgo : ((c = 63 ∧ x12 = false) ∨ c = sc) → EvP (fun k => match_matchTrimSuffix.l0 k (x0.extract 0 ((x0.size : Int) - sn).toNat) (x1.extract 0 ((x1.size : Int) - x11).toNat) false x9) P)
    (hno : ¬ ((c = 63 ∧ x12 = false) ∨ c = sc) → P (x0, x1, false)) :
    EvP (fun k => match_matchTrimSuffix.j4 k x0 x1 false x9 c x11 x12 false) P := by
  refine EvP.succ ?_
  simp only [match_matchTrimSuffix.j4]
  refine EvP.neg (by simp) ?_
  rw [hdl]
  simp only [Option.bind_some]
  rw [w64 (x := (x0.size : Int) - sn) (by omega) (by omega), w64 (x := (x1.size : Int) - x11) (by omega) (by omega)]
  refine EvP.neg (by simp) (EvP.ite (fun e => EvP.ite (fun e2 => EvP.ite (fun e3 => ?_) (fun e3 => EvP.ret _ (hno ?_))) (fun e2 => ?_)) (fun e => EvP.ite (fun e3 => ?_) (fun e3 => EvP.ret _ (hno ?_))))
  · exact EvP.pos (by omega) (EvP.pos (by omega) (EvP.pos (by omega) (EvP.pos (by omega) (hgo (.inr e3)))))
  · rintro (⟨_, h⟩ | h)
    · rw [e2] at h; cases h
    · exact e3 h
  · exact EvP.pos (by omega) (EvP.pos (by omega) (EvP.pos (by omega) (EvP.pos (by omega) (hgo (.inl ⟨e, by simpa using e2⟩)))))
  · exact EvP.pos (by omega) (EvP.pos (by omega) (EvP.pos (by omega) (EvP.pos (by omega) (hgo (.inr e3)))))
  · rintro (⟨h, _⟩ | h)
    · exact e h
    · exact e3 h
end

theorem ints_front {s : ByteArray} {q r : List Int} (h : ints s = q ++ r) (n : Int) (hn : (r.length : Int) = n) : ints (s.extract 0 ((s.size : Int) - n).toNat) = q := by
  have hl := congrArg List.length h
  rw [ints_length, List.length_append] at hl
  rw [ints_extract, h, List.drop_zero, show ((s.size : Int) - n).toNat - 0 = q.length from by omega, List.take_left]

/-- What the trimming tells. -/
def Told (x0 x1 : ByteArray) (ts : List S56) (cs : List Int) (r : ByteArray × ByteArray × Bool) : Prop :=
  (∃ a, ints x0 = ints r.1 ++ a) ∧ (∃ b, ints x1 = ints r.2.1 ++ b) ∧ (∃ pb1, ints r.2.1 = 42 :: pb1) ∧
  ((r.2.2 = true ∧ ∃ cs1 pb1 ts1, Txt (ints r.1) cs1 ∧ ints r.2.1 = 42 :: pb1 ∧ Gl pb1 ts1 ∧ (M (⟨true, false, 0⟩ :: ts) cs ↔ M (⟨true, false, 0⟩ :: ts1) cs1)) ∨
   (r.2.2 = false ∧ ¬ M (⟨true, false, 0⟩ :: ts) cs))

theorem Told.stay {x0 x1 : ByteArray} {ts : List S56} {cs pb : List Int} (h0 : Txt (ints x0) cs) (h1 : ints x1 = 42 :: pb) (h2 : Gl pb ts) : Told x0 x1 ts cs (x0, x1, true) :=
  ⟨⟨[], by simp⟩, ⟨[], by simp⟩, ⟨pb, h1⟩, .inl ⟨rfl, cs, pb, ts, h0, h1, h2, Iff.rfl⟩⟩
theorem Told.no {x0 x1 : ByteArray} {ts : List S56} {cs pb : List Int} (h1 : ints x1 = 42 :: pb) (h : ¬ M (⟨true, false, 0⟩ :: ts) cs) : Told x0 x1 ts cs (x0, x1, false) :=
  ⟨⟨[], by simp⟩, ⟨[], by simp⟩, ⟨pb, h1⟩, .inr ⟨rfl, h⟩⟩

theorem Told.back {x0 x1 y0 y1 : ByteArray} {ts us : List S56} {cs ds a b : List Int} {r : ByteArray × ByteArray × Bool} (h0 : ints x0 = ints y0 ++ a) (h1 : ints x1 = ints y1 ++ b)
    (hm : M (⟨true, false, 0⟩ :: ts) cs ↔ M (⟨true, false, 0⟩ :: us) ds) (h : Told y0 y1 us ds r) : Told x0 x1 ts cs r := by
  obtain ⟨⟨a1, e1⟩, ⟨b1, e2⟩, e3, h⟩ := h
  refine ⟨⟨a1 ++ a, by rw [h0, e1, List.append_assoc]⟩, ⟨b1 ++ b, by rw [h1, e2, List.append_assoc]⟩, e3, ?_⟩
  rcases h with ⟨q1, cs1, pb1, ts1, q2, q3, q4, q5⟩ | ⟨q1, q2⟩
  · exact .inl ⟨q1, cs1, pb1, ts1, q2, q3, q4, hm.trans q5⟩
  · exact .inr ⟨q1, fun h => q2 (hm.1 h)⟩

theorem trim_l0 : ∀ (d : Nat) (x0 x1 : ByteArray) (cs pb : List Int) (ts : List S56), x0.size ≤ d → x0.size ≤ 2147483647 → x1.size ≤ 2147483647 → Txt (ints x0) cs → ints x1 = 42 :: pb → Gl pb ts →
    EvP (fun k => match_matchTrimSuffix.l0 k x0 x1 false true) (Told x0 x1 ts cs) := by
  intro d
  induction d with
  | zero =>
    intro x0 x1 cs pb ts hd h0n h1n ht hp hg
    refine EvP.succ ?_
    simp only [match_matchTrimSuffix.l0]
    refine EvP.neg (by omega) (EvP.succ ?_)
    simp only [match_matchTrimSuffix.j1]
    exact EvP.neg (by simp) (EvP.ret _ (Told.stay ht hp hg))
  | succ d ih =>
    intro x0 x1 cs pb ts hd h0n h1n ht hp hg
    have hsz : (x1.size : Int) = (pb.length : Int) + 1 := by
      have := congrArg List.length hp
      rw [ints_length, List.length_cons] at this
      omega
    refine EvP.succ ?_
    simp only [match_matchTrimSuffix.l0]
    refine EvP.ite (fun hs0 => ?_) (fun hs0 => ?_)
    rotate_left
    · refine EvP.succ ?_
      simp only [match_matchTrimSuffix.j1]
      exact EvP.neg (by simp) (EvP.ret _ (Told.stay ht hp hg))
    · refine EvP.succ ?_
      simp only [match_matchTrimSuffix.j1]
      refine EvP.ite (fun hs1 => ?_) (fun hs1 => EvP.ret _ (Told.stay ht hp hg))
      have hs1' : (x1.size : Int) > 1 := by simpa using hs1
      have hpne : pb ≠ [] := by
        intro e
        rw [e, List.length_nil] at hsz
        omega
      have htne : ints x0 ≠ [] := by
        intro e
        have := congrArg List.length e
        rw [ints_length, List.length_nil] at this
        omega
      obtain ⟨l', y, cs', sc, ht1, rfl, ht2, hy⟩ := ht.last htne
      have hyl := Ch.len hy
      have hx0s : (x0.size : Int) = (l'.length : Int) + (y.length : Int) := by
        have := congrArg List.length ht1
        rw [ints_length, List.length_append] at this
        omega
      have hdl0 := declast h0n ht1 hy
      obtain ⟨q, tl, ts', t, rfl, rfl, hq, htl⟩ := hg.last hpne
      have heven : tr (42 :: q) % 2 = 0 := hq.even [42] (by decide)
      have hlt := tr_lt q 42 (by omega)
      rw [List.length_append] at hsz
      -- what follows a step of one character
      have go : ∀ n : Int, t.f0 = false → fit t sc → (tl.length : Int) = n → EvP (fun k => match_matchTrimSuffix.l0 k (x0.extract 0 ((x0.size : Int) - (y.length : Int)).toNat) (x1.extract 0 ((x1.size : Int) - n).toNat) false true) (Told x0 x1 (ts' ++ [t]) (cs' ++ [sc])) := by
        intro n hf0 hfit hn
        have f0 := ints_front ht1 (y.length : Int) rfl
        have hp' : ints x1 = (42 :: q) ++ tl := by rw [hp, List.cons_append]
        have f1 := ints_front hp' n hn
        have s0 := congrArg List.length f0
        have s1 := congrArg List.length f1
        rw [ints_length] at s0 s1
        rw [List.length_cons] at s1
        refine (ih _ _ cs' q ts' (by omega) (by omega) (by omega) (by rw [f0]; exact ht2) f1 hq).mono (fun r hr => ?_)
        refine Told.back (by rw [f0]; exact ht1) (by rw [f1]; exact hp') ?_ hr
        rw [← List.cons_append, last_step hf0]
        constructor
        · rintro ⟨cs2, c2, e, _, hm⟩
          have := List.append_inj_left' e rfl
          rw [this]; exact hm
        · intro hm; exact ⟨cs', sc, rfl, hfit, hm⟩
      have no : ∀ (r : ByteArray × ByteArray × Bool), r = (x0, x1, false) → t.f0 = false → ¬ fit t sc → Told x0 x1 (ts' ++ [t]) (cs' ++ [sc]) r := by
        rintro r rfl hf0 hfit
        refine Told.no hp ?_
        rw [← List.cons_append, last_step hf0]
        rintro ⟨cs2, c2, e, h, _⟩
        have := List.append_inj_right' e rfl
        injection this with this
        rw [this] at hfit
        exact hfit h
      have stay : Told x0 x1 (ts' ++ [t]) (cs' ++ [sc]) (x0, x1, true) := Told.stay ht hp hg
      -- a character that stands bare
      have bare : ∀ (x : List Int) (c : Int), Ch x c → tl = x → (c = 42 → t.f0 = true) → (c ≠ 42 → t.f0 = false ∧ (fit t sc ↔ (c = 63 ∧ false = false) ∨ c = sc)) → EvP (fun k => match_matchTrimSuffix.l1 k x0 x1 false true c (x.length : Int) false 0) (Told x0 x1 (ts' ++ [t]) (cs' ++ [sc])) := by
        rintro x c hx rfl h42 hn42
        have hxl := Ch.len hx
        refine trim_l1 x0 x1 true _ h1n c _ false _ (42 :: q) tl 0 rfl hlt (by rw [hp, List.cons_append]) (by omega) (by omega) (by omega) (fun e => by omega) (fun _ => ?_)
        refine EvP.succ ?_
        simp only [match_matchTrimSuffix.j3]
        refine EvP.ite (fun e => ?_) (fun e => ?_)
        · refine EvP.succ ?_
          simp only [match_matchTrimSuffix.j4]
          exact EvP.pos rfl (EvP.ret _ stay)
        · obtain ⟨hf0, hfit⟩ := hn42 e
          exact trim_j4 x0 x1 true _ h0n h1n c _ false sc _ hdl0 (by omega) (by omega) (fun h => go _ hf0 (hfit.2 h) rfl) (fun h => no _ rfl hf0 (fun k => h (hfit.1 k)))
      cases htl with
      | star =>
        have hd1 := declast (c := 42) (x := [42]) (p := 42 :: q) h1n (by rw [hp]; rfl) (ch_ascii 42 (by omega) (by omega))
        rw [hd1]
        exact bare [42] 42 (ch_ascii 42 (by omega) (by omega)) rfl (fun _ => rfl) (fun h => absurd rfl h)
      | one =>
        have hd1 := declast (c := 63) (x := [63]) (p := 42 :: q) h1n (by rw [hp]; rfl) (ch_ascii 63 (by omega) (by omega))
        rw [hd1]
        exact bare [63] 63 (ch_ascii 63 (by omega) (by omega)) rfl (fun h => by omega) (fun _ => ⟨rfl, fun _ => .inl ⟨rfl, rfl⟩, fun _ => .inl rfl⟩)
      | @lit x c hx h1 h2 h3 =>
        have hd1 := declast (p := 42 :: q) h1n (by rw [hp]; rfl) hx
        rw [hd1]
        refine bare _ c hx rfl (fun h => absurd h h1) (fun _ => ⟨rfl, ?_, ?_⟩)
        · rintro (h | h)
          · cases h
          · exact .inr h
        · rintro (⟨h, _⟩ | h)
          · exact absurd h h2
          · exact .inr h
      | @esc x c hx =>
        have hxl := Ch.len hx
        have hp2 : ints x1 = (42 :: q ++ [92]) ++ x := by rw [hp]; simp
        have hd1 := declast h1n hp2 hx
        rw [hd1]
        rw [List.length_cons] at hsz
        have htr : tr (42 :: q ++ [92]) = tr (42 :: q) + 1 := by rw [tr_snoc, if_pos rfl]
        refine trim_l1 x0 x1 true _ h1n c _ false _ (42 :: q ++ [92]) x 0 rfl (by rw [htr, List.length_append, List.length_singleton]; omega) hp2 (by omega) (by omega) (by omega) (fun _ => ?_) (fun e => by omega)
        refine EvP.succ ?_
        simp only [match_matchTrimSuffix.j3]
        have hj4 : EvP (fun k => match_matchTrimSuffix.j4 k x0 x1 false true c ((x.length : Int) + 1) true false) (Told x0 x1 (ts' ++ [⟨false, false, c⟩]) (cs' ++ [sc])) := by
          refine trim_j4 x0 x1 true _ h0n h1n c _ true sc _ hdl0 (by omega) (by omega) (fun h => go _ rfl ?_ (by rw [List.length_cons]; omega)) (fun h => no _ rfl rfl ?_)
          · rcases h with ⟨_, h⟩ | h
            · cases h
            · exact .inr h
          · rintro (k | k)
            · cases k
            · exact h (.inr k)
        exact EvP.ite (fun _ => hj4) (fun _ => hj4)

end Go.Proofs.YtkhgbacbnkgafaaGreatDoor.PFnGjMatchesLike.Gb
