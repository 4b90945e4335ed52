/- Plain laws of fastjson's lexers (blanks, strings, names, numbers) and of the reference's Unquote, UTF8, Paired: they answer, and what they answer. -/
import Derived.Test.YtkhgbacbnkgafaaDoorRsLex
import Derived.Test.YtkhgbacbnkgafaaDoorJTree
import Derived.Test.YtkhgbacbnkgafaaDoorStr
import Derived.Lib.Bytealg
set_option linter.unusedVariables false
namespace Go.Proofs.YtkhgbacbnkgafaaDoor.Lx
open Go Go.RowKit Go.Proofs.YtkhgbacbnkgafaaDoor.Lex Go.Proofs.YtkhgbacbnkgafaaDoorW.PrintWords Go.Proofs.YtkhgbacbnkgafaaDoorW.PrintLast Go.Proofs.YtkhgbacbnkgafaaDoor.EvL Go.Proofs.YtkhgbacbnkgafaaDoor.StrL Go.Proofs.YtkhgbacbnkgafaaDoor.JTr

/-! ### ends of a text -/
theorem ext_ints (s : ByteArray) (i : Nat) : ints (s.extract i s.size) = (ints s).drop i := by
  rw [ints_extract, List.take_of_length_le (by rw [List.length_drop, ints_length]; omega)]
theorem ext_size (s : ByteArray) (i : Nat) : (s.extract i s.size).size = s.size - i := by rw [← ints_length, ext_ints, List.length_drop, ints_length]
theorem front_ints {s : ByteArray} {a t : List Int} (h : ints s = a ++ t) : ints (s.extract 0 a.length) = a := by
  rw [ints_extract, List.drop_zero, h, Nat.sub_zero, List.take_left]
theorem back_ints {s : ByteArray} {a t : List Int} (h : ints s = a ++ t) : ints (s.extract a.length s.size) = t := by
  rw [ext_ints, h, List.drop_left]
theorem back1_ints {s : ByteArray} {a t : List Int} {c : Int} (h : ints s = a ++ c :: t) : ints (s.extract (a.length + 1) s.size) = t := by
  have h2 : ints s = (a ++ [c]) ++ t := by rw [h, List.append_assoc]; rfl
  have := back_ints h2
  rwa [List.length_append, List.length_singleton] at this
theorem size_app {s : ByteArray} {a t : List Int} (h : ints s = a ++ t) : s.size = a.length + t.length := by
  rw [← ints_length, h, List.length_append]
theorem bt_app {s : ByteArray} {a t : List Int} {c : Int} (h : ints s = a ++ c :: t) : bt s (a.length : Int) = c := by
  rw [bt_getD, h, Int.toNat_natCast, List.getD_eq_getElem?_getD, List.getElem?_append_right (Nat.le_refl _)]
  simp
theorem bt_back {s : ByteArray} {q r : List Int} {b : Int} (h : ints s = (q ++ [b]) ++ r) : bt s (q.length : Int) = b := by
  rw [List.append_assoc] at h; exact bt_app h

/-! ### where a byte first stands -/
theorem idx (u : UInt8) : ∀ l : List UInt8, (Lib.indexByte l u = -1 ∧ u ∉ l) ∨ ∃ a t, l = a ++ u :: t ∧ u ∉ a ∧ Lib.indexByte l u = (a.length : Int)
  | [] => .inl ⟨rfl, by simp⟩
  | b :: l => by
    by_cases hb : b = u
    · subst hb
      exact .inr ⟨[], l, rfl, by simp, by simp [Lib.indexByte]⟩
    · have hb2 : (b == u) = false := by simpa using hb
      rcases idx u l with ⟨h1, h2⟩ | ⟨a, t, h1, h2, h3⟩
      · refine .inl ⟨by simp [Lib.indexByte, hb2, h1], ?_⟩
        simp only [List.mem_cons, not_or]
        exact ⟨fun e => hb e.symm, h2⟩
      · refine .inr ⟨b :: a, t, by rw [h1]; rfl, ?_, ?_⟩
        · simp only [List.mem_cons, not_or]
          exact ⟨fun e => hb e.symm, h2⟩
        · have : ¬ Lib.indexByte l u = -1 := by rw [h3]; omega
          rw [h3] at this; simp [Lib.indexByte, hb2, h3]

theorem ib (s : ByteArray) (c : Int) (hc : 0 ≤ c ∧ c ≤ 255) : (strings_IndexByte.f s c = some (-1) ∧ c ∉ ints s) ∨ ∃ a t, ints s = a ++ c :: t ∧ c ∉ a ∧ strings_IndexByte.f s c = some (a.length : Int) := by
  have hu : ((c.toNat.toUInt8).toNat : Int) = c := by
    have : c.toNat.toUInt8.toNat = c.toNat % 256 := by simp
    omega
  have hinj : ∀ (l : List UInt8), c ∈ l.map (fun b => (b.toNat : Int)) → c.toNat.toUInt8 ∈ l := by
    intro l h
    obtain ⟨b, hb, e⟩ := List.mem_map.1 h
    have : b = c.toNat.toUInt8 := by
      apply UInt8.toNat_inj.1
      omega
    rw [← this]; exact hb
  unfold strings_IndexByte.f
  rcases idx c.toNat.toUInt8 s.data.toList with ⟨h1, h2⟩ | ⟨a, t, h1, h2, h3⟩
  · exact .inl ⟨by rw [h1], fun h => h2 (hinj _ h)⟩
  · refine .inr ⟨a.map fun b => (b.toNat : Int), t.map fun b => (b.toNat : Int), ?_, fun h => h2 (hinj _ h), by rw [h3, List.length_map]⟩
    unfold ints
    rw [h1, List.map_append, List.map_cons, hu]

/-! ### a string's inside -/
inductive Raw : List Int → Prop
  | nil : Raw []
  | plain {b : Int} {t : List Int} (h1 : b ≠ 34) (h2 : b ≠ 92) (ht : Raw t) : Raw (b :: t)
  | esc {b : Int} {t : List Int} (ht : Raw t) : Raw (92 :: b :: t)

theorem Raw.append {a b : List Int} (h : Raw a) (k : Raw b) : Raw (a ++ b) := by
  induction h with
  | nil => exact k
  | plain h1 h2 _ ih => exact .plain h1 h2 ih
  | esc _ ih => exact .esc ih
theorem Raw.tail {b : Int} {t : List Int} (h : Raw (b :: t)) (hb : b ≠ 92) : b ≠ 34 ∧ Raw t := by
  cases h with
  | plain h1 _ ht => exact ⟨h1, ht⟩
  | esc => exact absurd rfl hb
theorem Raw.of_plain : ∀ (a : List Int), 34 ∉ a → 92 ∉ a → Raw a
  | [], _, _ => .nil
  | b :: a, h1, h2 => by
    simp only [List.mem_cons, not_or] at h1 h2
    exact .plain (fun e => h1.1 e.symm) (fun e => h2.1 e.symm) (Raw.of_plain a h1.2 h2.2)

def cnt : List Int → Nat
  | [] => 0
  | b :: t => if b = 92 then cnt t + 1 else 0
def tr (l : List Int) : Nat := cnt l.reverse
theorem tr_snoc (l : List Int) (b : Int) : tr (l ++ [b]) = if b = 92 then tr l + 1 else 0 := by unfold tr; rw [List.reverse_append]; rfl
theorem cnt_app (m : List Int) : ∀ l : List Int, cnt (l ++ m) = if (∀ x ∈ l, x = 92) then l.length + cnt m else cnt l
  | [] => by simp
  | b :: l => by
    have ih := cnt_app m l
    by_cases hb : b = 92
    · rw [List.cons_append]
      simp only [cnt, if_pos hb, ih]
      by_cases h : ∀ x ∈ l, x = 92
      · rw [if_pos h, if_pos]
        · rw [List.length_cons]; omega
        · intro x hx
          rcases List.mem_cons.1 hx with rfl | hx
          · exact hb
          · exact h x hx
      · rw [if_neg h, if_neg (fun k => h (fun x hx => k x (List.mem_cons_of_mem _ hx)))]
    · rw [List.cons_append]
      simp only [cnt, if_neg hb]
      rw [if_neg (fun k => hb (k b List.mem_cons_self))]
theorem cnt_all : ∀ l : List Int, (∀ x ∈ l, x = 92) → cnt l = l.length
  | [], _ => rfl
  | b :: l, h => by
    simp only [cnt, if_pos (h b List.mem_cons_self), List.length_cons]
    rw [cnt_all l (fun x hx => h x (List.mem_cons_of_mem _ hx))]
theorem tr_cons (b : Int) (t : List Int) (hb : b ≠ 92) : tr (b :: t) = tr t := by
  unfold tr
  rw [List.reverse_cons, cnt_app]
  split
  · rename_i h
    rw [cnt_all _ h]
    simp [cnt, hb]
  · rfl
theorem tr_esc (b : Int) (t : List Int) : tr (92 :: b :: t) % 2 = tr t % 2 := by
  have e : (92 :: b :: t).reverse = t.reverse ++ [b, 92] := by simp
  unfold tr
  rw [e, cnt_app]
  split
  · rename_i h
    rw [cnt_all _ h]
    by_cases hb : b = 92
    · simp [cnt, hb]
    · simp [cnt, hb]
  · rfl

theorem raw_of : ∀ (d : Nat) (a : List Int), a.length ≤ d → 34 ∉ a → (tr a % 2 = 0 → Raw a) ∧ (tr a % 2 = 1 → ∀ c, Raw (a ++ [c])) := by
  intro d
  induction d with
  | zero =>
    intro a hd h
    obtain rfl : a = [] := List.eq_nil_of_length_eq_zero (by omega)
    exact ⟨fun _ => .nil, fun h => by simp [tr, cnt] at h⟩
  | succ d ih =>
    intro a hd h
    match a, hd, h with
    | [], _, _ => exact ⟨fun _ => .nil, fun h => by simp [tr, cnt] at h⟩
    | b :: t, hd, h =>
      rw [List.length_cons] at hd
      simp only [List.mem_cons, not_or] at h
      by_cases hb : b = 92
      · subst hb
        match t, hd, h with
        | [], _, _ => exact ⟨fun h => by simp [tr, cnt] at h, fun _ c => .esc .nil⟩
        | c :: t, hd, h =>
          rw [List.length_cons] at hd
          simp only [List.mem_cons, not_or] at h
          obtain ⟨k1, k2⟩ := ih t (by omega) h.2.2
          rw [tr_esc]
          exact ⟨fun e => .esc (k1 e), fun e c => .esc (k2 e c)⟩
      · obtain ⟨k1, k2⟩ := ih t (by omega) h.2
        rw [tr_cons b t hb]
        exact ⟨fun e => .plain (fun e => h.1 e.symm) hb (k1 e), fun e c => .plain (fun e => h.1 e.symm) hb (k2 e c)⟩

theorem Raw.no34 {a : List Int} (h : Raw a) : ∀ {m : List Int}, ¬ Raw (a ++ 34 :: m) := by
  induction h with
  | nil =>
    intro m h
    cases h with
    | plain h1 _ _ => exact h1 rfl
  | plain h1 h2 _ ih =>
    intro m h
    exact ih (Raw.tail h h2).2
  | esc _ ih =>
    intro m h
    cases h with
    | plain _ h2 _ => exact h2 rfl
    | esc ht => exact ih ht
theorem Raw.cut2 {p : List Int} (h : Raw p) : ∀ {b z u : List Int}, Raw b → p ++ z = b ++ 34 :: u → ∃ m, b = p ++ m ∧ z = m ++ 34 :: u := by
  induction h with
  | nil => intro b z u hb e; exact ⟨b, rfl, e⟩
  | @plain x t h1 h2 _ ih =>
    intro b z u hb e
    cases hb with
    | nil =>
      simp only [List.nil_append, List.cons_append] at e
      injection e with e1 e2
      exact absurd e1 h1
    | plain g1 g2 g =>
      simp only [List.cons_append] at e
      injection e with e1 e2
      subst e1
      obtain ⟨m, m1, m2⟩ := ih g e2
      exact ⟨m, by rw [m1]; rfl, m2⟩
    | esc g =>
      simp only [List.cons_append] at e
      injection e with e1 e2
      exact absurd e1 h2
  | @esc x t _ ih =>
    intro b z u hb e
    cases hb with
    | nil =>
      simp only [List.nil_append, List.cons_append] at e
      injection e with e1 e2
      omega
    | plain g1 g2 g =>
      simp only [List.cons_append] at e
      injection e with e1 e2
      exact absurd e1.symm g2
    | esc g =>
      simp only [List.cons_append] at e
      injection e with e1 e2
      injection e2 with e2 e3
      subst e2
      obtain ⟨m, m1, m2⟩ := ih g e3
      exact ⟨m, by rw [m1]; rfl, m2⟩
theorem Raw.uniq {a b t u : List Int} (h : Raw a) (k : Raw b) (e : a ++ 34 :: t = b ++ 34 :: u) : a = b ∧ t = u := by
  obtain ⟨m, m1, m2⟩ := h.cut2 k e
  cases m with
  | nil =>
    simp only [List.nil_append] at m2
    injection m2 with _ m2
    exact ⟨by simpa using m1.symm, m2⟩
  | cons x m =>
    simp only [List.cons_append] at m2
    injection m2 with m2 _
    rw [m1, ← m2] at k
    exact absurd k h.no34
theorem Raw.drops : ∀ (p : List Int) {t : List Int}, Raw (p ++ t) → (∀ b ∈ p, b ≠ 92) → Raw t
  | [], _, h, _ => h
  | b :: p, t, h, hn => Raw.drops p (Raw.tail h (hn b List.mem_cons_self)).2 (fun c hc => hn c (List.mem_cons_of_mem _ hc))
theorem hex_raw : ∀ (d : List Int) {t : List Int}, (∀ c ∈ d, isHex c = true) → Raw t → Raw (d ++ t)
  | [], _, _, h => h
  | c :: d, t, hd, h => by
    have h1 : (48 ≤ c ∧ c ≤ 57) ∨ (97 ≤ c ∧ c ≤ 102) ∨ (65 ≤ c ∧ c ≤ 70) := by simpa [isHex] using hd c List.mem_cons_self
    exact .plain (by omega) (by omega) (hex_raw d (fun x hx => hd x (List.mem_cons_of_mem _ hx)) h)
theorem raw_ins {d : List Int} (h : Ins d) : Raw d := by
  induction h with
  | nil => exact .nil
  | plain h1 h2 _ _ ih => exact .plain h1 h2 ih
  | short _ _ ih => exact .esc ih
  | uni _ hd _ ih => exact .esc (hex_raw _ hd ih)

/-- What parseRawString tells of a text with the inside raw and the rest t. -/
def RS (raw t : List Int) (r : ByteArray × ByteArray × Option Int) : Prop := r.2.2 = none ∧ ints r.1 = raw ∧ ints r.2.1 = t

section
variable (x6 : ByteArray) (hn : x6.size ≤ 2147483647)

theorem raw_l1 (x0 : ByteArray) (hx : x0.size ≤ 2147483647) (a t : List Int) (hs : ints x0 = a ++ 34 :: t) (P : ByteArray × ByteArray × Option Int → Prop)
    (hj : ∀ i : Int, 0 ≤ i → (a.length : Int) - i = (tr a : Int) → EvP (fun k => fastjson_parseRawString.j3 k x0 (a.length : Int) x6 i) P) :
    ∀ (d : Nat) (q run : List Int), q.length = d → a = q ++ run → tr a = tr q + run.length → EvP (fun k => fastjson_parseRawString.l1 k x0 (a.length : Int) x6 (q.length : Int)) P := by
  have hsz := size_app hs
  rw [List.length_cons] at hsz
  intro d
  induction d with
  | zero =>
    intro q run hd ha htr
    obtain rfl : q = [] := List.eq_nil_of_length_eq_zero hd
    refine EvP.succ ?_
    simp only [fastjson_parseRawString.l1]
    refine EvP.neg (by simp) (hj _ (by simp) ?_)
    rw [htr, ha]; simp [tr, cnt]
  | succ d ih =>
    intro q run hd ha htr
    rcases List.eq_nil_or_concat q with rfl | ⟨q', b, rfl⟩
    · simp at hd
    · rw [List.concat_eq_append] at *
      have hl := congrArg List.length ha
      rw [List.length_append, List.length_append, List.length_singleton] at hl
      rw [List.length_append, List.length_singleton] at hd ⊢
      have hb : bt x0 (q'.length : Int) = b := bt_back (q := q') (r := run ++ 34 :: t) (by rw [hs, ha]; simp)
      refine EvP.succ ?_
      simp only [fastjson_parseRawString.l1]
      rw [w64 (x := ((q'.length + 1 : Nat) : Int) - 1) (by omega) (by omega), show ((q'.length + 1 : Nat) : Int) - 1 = (q'.length : Int) from by omega, hb]
      refine EvP.pos (by omega) (EvP.pos (by omega) (EvP.pos (by omega) (EvP.ite (fun e => ?_) (fun e => ?_))))
      · refine ih q' (b :: run) (by omega) (by rw [ha]; simp) ?_
        rw [htr, tr_snoc, if_pos e, List.length_cons]; omega
      · refine hj _ (by omega) ?_
        rw [htr, tr_snoc, if_neg e]; omega

theorem raw_l0 (hn : x6.size ≤ 2147483647) {W T : List Int} (hw : ints x6 = W ++ 34 :: T) (hW : Raw W) : ∀ (d : Nat) (x0 : ByteArray) (pre a t : List Int), x0.size ≤ d → ints x6 = pre ++ ints x0 → Raw pre → ints x0 = a ++ 34 :: t → 34 ∉ a → a ≠ [] → tr a ≠ 0 →
    EvP (fun k => fastjson_parseRawString.l0 k x0 (a.length : Int) x6) (RS W T) := by
  intro d
  induction d with
  | zero =>
    intro x0 pre a t hd hp hpre hs h34 hne htr
    have := size_app hs
    rw [List.length_cons] at this
    omega
  | succ d ih =>
    intro x0 pre a t hd hp hpre hs h34 hne htr
    have hsz := size_app hs
    have hsz6 := size_app hp
    rw [ints_length] at hsz6
    rw [List.length_cons] at hsz
    have hal : 0 < a.length := List.length_pos_iff.2 hne
    obtain ⟨rawe, rawo⟩ := raw_of a.length a (Nat.le_refl _) h34
    refine EvP.succ ?_
    simp only [fastjson_parseRawString.l0]
    rw [w64 (x := (a.length : Int) - 1) (by omega) (by omega)]
    obtain ⟨q, b, hq⟩ : ∃ q b, a = q ++ [b] := by
      rcases List.eq_nil_or_concat a with h | ⟨q, b, h⟩
      · exact absurd h hne
      · exact ⟨q, b, by rw [h, List.concat_eq_append]⟩
    have hb : b = 92 := by
      rw [hq, tr_snoc] at htr
      by_cases e : b = 92
      · exact e
      · rw [if_neg e] at htr; exact absurd rfl htr
    have hql := congrArg List.length hq
    rw [List.length_append, List.length_singleton] at hql
    rw [show (a.length : Int) - 1 = (q.length : Int) from by omega]
    refine raw_l1 x6 x0 (by omega) a t hs _ (fun i h0 hi => ?_) q.length q [b] rfl hq (by rw [hq, tr_snoc, if_pos hb]; rfl)
    refine EvP.succ ?_
    simp only [fastjson_parseRawString.j3]
    have htl : tr a ≤ a.length := by omega
    rw [w64 (x := (a.length : Int) - i) (by omega) (by omega), hi, u64w (x := (tr a : Int)) (by omega) (by omega), Int.tmod_eq_emod_of_nonneg (by omega), w64 (x := (x6.size : Int) - (x0.size : Int)) (by omega) (by omega), w64 (x := (x6.size : Int) - (x0.size : Int) + (a.length : Int)) (by omega) (by omega), w64 (x := (a.length : Int) + 1) (by omega) (by omega)]
    refine EvP.ite (fun he => ?_) (fun he => ?_)
    · have hu := Raw.uniq (t := t) (hpre.append (rawe (by omega))) hW (by rw [← hw, hp, hs, List.append_assoc])
      refine EvP.pos (by omega) (EvP.pos (by omega) (EvP.pos (by omega) (EvP.pos (by omega) (EvP.ret _ ⟨rfl, ?_, ?_⟩))))
      · dsimp only
        rw [show ((x6.size : Int) - (x0.size : Int) + (a.length : Int)).toNat = (pre ++ a).length from by rw [List.length_append]; omega, ← hu.1]
        exact front_ints (t := 34 :: t) (by rw [hp, hs, List.append_assoc])
      · dsimp only
        rw [show ((a.length : Int) + 1).toNat = a.length + 1 from by omega, back1_ints hs, hu.2]
    · refine EvP.pos (by omega) (EvP.pos (by omega) ?_)
      rw [show ((a.length : Int) + 1).toNat = a.length + 1 from by omega]
      have hx' := back1_ints hs
      have hxs := ext_size x0 (a.length + 1)
      generalize x0.extract (a.length + 1) x0.size = y at hx' hxs ⊢
      have hpy : ints x6 = (pre ++ a ++ [34]) ++ ints y := by rw [hp, hs, hx']; simp
      have hprey : Raw (pre ++ a ++ [34]) := by rw [List.append_assoc]; exact hpre.append (rawo (by omega) 34)
      have hpyl : (pre ++ a ++ [34]).length = pre.length + a.length + 1 := by simp; omega
      rcases ib y 34 (by omega) with ⟨e, he⟩ | ⟨a', t', e1, e2, e3⟩
      · obtain ⟨m, _, m2⟩ := hprey.cut2 hW (hpy.symm.trans hw)
        exact absurd (by rw [m2]; simp) he
      · rw [e3]
        simp only [Option.bind_some]
        have hys := size_app e1
        rw [List.length_cons] at hys
        have done : Raw a' → ∀ k : Nat, k = a'.length → RS W T (x6.extract 0 ((x6.size : Int) - (y.size : Int) + (k : Int)).toNat, y.extract ((k : Int) + 1).toNat y.size, none) := by
          rintro hr k rfl
          have hu := Raw.uniq (t := t') (hprey.append hr) hW (by rw [← hw, hpy, e1, List.append_assoc _ a'])
          refine ⟨rfl, ?_, ?_⟩
          · dsimp only
            rw [show ((x6.size : Int) - (y.size : Int) + (a'.length : Int)).toNat = (pre ++ a ++ [34] ++ a').length from by rw [List.length_append, hpyl]; omega, ← hu.1]
            exact front_ints (t := 34 :: t') (by rw [hpy, e1, List.append_assoc _ a'])
          · dsimp only
            rw [show ((a'.length : Int) + 1).toNat = a'.length + 1 from by omega, back1_ints e1, hu.2]
        rw [w64 (x := (x6.size : Int) - (y.size : Int)) (by omega) (by omega), w64 (x := (x6.size : Int) - (y.size : Int) + (a'.length : Int)) (by omega) (by omega), w64 (x := (a'.length : Int) + 1) (by omega) (by omega), w64 (x := (a'.length : Int) - 1) (by omega) (by omega)]
        refine EvP.neg (by omega) (EvP.ite (fun hz => ?_) (fun hz => ?_))
        · have hz' : a' = [] := List.eq_nil_of_length_eq_zero (by omega)
          refine EvP.pos (by omega) (EvP.pos (by omega) (EvP.pos (by omega) (EvP.pos (by omega) (EvP.ret _ (done (by rw [hz']; exact .nil) _ rfl)))))
        · obtain ⟨q', b', hq'⟩ : ∃ q b, a' = q ++ [b] := by
            rcases List.eq_nil_or_concat a' with h | ⟨q, b, h⟩
            · rw [h] at hz; exact absurd rfl hz
            · exact ⟨q, b, by rw [h, List.concat_eq_append]⟩
          have hql' := congrArg List.length hq'
          rw [List.length_append, List.length_singleton] at hql'
          have hb' : bt y (q'.length : Int) = b' := bt_back (q := q') (r := 34 :: t') (by rw [e1, hq'])
          rw [show (a'.length : Int) - 1 = (q'.length : Int) from by omega, hb']
          have htr' := tr_snoc q' b'
          rw [← hq'] at htr'
          refine EvP.pos (by omega) (EvP.pos (by omega) (EvP.ite (fun e => ?_) (fun e => ?_)))
          · rw [if_pos e] at htr'
            exact ih y _ a' t' (by omega) hpy hprey e1 e2 (fun h => hz (by rw [h]; rfl)) (by omega)
          · rw [if_neg e] at htr'
            exact EvP.pos (by omega) (EvP.pos (by omega) (EvP.pos (by omega) (EvP.pos (by omega) (EvP.ret _ (done ((raw_of a'.length a' (Nat.le_refl _) e2).1 (by omega)) _ rfl)))))
end

theorem raw_j0t (s : ByteArray) (hn : s.size ≤ 2147483647) (a t : List Int) (hs : ints s = a ++ 34 :: t) : EvP (fun k => fastjson_parseRawString.j0 k s (a.length : Int) true) (RS a t) := by
  have hsz := size_app hs
  rw [List.length_cons] at hsz
  refine EvP.succ ?_
  simp only [fastjson_parseRawString.j0]
  rw [w64 (x := (a.length : Int) + 1) (by omega) (by omega)]
  refine EvP.pos trivial (EvP.pos (by omega) (EvP.pos (by omega) (EvP.pos (by omega) (EvP.pos (by omega) (EvP.ret _ ⟨rfl, ?_, ?_⟩)))))
  · dsimp only
    rw [Int.toNat_natCast]; exact front_ints hs
  · dsimp only
    rw [show ((a.length : Int) + 1).toNat = a.length + 1 from by omega, back1_ints hs]

theorem rawstr_p {s : ByteArray} {W T : List Int} (hn : s.size ≤ 2147483647) (hw : ints s = W ++ 34 :: T) (hW : Raw W) : EvP (fun k => fastjson_parseRawString.f k s) (RS W T) := by
  unfold fastjson_parseRawString.f
  rcases ib s 34 (by omega) with ⟨e, he⟩ | ⟨a, t, hs, h34, e3⟩
  · exact absurd (by rw [hw]; simp) he
  · rw [e3]
    simp only [Option.bind_some]
    have hsz := size_app hs
    rw [List.length_cons] at hsz
    have fin : Raw a → EvP (fun k => fastjson_parseRawString.j0 k s (a.length : Int) true) (RS W T) := by
      intro ha
      obtain ⟨rfl, rfl⟩ := Raw.uniq ha hW (hs.symm.trans hw)
      exact raw_j0t s hn a t hs
    refine EvP.neg (by omega) (EvP.ite (fun hz => ?_) (fun hz => ?_))
    · have ha : a = [] := List.eq_nil_of_length_eq_zero (by omega)
      exact fin (by rw [ha]; exact .nil)
    · rw [w64 (x := (a.length : Int) - 1) (by omega) (by omega)]
      obtain ⟨q, b, hq⟩ : ∃ q b, a = q ++ [b] := by
        rcases List.eq_nil_or_concat a with h | ⟨q, b, h⟩
        · rw [h] at hz; exact absurd rfl hz
        · exact ⟨q, b, by rw [h, List.concat_eq_append]⟩
      have hql := congrArg List.length hq
      rw [List.length_append, List.length_singleton] at hql
      have hb : bt s (q.length : Int) = b := bt_back (q := q) (r := 34 :: t) (by rw [hs, hq])
      rw [show (a.length : Int) - 1 = (q.length : Int) from by omega, hb]
      have htr := tr_snoc q b
      rw [← hq] at htr
      refine EvP.pos (by omega) (EvP.pos (by omega) ?_)
      by_cases e : b = 92
      · rw [if_pos e] at htr
        have : (b != 92) = false := by rw [e]; rfl
        rw [this]
        refine EvP.succ ?_
        simp only [fastjson_parseRawString.j0]
        exact EvP.neg (by simp) (raw_l0 s hn hw hW s.size s [] a t (Nat.le_refl _) rfl .nil hs h34 (fun h => hz (by rw [h]; rfl)) (by omega))
      · rw [if_neg e] at htr
        have : (b != 92) = true := by simpa using e
        rw [this]
        exact fin ((raw_of a.length a (Nat.le_refl _) h34).1 (by omega))

theorem rawstr_ev {s : ByteArray} {W T : List Int} (hn : s.size ≤ 2147483647) (hw : ints s = W ++ 34 :: T) (hW : Raw W) : ∃ r, (∃ K0, ∀ K, K0 ≤ K → fastjson_parseRawString.f K s = some r) ∧ r.2.2 = none ∧ ints r.1 = W ∧ ints r.2.1 = T := by
  obtain ⟨r, hr, hp⟩ := rawstr_p hn hw hW
  exact ⟨r, hr, hp⟩

end Go.Proofs.YtkhgbacbnkgafaaDoor.Lx
