/- Plain laws of fastjson's checks (law PFnFjCheckMembers): blanks, strings, names and numbers: what is behind them is the end of the text; a string's inside is made of plain bytes and of pairs that a backslash begins. -/
import Derived.Test.YtfmllmlloekojaaDoorPFnFjCheckMembersx11
import Derived.Test.YtfmllmlloekojaaDoorStr
import Derived.Lib.Bytealg
set_option linter.unusedVariables false
namespace Go.Proofs.YtfmllmlloekojaaDoor.PFnFjCheckMembers.Fj
open Go.RowKit Go.Proofs.YtfmllmlloekojaaDoor.PFnFjCheckMembers Go.Proofs.YtfmllmlloekojaaDoorW.PrintWords Go.Proofs.YtfmllmlloekojaaDoorW.PrintLast Go.Proofs.YtfmllmlloekojaaDoor.EvL Go.Proofs.YtfmllmlloekojaaDoor.StrL

theorem EvP.self {α : Type} {g : Nat → Option α} {P : α → Prop} (h : EvP g P) : EvP g (fun r => Ev g r ∧ P r) := by
  obtain ⟨r, hr, hp⟩ := h
  exact ⟨r, hr, hr, hp⟩

/-! ### ends of a text -/
def Suf (r s : ByteArray) : Prop := ∃ p, ints s = p ++ ints r
theorem Suf.refl (s : ByteArray) : Suf s s := ⟨[], rfl⟩
theorem Suf.trans {a b c : ByteArray} (h : Suf a b) (k : Suf b c) : Suf a c := by
  obtain ⟨p, hp⟩ := h; obtain ⟨q, hq⟩ := k
  exact ⟨q ++ p, by rw [hq, hp, List.append_assoc]⟩
theorem Suf.size {a b : ByteArray} (h : Suf a b) : a.size ≤ b.size := by
  obtain ⟨p, hp⟩ := h
  have := congrArg List.length hp
  rw [ints_length, List.length_append, ints_length] at this
  omega
theorem ext_ints (s : ByteArray) (i : Nat) : ints (s.extract i s.size) = (ints s).drop i := by
  rw [ints_extract, List.take_of_length_le (by rw [List.length_drop, ints_length]; omega)]
theorem ext_size (s : ByteArray) (i : Nat) : (s.extract i s.size).size = s.size - i := by rw [← ints_length, ext_ints, List.length_drop, ints_length]
theorem Suf.ext (s : ByteArray) (i : Nat) : Suf (s.extract i s.size) s := ⟨(ints s).take i, by rw [ext_ints, List.take_append_drop]⟩
theorem Suf.nil (s : ByteArray) : Suf ⟨#[]⟩ s := ⟨ints s, by simp [ints]⟩
theorem front_ints {s : ByteArray} {a t : List Int} (h : ints s = a ++ t) : ints (s.extract 0 a.length) = a := by
  rw [ints_extract, List.drop_zero, h, Nat.sub_zero, List.take_left]
theorem back_ints {s : ByteArray} {a t : List Int} (h : ints s = a ++ t) : ints (s.extract a.length s.size) = t := by
  rw [ext_ints, h, List.drop_left]
theorem back1_ints {s : ByteArray} {a t : List Int} {c : Int} (h : ints s = a ++ c :: t) : ints (s.extract (a.length + 1) s.size) = t := by
  have h2 : ints s = (a ++ [c]) ++ t := by rw [h, List.append_assoc]; rfl
  have := back_ints h2
  rwa [List.length_append, List.length_singleton] at this
theorem size_app {s : ByteArray} {a t : List Int} (h : ints s = a ++ t) : s.size = a.length + t.length := by
  rw [← ints_length, h, List.length_append]
theorem bt_app {s : ByteArray} {a t : List Int} {c : Int} (h : ints s = a ++ c :: t) : bt s (a.length : Int) = c := by
  rw [bt_getD, h, Int.toNat_natCast, List.getD_eq_getElem?_getD, List.getElem?_append_right (Nat.le_refl _)]
  simp
theorem bt_back {s : ByteArray} {q r : List Int} {b : Int} (h : ints s = (q ++ [b]) ++ r) : bt s (q.length : Int) = b := by
  rw [List.append_assoc] at h; exact bt_app h

/-! ### blanks -/
theorem slow_l0 (s : ByteArray) (hn : s.size ≤ 2147483647) : ∀ (d : Nat) (i : Int), 0 ≤ i → i ≤ s.size → (s.size : Int) - i ≤ d → EvP (fun k => fastjson_skipWSSlow.l0 k s i) (fun r => Suf r s) := by
  intro d
  induction d with
  | zero =>
    intro i h0 hi hd
    refine EvP.succ ?_
    simp only [fastjson_skipWSSlow.l0]
    exact EvP.neg (by omega) (EvP.ret _ (Suf.nil s))
  | succ d ih =>
    intro i h0 hi hd
    refine EvP.succ ?_
    simp only [fastjson_skipWSSlow.l0]
    refine EvP.ite (fun hlt => EvP.pos h0 ?_) (fun _ => EvP.ret _ (Suf.nil s))
    rw [w64 (x := i + 1) (by omega) (by omega)]
    have next := ih (i + 1) (by omega) (by omega) (by omega)
    exact EvP.ite (fun _ => next) (fun _ => EvP.ite (fun _ => next) (fun _ => EvP.ite (fun _ => next) (fun _ => EvP.ite (fun _ => next) (fun _ => EvP.pos (by omega) (EvP.ret _ (Suf.ext s _))))))

theorem slow_j0 (s : ByteArray) (hn : s.size ≤ 2147483647) (h1 : 1 ≤ s.size) (v : Bool) : EvP (fun k => fastjson_skipWSSlow.j0 k s v) (fun r => Suf r s) := by
  refine EvP.succ ?_
  simp only [fastjson_skipWSSlow.j0]
  exact EvP.ite (fun _ => EvP.ret _ (Suf.refl s)) (fun _ => slow_l0 s hn s.size 1 (by omega) (by omega) (by omega))

theorem skip_f (s : ByteArray) (hn : s.size ≤ 2147483647) : EvP (fun k => fastjson_skipWS.f k s) (fun r => Suf r s) := by
  unfold fastjson_skipWS.f
  refine EvP.ite (fun _ => EvP.ret _ (Suf.refl s)) (fun h0 => EvP.pos (by omega) (EvP.ite (fun _ => EvP.ret _ (Suf.refl s)) (fun _ => ?_)))
  refine EvP.bind (Q := fun r => Suf r s) ?_ (fun r hr => EvP.ret _ hr)
  unfold fastjson_skipWSSlow.f
  have hj := slow_j0 s hn (by omega)
  exact EvP.neg h0 (EvP.pos (by omega) (EvP.ite (fun _ => hj _) (fun _ => EvP.ite (fun _ => hj _) (fun _ => EvP.ite (fun _ => hj _) (fun _ => hj _)))))

theorem impl_skip {s r : ByteArray} (h : Ev (fun k => fastjson_skipWS.f k s) r) : EvP (fun k => impl_FjSkip.f k s) (fun x => x = r) := by
  unfold impl_FjSkip.f fastjson_DoorSkip.f
  refine EvP.bind (Q := fun x => x = r) (EvP.bind (Q := fun x => x = r) (EvP.of_ev h rfl) (fun x hx => EvP.ret _ hx)) (fun x hx => EvP.ret _ hx)

/-! ### where a byte first stands -/
theorem idx (u : UInt8) : ∀ l : List UInt8, (Lib.indexByte l u = -1 ∧ u ∉ l) ∨ ∃ a t, l = a ++ u :: t ∧ u ∉ a ∧ Lib.indexByte l u = (a.length : Int)
  | [] => .inl ⟨rfl, by simp⟩
  | b :: l => by
    by_cases hb : b = u
    · subst hb
      exact .inr ⟨[], l, rfl, by simp, by simp [Lib.indexByte]⟩
    · have hb2 : (b == u) = false := by simpa using hb
      rcases idx u l with ⟨h1, h2⟩ | ⟨a, t, h1, h2, h3⟩
      · refine .inl ⟨by simp [Lib.indexByte, hb2, h1], ?_⟩
        simp only [List.mem_cons, not_or]
        exact ⟨fun e => hb e.symm, h2⟩
      · refine .inr ⟨b :: a, t, by rw [h1]; rfl, ?_, ?_⟩
        · simp only [List.mem_cons, not_or]
          exact ⟨fun e => hb e.symm, h2⟩
        · have : ¬ Lib.indexByte l u = -1 := by rw [h3]; omega
          rw [h3] at this; simp [Lib.indexByte, hb2, h3]

theorem ib (s : ByteArray) (c : Int) (hc : 0 ≤ c ∧ c ≤ 255) : (strings_IndexByte.f s c = some (-1) ∧ c ∉ ints s) ∨ ∃ a t, ints s = a ++ c :: t ∧ c ∉ a ∧ strings_IndexByte.f s c = some (a.length : Int) := by
  have hu : ((c.toNat.toUInt8).toNat : Int) = c := by
    have : c.toNat.toUInt8.toNat = c.toNat % 256 := by simp
    omega
  have hinj : ∀ (l : List UInt8), c ∈ l.map (fun b => (b.toNat : Int)) → c.toNat.toUInt8 ∈ l := by
    intro l h
    obtain ⟨b, hb, e⟩ := List.mem_map.1 h
    have : b = c.toNat.toUInt8 := by
      apply UInt8.toNat_inj.1
      omega
    rw [← this]; exact hb
  unfold strings_IndexByte.f
  rcases idx c.toNat.toUInt8 s.data.toList with ⟨h1, h2⟩ | ⟨a, t, h1, h2, h3⟩
  · exact .inl ⟨by rw [h1], fun h => h2 (hinj _ h)⟩
  · refine .inr ⟨a.map fun b => (b.toNat : Int), t.map fun b => (b.toNat : Int), ?_, fun h => h2 (hinj _ h), by rw [h3, List.length_map]⟩
    unfold ints
    rw [h1, List.map_append, List.map_cons, hu]

/-! ### a string's inside -/
inductive Raw : List Int → Prop
  | nil : Raw []
  | plain {b : Int} {t : List Int} (h1 : b ≠ 34) (h2 : b ≠ 92) (ht : Raw t) : Raw (b :: t)
  | esc {b : Int} {t : List Int} (ht : Raw t) : Raw (92 :: b :: t)

theorem Raw.append {a b : List Int} (h : Raw a) (k : Raw b) : Raw (a ++ b) := by
  induction h with
  | nil => exact k
  | plain h1 h2 _ ih => exact .plain h1 h2 ih
  | esc _ ih => exact .esc ih
theorem Raw.tail {b : Int} {t : List Int} (h : Raw (b :: t)) (hb : b ≠ 92) : b ≠ 34 ∧ Raw t := by
  cases h with
  | plain h1 _ ht => exact ⟨h1, ht⟩
  | esc => exact absurd rfl hb
theorem Raw.cut : ∀ (a : List Int) {t : List Int}, Raw (a ++ 92 :: t) → 92 ∉ a → 34 ∉ a ∧ ∃ b t', t = b :: t' ∧ Raw t'
  | [], t, h, _ => by
    cases h with
    | plain _ h2 _ => exact absurd rfl h2
    | @esc b t' ht => exact ⟨by simp, b, t', rfl, ht⟩
  | c :: a, t, h, hn => by
    simp only [List.mem_cons, not_or] at hn
    obtain ⟨h1, h2⟩ := Raw.tail h (fun e => hn.1 e.symm)
    obtain ⟨h3, h4⟩ := Raw.cut a h2 hn.2
    refine ⟨?_, h4⟩
    simp only [List.mem_cons, not_or]
    exact ⟨fun e => h1 e.symm, h3⟩
theorem Raw.of_plain : ∀ (a : List Int), 34 ∉ a → 92 ∉ a → Raw a
  | [], _, _ => .nil
  | b :: a, h1, h2 => by
    simp only [List.mem_cons, not_or] at h1 h2
    exact .plain (fun e => h1.1 e.symm) (fun e => h2.1 e.symm) (Raw.of_plain a h1.2 h2.2)

def cnt : List Int → Nat
  | [] => 0
  | b :: t => if b = 92 then cnt t + 1 else 0
def tr (l : List Int) : Nat := cnt l.reverse
theorem tr_snoc (l : List Int) (b : Int) : tr (l ++ [b]) = if b = 92 then tr l + 1 else 0 := by unfold tr; rw [List.reverse_append]; rfl
theorem cnt_app (m : List Int) : ∀ l : List Int, cnt (l ++ m) = if (∀ x ∈ l, x = 92) then l.length + cnt m else cnt l
  | [] => by simp
  | b :: l => by
    have ih := cnt_app m l
    by_cases hb : b = 92
    · rw [List.cons_append]
      simp only [cnt, if_pos hb, ih]
      by_cases h : ∀ x ∈ l, x = 92
      · rw [if_pos h, if_pos]
        · rw [List.length_cons]; omega
        · intro x hx
          rcases List.mem_cons.1 hx with rfl | hx
          · exact hb
          · exact h x hx
      · rw [if_neg h, if_neg (fun k => h (fun x hx => k x (List.mem_cons_of_mem _ hx)))]
    · rw [List.cons_append]
      simp only [cnt, if_neg hb]
      rw [if_neg (fun k => hb (k b List.mem_cons_self))]
theorem cnt_all : ∀ l : List Int, (∀ x ∈ l, x = 92) → cnt l = l.length
  | [], _ => rfl
  | b :: l, h => by
    simp only [cnt, if_pos (h b List.mem_cons_self), List.length_cons]
    rw [cnt_all l (fun x hx => h x (List.mem_cons_of_mem _ hx))]
theorem tr_cons (b : Int) (t : List Int) (hb : b ≠ 92) : tr (b :: t) = tr t := by
  unfold tr
  rw [List.reverse_cons, cnt_app]
  split
  · rename_i h
    rw [cnt_all _ h]
    simp [cnt, hb]
  · rfl
theorem tr_esc (b : Int) (t : List Int) : tr (92 :: b :: t) % 2 = tr t % 2 := by
  have e : (92 :: b :: t).reverse = t.reverse ++ [b, 92] := by simp
  unfold tr
  rw [e, cnt_app]
  split
  · rename_i h
    rw [cnt_all _ h]
    by_cases hb : b = 92
    · simp [cnt, hb]
    · simp [cnt, hb]
  · rfl

theorem raw_of : ∀ (d : Nat) (a : List Int), a.length ≤ d → 34 ∉ a → (tr a % 2 = 0 → Raw a) ∧ (tr a % 2 = 1 → ∀ c, Raw (a ++ [c])) := by
  intro d
  induction d with
  | zero =>
    intro a hd h
    obtain rfl : a = [] := List.eq_nil_of_length_eq_zero (by omega)
    exact ⟨fun _ => .nil, fun h => by simp [tr, cnt] at h⟩
  | succ d ih =>
    intro a hd h
    match a, hd, h with
    | [], _, _ => exact ⟨fun _ => .nil, fun h => by simp [tr, cnt] at h⟩
    | b :: t, hd, h =>
      rw [List.length_cons] at hd
      simp only [List.mem_cons, not_or] at h
      by_cases hb : b = 92
      · subst hb
        match t, hd, h with
        | [], _, _ => exact ⟨fun h => by simp [tr, cnt] at h, fun _ c => .esc .nil⟩
        | c :: t, hd, h =>
          rw [List.length_cons] at hd
          simp only [List.mem_cons, not_or] at h
          obtain ⟨k1, k2⟩ := ih t (by omega) h.2.2
          rw [tr_esc]
          exact ⟨fun e => .esc (k1 e), fun e c => .esc (k2 e c)⟩
      · obtain ⟨k1, k2⟩ := ih t (by omega) h.2
        rw [tr_cons b t hb]
        exact ⟨fun e => .plain (fun e => h.1 e.symm) hb (k1 e), fun e c => .plain (fun e => h.1 e.symm) hb (k2 e c)⟩

/-- What parseRawString tells. -/
def RS (s : ByteArray) (r : ByteArray × ByteArray × Option Int) : Prop := r.2.2 = none → ∃ raw, ints s = raw ++ 34 :: ints r.2.1 ∧ Raw raw ∧ ints r.1 = raw

section
variable (x6 : ByteArray) (hn : x6.size ≤ 2147483647)

theorem raw_l1 (x0 : ByteArray) (hx : x0.size ≤ 2147483647) (a t : List Int) (hs : ints x0 = a ++ 34 :: t) (P : ByteArray × ByteArray × Option Int → Prop)
    (hj : ∀ i : Int, 0 ≤ i → (a.length : Int) - i = (tr a : Int) → EvP (fun k => fastjson_parseRawString.j3 k x0 (a.length : Int) x6 i) P) :
    ∀ (d : Nat) (q run : List Int), q.length = d → a = q ++ run → tr a = tr q + run.length → EvP (fun k => fastjson_parseRawString.l1 k x0 (a.length : Int) x6 (q.length : Int)) P := by
  have hsz := size_app hs
  rw [List.length_cons] at hsz
  intro d
  induction d with
  | zero =>
    intro q run hd ha htr
    obtain rfl : q = [] := List.eq_nil_of_length_eq_zero hd
    refine EvP.succ ?_
    simp only [fastjson_parseRawString.l1]
    refine EvP.neg (by simp) (hj _ (by simp) ?_)
    rw [htr, ha]; simp [tr, cnt]
  | succ d ih =>
    intro q run hd ha htr
    rcases List.eq_nil_or_concat q with rfl | ⟨q', b, rfl⟩
    · simp at hd
    · rw [List.concat_eq_append] at *
      have hl := congrArg List.length ha
      rw [List.length_append, List.length_append, List.length_singleton] at hl
      rw [List.length_append, List.length_singleton] at hd ⊢
      have hb : bt x0 (q'.length : Int) = b := bt_back (q := q') (r := run ++ 34 :: t) (by rw [hs, ha]; simp)
      refine EvP.succ ?_
      simp only [fastjson_parseRawString.l1]
      rw [w64 (x := ((q'.length + 1 : Nat) : Int) - 1) (by omega) (by omega), show ((q'.length + 1 : Nat) : Int) - 1 = (q'.length : Int) from by omega, hb]
      refine EvP.pos (by omega) (EvP.pos (by omega) (EvP.pos (by omega) (EvP.ite (fun e => ?_) (fun e => ?_))))
      · refine ih q' (b :: run) (by omega) (by rw [ha]; simp) ?_
        rw [htr, tr_snoc, if_pos e, List.length_cons]; omega
      · refine hj _ (by omega) ?_
        rw [htr, tr_snoc, if_neg e]; omega

theorem raw_l0 (hn : x6.size ≤ 2147483647) : ∀ (d : Nat) (x0 : ByteArray) (pre a t : List Int), x0.size ≤ d → ints x6 = pre ++ ints x0 → Raw pre → ints x0 = a ++ 34 :: t → 34 ∉ a → a ≠ [] → tr a ≠ 0 →
    EvP (fun k => fastjson_parseRawString.l0 k x0 (a.length : Int) x6) (RS x6) := by
  intro d
  induction d with
  | zero =>
    intro x0 pre a t hd hp hpre hs h34 hne htr
    have := size_app hs
    rw [List.length_cons] at this
    omega
  | succ d ih =>
    intro x0 pre a t hd hp hpre hs h34 hne htr
    have hsz := size_app hs
    have hsz6 := size_app hp
    rw [ints_length] at hsz6
    rw [List.length_cons] at hsz
    have hal : 0 < a.length := List.length_pos_iff.2 hne
    obtain ⟨rawe, rawo⟩ := raw_of a.length a (Nat.le_refl _) h34
    refine EvP.succ ?_
    simp only [fastjson_parseRawString.l0]
    rw [w64 (x := (a.length : Int) - 1) (by omega) (by omega)]
    obtain ⟨q, b, hq⟩ : ∃ q b, a = q ++ [b] := by
      rcases List.eq_nil_or_concat a with h | ⟨q, b, h⟩
      · exact absurd h hne
      · exact ⟨q, b, by rw [h, List.concat_eq_append]⟩
    have hb : b = 92 := by
      rw [hq, tr_snoc] at htr
      by_cases e : b = 92
      · exact e
      · rw [if_neg e] at htr; exact absurd rfl htr
    have hql := congrArg List.length hq
    rw [List.length_append, List.length_singleton] at hql
    rw [show (a.length : Int) - 1 = (q.length : Int) from by omega]
    refine raw_l1 x6 x0 (by omega) a t hs _ (fun i h0 hi => ?_) q.length q [b] rfl hq (by rw [hq, tr_snoc, if_pos hb]; rfl)
    refine EvP.succ ?_
    simp only [fastjson_parseRawString.j3]
    have htl : tr a ≤ a.length := by omega
    rw [w64 (x := (a.length : Int) - i) (by omega) (by omega), hi, u64w (x := (tr a : Int)) (by omega) (by omega), Int.tmod_eq_emod_of_nonneg (by omega), w64 (x := (x6.size : Int) - (x0.size : Int)) (by omega) (by omega), w64 (x := (x6.size : Int) - (x0.size : Int) + (a.length : Int)) (by omega) (by omega), w64 (x := (a.length : Int) + 1) (by omega) (by omega)]
    refine EvP.ite (fun he => ?_) (fun he => ?_)
    · refine EvP.pos (by omega) (EvP.pos (by omega) (EvP.pos (by omega) (EvP.pos (by omega) (EvP.ret _ (fun _ => ⟨pre ++ a, ?_, hpre.append (rawe (by omega)), ?_⟩)))))
      · dsimp only
        rw [show ((a.length : Int) + 1).toNat = a.length + 1 from by omega, back1_ints hs, hp, hs, List.append_assoc]
      · dsimp only
        rw [show ((x6.size : Int) - (x0.size : Int) + (a.length : Int)).toNat = (pre ++ a).length from by rw [List.length_append]; omega]
        exact front_ints (t := 34 :: t) (by rw [hp, hs, List.append_assoc])
    · refine EvP.pos (by omega) (EvP.pos (by omega) ?_)
      rw [show ((a.length : Int) + 1).toNat = a.length + 1 from by omega]
      have hx' := back1_ints hs
      have hxs := ext_size x0 (a.length + 1)
      generalize x0.extract (a.length + 1) x0.size = y at hx' hxs ⊢
      have hpy : ints x6 = (pre ++ a ++ [34]) ++ ints y := by rw [hp, hs, hx']; simp
      have hprey : Raw (pre ++ a ++ [34]) := by rw [List.append_assoc]; exact hpre.append (rawo (by omega) 34)
      have hpyl : (pre ++ a ++ [34]).length = pre.length + a.length + 1 := by simp; omega
      rcases ib y 34 (by omega) with ⟨e, _⟩ | ⟨a', t', e1, e2, e3⟩
      · rw [e]
        simp only [Option.bind_some, errors_New.f]
        exact EvP.pos (by omega) (EvP.ret _ (fun h => by cases h))
      · rw [e3]
        simp only [Option.bind_some]
        have hys := size_app e1
        rw [List.length_cons] at hys
        have done : Raw a' → ∀ k : Nat, k = a'.length → RS x6 (x6.extract 0 ((x6.size : Int) - (y.size : Int) + (k : Int)).toNat, y.extract ((k : Int) + 1).toNat y.size, none) := by
          rintro hr k rfl _
          refine ⟨pre ++ a ++ [34] ++ a', ?_, hprey.append hr, ?_⟩
          · dsimp only
            rw [show ((a'.length : Int) + 1).toNat = a'.length + 1 from by omega, back1_ints e1, hpy, e1, List.append_assoc _ a']
          · dsimp only
            rw [show ((x6.size : Int) - (y.size : Int) + (a'.length : Int)).toNat = (pre ++ a ++ [34] ++ a').length from by rw [List.length_append, hpyl]; omega]
            exact front_ints (t := 34 :: t') (by rw [hpy, e1, List.append_assoc _ a'])
        rw [w64 (x := (x6.size : Int) - (y.size : Int)) (by omega) (by omega), w64 (x := (x6.size : Int) - (y.size : Int) + (a'.length : Int)) (by omega) (by omega), w64 (x := (a'.length : Int) + 1) (by omega) (by omega), w64 (x := (a'.length : Int) - 1) (by omega) (by omega)]
        refine EvP.neg (by omega) (EvP.ite (fun hz => ?_) (fun hz => ?_))
        · have hz' : a' = [] := List.eq_nil_of_length_eq_zero (by omega)
          refine EvP.pos (by omega) (EvP.pos (by omega) (EvP.pos (by omega) (EvP.pos (by omega) (EvP.ret _ (done (by rw [hz']; exact .nil) _ rfl)))))
        · obtain ⟨q', b', hq'⟩ : ∃ q b, a' = q ++ [b] := by
            rcases List.eq_nil_or_concat a' with h | ⟨q, b, h⟩
            · rw [h] at hz; exact absurd rfl hz
            · exact ⟨q, b, by rw [h, List.concat_eq_append]⟩
          have hql' := congrArg List.length hq'
          rw [List.length_append, List.length_singleton] at hql'
          have hb' : bt y (q'.length : Int) = b' := bt_back (q := q') (r := 34 :: t') (by rw [e1, hq'])
          rw [show (a'.length : Int) - 1 = (q'.length : Int) from by omega, hb']
          have htr' := tr_snoc q' b'
          rw [← hq'] at htr'
          refine EvP.pos (by omega) (EvP.pos (by omega) (EvP.ite (fun e => ?_) (fun e => ?_)))
          · rw [if_pos e] at htr'
            exact ih y _ a' t' (by omega) hpy hprey e1 e2 (fun h => hz (by rw [h]; rfl)) (by omega)
          · rw [if_neg e] at htr'
            exact EvP.pos (by omega) (EvP.pos (by omega) (EvP.pos (by omega) (EvP.pos (by omega) (EvP.ret _ (done ((raw_of a'.length a' (Nat.le_refl _) e2).1 (by omega)) _ rfl)))))
end

theorem raw_j0t (s : ByteArray) (hn : s.size ≤ 2147483647) (a t : List Int) (hs : ints s = a ++ 34 :: t) (hr : Raw a) : EvP (fun k => fastjson_parseRawString.j0 k s (a.length : Int) true) (RS s) := by
  have hsz := size_app hs
  rw [List.length_cons] at hsz
  refine EvP.succ ?_
  simp only [fastjson_parseRawString.j0]
  rw [w64 (x := (a.length : Int) + 1) (by omega) (by omega)]
  refine EvP.pos trivial (EvP.pos (by omega) (EvP.pos (by omega) (EvP.pos (by omega) (EvP.pos (by omega) (EvP.ret _ (fun _ => ⟨a, ?_, hr, ?_⟩))))))
  · dsimp only
    rw [show ((a.length : Int) + 1).toNat = a.length + 1 from by omega, back1_ints hs, hs]
  · dsimp only
    rw [Int.toNat_natCast]; exact front_ints hs

theorem rawstring_f (s : ByteArray) (hn : s.size ≤ 2147483647) : EvP (fun k => fastjson_parseRawString.f k s) (RS s) := by
  unfold fastjson_parseRawString.f
  rcases ib s 34 (by omega) with ⟨e, _⟩ | ⟨a, t, hs, h34, e3⟩
  · rw [e]
    simp only [Option.bind_some, errors_New.f]
    exact EvP.pos (by omega) (EvP.ret _ (fun h => by cases h))
  · rw [e3]
    simp only [Option.bind_some]
    have hsz := size_app hs
    rw [List.length_cons] at hsz
    refine EvP.neg (by omega) (EvP.ite (fun hz => ?_) (fun hz => ?_))
    · have ha : a = [] := List.eq_nil_of_length_eq_zero (by omega)
      exact raw_j0t s hn a t hs (by rw [ha]; exact .nil)
    · rw [w64 (x := (a.length : Int) - 1) (by omega) (by omega)]
      obtain ⟨q, b, hq⟩ : ∃ q b, a = q ++ [b] := by
        rcases List.eq_nil_or_concat a with h | ⟨q, b, h⟩
        · rw [h] at hz; exact absurd rfl hz
        · exact ⟨q, b, by rw [h, List.concat_eq_append]⟩
      have hql := congrArg List.length hq
      rw [List.length_append, List.length_singleton] at hql
      have hb : bt s (q.length : Int) = b := bt_back (q := q) (r := 34 :: t) (by rw [hs, hq])
      rw [show (a.length : Int) - 1 = (q.length : Int) from by omega, hb]
      have htr := tr_snoc q b
      rw [← hq] at htr
      refine EvP.pos (by omega) (EvP.pos (by omega) ?_)
      by_cases e : b = 92
      · rw [if_pos e] at htr
        have : (b != 92) = false := by rw [e]; rfl
        rw [this]
        refine EvP.succ ?_
        simp only [fastjson_parseRawString.j0]
        exact EvP.neg (by simp) (raw_l0 s hn s.size s [] a t (Nat.le_refl _) rfl .nil hs h34 (fun h => hz (by rw [h]; rfl)) (by omega))
      · rw [if_neg e] at htr
        have : (b != 92) = true := by simpa using e
        rw [this]
        exact raw_j0t s hn a t hs ((raw_of a.length a (Nat.le_refl _) h34).1 (by omega))

end Go.Proofs.YtfmllmlloekojaaDoor.PFnFjCheckMembers.Fj
