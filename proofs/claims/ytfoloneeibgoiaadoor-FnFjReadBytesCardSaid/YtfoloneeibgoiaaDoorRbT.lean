/- fastjson's parser answers for every text; what it reads is no larger than the text. -/
import Derived.Test.YtfoloneeibgoiaaDoorRpLx
import Derived.Test.YtfoloneeibgoiaaDoorFjD
import Derived.Test.YtfoloneeibgoiaaDoorFjNd
set_option linter.unusedVariables false
namespace Go.Proofs.YtfoloneeibgoiaaDoor.Lx
open Go Go.RowKit Go.Proofs.YtfoloneeibgoiaaDoor.Lex Go.Proofs.YtfoloneeibgoiaaDoorW.PrintWords Go.Proofs.YtfoloneeibgoiaaDoorW.PrintLast Go.Proofs.YtfoloneeibgoiaaDoor.EvL Go.Proofs.YtfoloneeibgoiaaDoor.StrL Go.Proofs.YtfoloneeibgoiaaDoor.JTr

/-- What parseRawString tells of any text. -/
def RSo (s : ByteArray) (r : ByteArray × ByteArray × Option Int) : Prop := r.2.2 = none → ∃ raw, ints s = raw ++ 34 :: ints r.2.1 ∧ Raw raw ∧ ints r.1 = raw

section
variable (x6 : ByteArray) (hn : x6.size ≤ 2147483647)
theorem raw_l0o (hn : x6.size ≤ 2147483647) : ∀ (d : Nat) (x0 : ByteArray) (pre a t : List Int), x0.size ≤ d → ints x6 = pre ++ ints x0 → Raw pre → ints x0 = a ++ 34 :: t → 34 ∉ a → a ≠ [] → tr a ≠ 0 →
    EvP (fun k => fastjson_parseRawString.l0 k x0 (a.length : Int) x6) (RSo x6) := by
  intro d
  induction d with
  | zero =>
    intro x0 pre a t hd hp hpre hs h34 hne htr
    have := size_app hs
    rw [List.length_cons] at this
    omega
  | succ d ih =>
    intro x0 pre a t hd hp hpre hs h34 hne htr
    have hsz := size_app hs
    have hsz6 := size_app hp
    rw [ints_length] at hsz6
    rw [List.length_cons] at hsz
    have hal : 0 < a.length := List.length_pos_iff.2 hne
    obtain ⟨rawe, rawo⟩ := raw_of a.length a (Nat.le_refl _) h34
    refine EvP.succ ?_
    simp only [fastjson_parseRawString.l0]
    rw [w64 (x := (a.length : Int) - 1) (by omega) (by omega)]
    obtain ⟨q, b, hq⟩ : ∃ q b, a = q ++ [b] := by
      rcases List.eq_nil_or_concat a with h | ⟨q, b, h⟩
      · exact absurd h hne
      · exact ⟨q, b, by rw [h, List.concat_eq_append]⟩
    have hb : b = 92 := by
      rw [hq, tr_snoc] at htr
      by_cases e : b = 92
      · exact e
      · rw [if_neg e] at htr; exact absurd rfl htr
    have hql := congrArg List.length hq
    rw [List.length_append, List.length_singleton] at hql
    rw [show (a.length : Int) - 1 = (q.length : Int) from by omega]
    refine raw_l1 x6 x0 (by omega) a t hs _ (fun i h0 hi => ?_) q.length q [b] rfl hq (by rw [hq, tr_snoc, if_pos hb]; rfl)
    refine EvP.succ ?_
    simp only [fastjson_parseRawString.j3]
    have htl : tr a ≤ a.length := by omega
    rw [w64 (x := (a.length : Int) - i) (by omega) (by omega), hi, u64w (x := (tr a : Int)) (by omega) (by omega), Int.tmod_eq_emod_of_nonneg (by omega), w64 (x := (x6.size : Int) - (x0.size : Int)) (by omega) (by omega), w64 (x := (x6.size : Int) - (x0.size : Int) + (a.length : Int)) (by omega) (by omega), w64 (x := (a.length : Int) + 1) (by omega) (by omega)]
    refine EvP.ite (fun he => ?_) (fun he => ?_)
    · refine EvP.pos (by omega) (EvP.pos (by omega) (EvP.pos (by omega) (EvP.pos (by omega) (EvP.ret _ (fun _ => ⟨pre ++ a, ?_, hpre.append (rawe (by omega)), ?_⟩)))))
      · dsimp only
        rw [show ((a.length : Int) + 1).toNat = a.length + 1 from by omega, back1_ints hs, hp, hs, List.append_assoc]
      · dsimp only
        rw [show ((x6.size : Int) - (x0.size : Int) + (a.length : Int)).toNat = (pre ++ a).length from by rw [List.length_append]; omega]
        exact front_ints (t := 34 :: t) (by rw [hp, hs, List.append_assoc])
    · refine EvP.pos (by omega) (EvP.pos (by omega) ?_)
      rw [show ((a.length : Int) + 1).toNat = a.length + 1 from by omega]
      have hx' := back1_ints hs
      have hxs := ext_size x0 (a.length + 1)
      generalize x0.extract (a.length + 1) x0.size = y at hx' hxs ⊢
      have hpy : ints x6 = (pre ++ a ++ [34]) ++ ints y := by rw [hp, hs, hx']; simp
      have hprey : Raw (pre ++ a ++ [34]) := by rw [List.append_assoc]; exact hpre.append (rawo (by omega) 34)
      have hpyl : (pre ++ a ++ [34]).length = pre.length + a.length + 1 := by simp; omega
      rcases ib y 34 (by omega) with ⟨e, _⟩ | ⟨a', t', e1, e2, e3⟩
      · rw [e]
        simp only [Option.bind_some, errors_New.f]
        exact EvP.pos (by omega) (EvP.ret _ (fun h => by cases h))
      · rw [e3]
        simp only [Option.bind_some]
        have hys := size_app e1
        rw [List.length_cons] at hys
        have done : Raw a' → ∀ k : Nat, k = a'.length → RSo x6 (x6.extract 0 ((x6.size : Int) - (y.size : Int) + (k : Int)).toNat, y.extract ((k : Int) + 1).toNat y.size, none) := by
          rintro hr k rfl _
          refine ⟨pre ++ a ++ [34] ++ a', ?_, hprey.append hr, ?_⟩
          · dsimp only
            rw [show ((a'.length : Int) + 1).toNat = a'.length + 1 from by omega, back1_ints e1, hpy, e1, List.append_assoc _ a']
          · dsimp only
            rw [show ((x6.size : Int) - (y.size : Int) + (a'.length : Int)).toNat = (pre ++ a ++ [34] ++ a').length from by rw [List.length_append, hpyl]; omega]
            exact front_ints (t := 34 :: t') (by rw [hpy, e1, List.append_assoc _ a'])
        rw [w64 (x := (x6.size : Int) - (y.size : Int)) (by omega) (by omega), w64 (x := (x6.size : Int) - (y.size : Int) + (a'.length : Int)) (by omega) (by omega), w64 (x := (a'.length : Int) + 1) (by omega) (by omega), w64 (x := (a'.length : Int) - 1) (by omega) (by omega)]
        refine EvP.neg (by omega) (EvP.ite (fun hz => ?_) (fun hz => ?_))
        · have hz' : a' = [] := List.eq_nil_of_length_eq_zero (by omega)
          refine EvP.pos (by omega) (EvP.pos (by omega) (EvP.pos (by omega) (EvP.pos (by omega) (EvP.ret _ (done (by rw [hz']; exact .nil) _ rfl)))))
        · obtain ⟨q', b', hq'⟩ : ∃ q b, a' = q ++ [b] := by
            rcases List.eq_nil_or_concat a' with h | ⟨q, b, h⟩
            · rw [h] at hz; exact absurd rfl hz
            · exact ⟨q, b, by rw [h, List.concat_eq_append]⟩
          have hql' := congrArg List.length hq'
          rw [List.length_append, List.length_singleton] at hql'
          have hb' : bt y (q'.length : Int) = b' := bt_back (q := q') (r := 34 :: t') (by rw [e1, hq'])
          rw [show (a'.length : Int) - 1 = (q'.length : Int) from by omega, hb']
          have htr' := tr_snoc q' b'
          rw [← hq'] at htr'
          refine EvP.pos (by omega) (EvP.pos (by omega) (EvP.ite (fun e => ?_) (fun e => ?_)))
          · rw [if_pos e] at htr'
            exact ih y _ a' t' (by omega) hpy hprey e1 e2 (fun h => hz (by rw [h]; rfl)) (by omega)
          · rw [if_neg e] at htr'
            exact EvP.pos (by omega) (EvP.pos (by omega) (EvP.pos (by omega) (EvP.pos (by omega) (EvP.ret _ (done ((raw_of a'.length a' (Nat.le_refl _) e2).1 (by omega)) _ rfl)))))
end

theorem raw_j0to (s : ByteArray) (hn : s.size ≤ 2147483647) (a t : List Int) (hs : ints s = a ++ 34 :: t) (hr : Raw a) : EvP (fun k => fastjson_parseRawString.j0 k s (a.length : Int) true) (RSo s) := by
  have hsz := size_app hs
  rw [List.length_cons] at hsz
  refine EvP.succ ?_
  simp only [fastjson_parseRawString.j0]
  rw [w64 (x := (a.length : Int) + 1) (by omega) (by omega)]
  refine EvP.pos trivial (EvP.pos (by omega) (EvP.pos (by omega) (EvP.pos (by omega) (EvP.pos (by omega) (EvP.ret _ (fun _ => ⟨a, ?_, hr, ?_⟩))))))
  · dsimp only
    rw [show ((a.length : Int) + 1).toNat = a.length + 1 from by omega, back1_ints hs, hs]
  · dsimp only
    rw [Int.toNat_natCast]; exact front_ints hs

theorem rawstring_o (s : ByteArray) (hn : s.size ≤ 2147483647) : EvP (fun k => fastjson_parseRawString.f k s) (RSo s) := by
  unfold fastjson_parseRawString.f
  rcases ib s 34 (by omega) with ⟨e, _⟩ | ⟨a, t, hs, h34, e3⟩
  · rw [e]
    simp only [Option.bind_some, errors_New.f]
    exact EvP.pos (by omega) (EvP.ret _ (fun h => by cases h))
  · rw [e3]
    simp only [Option.bind_some]
    have hsz := size_app hs
    rw [List.length_cons] at hsz
    refine EvP.neg (by omega) (EvP.ite (fun hz => ?_) (fun hz => ?_))
    · have ha : a = [] := List.eq_nil_of_length_eq_zero (by omega)
      exact raw_j0to s hn a t hs (by rw [ha]; exact .nil)
    · rw [w64 (x := (a.length : Int) - 1) (by omega) (by omega)]
      obtain ⟨q, b, hq⟩ : ∃ q b, a = q ++ [b] := by
        rcases List.eq_nil_or_concat a with h | ⟨q, b, h⟩
        · rw [h] at hz; exact absurd rfl hz
        · exact ⟨q, b, by rw [h, List.concat_eq_append]⟩
      have hql := congrArg List.length hq
      rw [List.length_append, List.length_singleton] at hql
      have hb : bt s (q.length : Int) = b := bt_back (q := q) (r := 34 :: t) (by rw [hs, hq])
      rw [show (a.length : Int) - 1 = (q.length : Int) from by omega, hb]
      have htr := tr_snoc q b
      rw [← hq] at htr
      refine EvP.pos (by omega) (EvP.pos (by omega) ?_)
      by_cases e : b = 92
      · rw [if_pos e] at htr
        have : (b != 92) = false := by rw [e]; rfl
        rw [this]
        refine EvP.succ ?_
        simp only [fastjson_parseRawString.j0]
        exact EvP.neg (by simp) (raw_l0o s hn s.size s [] a t (Nat.le_refl _) rfl .nil hs h34 (fun h => hz (by rw [h]; rfl)) (by omega))
      · rw [if_neg e] at htr
        have : (b != 92) = true := by simpa using e
        rw [this]
        exact raw_j0to s hn a t hs ((raw_of a.length a (Nat.le_refl _) h34).1 (by omega))


/-- What a lexer tells of any text: without an error a shorter rest. -/
def Sh (s : ByteArray) (r : ByteArray × ByteArray × Option Int) : Prop := r.2.2 = none → r.1.size + r.2.1.size ≤ s.size ∧ r.2.1.size + 1 ≤ s.size
theorem RSo.sh {s : ByteArray} {r : ByteArray × ByteArray × Option Int} (h : RSo s r) : Sh s r := by
  intro e
  obtain ⟨raw, h1, _, h3⟩ := h e
  have := congrArg List.length h1
  rw [List.length_append, List.length_cons, ints_length, ints_length] at this
  have h4 := congrArg List.length h3
  rw [ints_length] at h4
  exact ⟨by omega, by omega⟩
theorem rawstr_any (s : ByteArray) (hn : s.size ≤ 2147483647) : ∃ r, (∃ K0, ∀ K, K0 ≤ K → fastjson_parseRawString.f K s = some r) ∧ Sh s r := by
  obtain ⟨r, hr, hp⟩ := rawstring_o s hn
  exact ⟨r, hr, hp.sh⟩

theorem key_any_l0 (s : ByteArray) (hn : s.size ≤ 2147483647) : ∀ (d i : Nat), i ≤ s.size → s.size - i ≤ d → EvP (fun k => fastjson_parseRawKey.l0 k s (s.size : Int) (i : Int)) (Sh s) := by
  intro d
  induction d with
  | zero =>
    intro i hi hd
    refine EvP.succ ?_
    simp only [fastjson_parseRawKey.l0, errors_New.f, Option.bind_some]
    exact EvP.neg (by omega) (EvP.ret _ (fun h => by cases h))
  | succ d ih =>
    intro i hi hd
    refine EvP.succ ?_
    simp only [fastjson_parseRawKey.l0, errors_New.f, Option.bind_some]
    refine EvP.ite (fun hlt => EvP.pos (by omega) (EvP.pos (by omega) ?_)) (fun _ => EvP.ret _ (fun h => by cases h))
    rw [w64 (x := (i : Int) + 1) (by omega) (by omega)]
    refine EvP.ite (fun _ => EvP.pos (by omega) (EvP.pos (by omega) (EvP.pos (by omega) (EvP.ret _ (fun _ => ?_))))) (fun _ => EvP.ite (fun _ => EvP.bind (rawstring_o s hn) (fun r hr => EvP.ret _ hr.sh)) (fun _ => ?_))
    · simp only [ByteArray.size_extract]; omega
    · have := ih (i + 1) (by omega) (by omega)
      exact this
theorem rawkey_any (s : ByteArray) (hn : s.size ≤ 2147483647) : ∃ r, (∃ K0, ∀ K, K0 ≤ K → fastjson_parseRawKey.f K s = some r) ∧ Sh s r := by
  obtain ⟨r, hr, hp⟩ := key_any_l0 s hn s.size 0 (by omega) (by omega)
  exact ⟨r, hr, hp⟩

theorem fold_l0 (a b : ByteArray) (hs : a.size = b.size) (hn : a.size ≤ 2147483647) : ∀ (d i : Nat), i ≤ a.size → a.size - i ≤ d → EvP (fun k => fastjson_zzFold.l0 k a b (i : Int)) (fun _ => True) := by
  intro d
  induction d with
  | zero =>
    intro i hi hd
    refine EvP.succ ?_
    simp only [fastjson_zzFold.l0]
    exact EvP.neg (by omega) (EvP.ret _ trivial)
  | succ d ih =>
    intro i hi hd
    have j1 : i < a.size → ∀ c v, EvP (fun k => fastjson_zzFold.j1 k a b (i : Int) c v) (fun _ => True) := by
      intro hlt c v
      refine EvP.succ ?_
      simp only [fastjson_zzFold.j1]
      rw [w64 (x := (i : Int) + 1) (by omega) (by omega)]
      have next := ih (i + 1) (by omega) (by omega)
      exact EvP.ite (fun _ => EvP.pos (by omega) (EvP.pos (by omega) (EvP.ite (fun _ => next) (fun _ => EvP.ret _ trivial)))) (fun _ => EvP.pos (by omega) (EvP.pos (by omega) (EvP.ite (fun _ => next) (fun _ => EvP.ret _ trivial))))
    refine EvP.succ ?_
    simp only [fastjson_zzFold.l0]
    exact EvP.ite (fun hlt => EvP.pos (by omega) (EvP.ite (fun _ => j1 (by omega) _ _) (fun _ => j1 (by omega) _ _))) (fun _ => EvP.ret _ trivial)
theorem fold_p (a b : ByteArray) (hn : a.size ≤ 2147483647) : EvP (fun k => fastjson_zzFold.f k a b) (fun _ => True) := by
  unfold fastjson_zzFold.f
  refine EvP.ite (fun h => ?_) (fun _ => EvP.ret _ trivial)
  exact fold_l0 a b (by omega) hn a.size 0 (by omega) (by omega)
theorem fold_any (a b : ByteArray) (hn : a.size ≤ 2147483647) : ∃ r, ∃ K0, ∀ K, K0 ≤ K → fastjson_zzFold.f K a b = some r := by
  obtain ⟨r, hr, _⟩ := fold_p a b hn
  exact ⟨r, hr⟩

theorem num_any_l0 (s : ByteArray) (h0 : 1 ≤ s.size) (hn : s.size ≤ 2147483647) : ∀ (d i : Nat), i ≤ s.size → s.size - i ≤ d → EvP (fun k => fastjson_parseRawNumber.l0 k s (s.size : Int) (i : Int)) (Sh s) := by
  have j2 : ∀ (i : Nat) (v : Bool), i ≤ s.size → (v = false → 1 ≤ i) → EvP (fun k => fastjson_parseRawNumber.j2 k s (i : Int) v) (Sh s) := by
    intro i v hi hv
    have fin : 3 ≤ s.size - i → Sh s (s.extract 0 ((i : Int) + 3).toNat, s.extract ((i : Int) + 3).toNat s.size, none) := by
      intro h _
      simp only [ByteArray.size_extract]; omega
    refine EvP.succ ?_
    simp only [fastjson_parseRawNumber.j2, errors_New.f, Option.bind_some]
    rw [w64 (x := (i : Int) + 3) (by omega) (by omega)]
    refine EvP.ite (fun _ => EvP.pos (by omega) (EvP.pos (by omega) (EvP.ite (fun h3 => ?_) (fun _ => EvP.ret _ (fun h => by cases h))))) (fun e => EvP.pos (by omega) (EvP.pos (by omega) (EvP.ret _ (fun _ => ?_))))
    · have h3' : 3 ≤ s.size - i := by
        rw [ByteArray.size_extract] at h3; omega
      refine EvP.pos (by omega) (EvP.pos (by omega) (EvP.bind (fold_p _ _ (by rw [ByteArray.size_extract]; omega)) (fun b1 _ => EvP.ite (fun _ => EvP.pos (by omega) (EvP.ret _ (fin h3'))) (fun _ => EvP.bind (fold_p _ _ (by rw [ByteArray.size_extract]; omega)) (fun b2 _ => EvP.ite (fun _ => EvP.pos (by omega) (EvP.ret _ (fin h3'))) (fun _ => EvP.ret _ (fun h => by cases h)))))))
    · have := hv (by simpa using e)
      simp only [ByteArray.size_extract, Int.toNat_natCast]; omega
  intro d
  induction d with
  | zero =>
    intro i hi hd
    refine EvP.succ ?_
    simp only [fastjson_parseRawNumber.l0]
    exact EvP.neg (by omega) (EvP.ret _ (fun _ => ⟨by show s.size + 0 ≤ s.size; omega, by show 0 + 1 ≤ s.size; omega⟩))
  | succ d ih =>
    intro i hi hd
    have j1 : i < s.size → ∀ v, EvP (fun k => fastjson_parseRawNumber.j1 k s (i : Int) (s.size : Int) (i : Int) v) (Sh s) := by
      intro hlt v
      refine EvP.succ ?_
      simp only [fastjson_parseRawNumber.j1]
      rw [w64 (x := (i : Int) + 1) (by omega) (by omega)]
      refine EvP.ite (fun _ => ?_) (fun _ => EvP.ite (fun _ => j2 i true hi (fun h => by cases h)) (fun hz => EvP.ite (fun _ => EvP.pos (by omega) (EvP.ite (fun _ => j2 i true hi (fun h => by cases h)) (fun _ => j2 i _ hi (fun _ => by omega)))) (fun _ => j2 i false hi (fun _ => by omega))))
      exact ih (i + 1) (by omega) (by omega)
    refine EvP.succ ?_
    simp only [fastjson_parseRawNumber.l0]
    refine EvP.ite (fun hlt => EvP.pos (by omega) (EvP.pos (by omega) ?_)) (fun _ => EvP.ret _ (fun _ => ⟨by show s.size + 0 ≤ s.size; omega, by show 0 + 1 ≤ s.size; omega⟩))
    have J := j1 (by omega)
    have rest := EvP.ite (c := bt s (i : Int) = 46) (fun _ => J true) (fun _ => EvP.ite (c := bt s (i : Int) = 45) (fun _ => J true) (fun _ => EvP.ite (c := bt s (i : Int) = 101) (fun _ => J true) (fun _ => EvP.ite (c := bt s (i : Int) = 69) (fun _ => J true) (fun _ => J (bt s (i : Int) == 43)))))
    exact EvP.ite (fun _ => EvP.ite (fun _ => J true) (fun _ => rest)) (fun _ => rest)
theorem rawnum_any (s : ByteArray) (h0 : 1 ≤ s.size) (hn : s.size ≤ 2147483647) : ∃ r, (∃ K0, ∀ K, K0 ≤ K → fastjson_parseRawNumber.f K s = some r) ∧ Sh s r := by
  obtain ⟨r, hr, hp⟩ := num_any_l0 s h0 hn s.size 0 (by omega) (by omega)
  exact ⟨r, hr, hp⟩

end Go.Proofs.YtfoloneeibgoiaaDoor.Lx

/- fastjson's Parse answers for every text of at most a million bytes; what it reads is no larger than the text. -/
set_option linter.unusedVariables false
namespace Go.Proofs.YtfoloneeibgoiaaDoor.Fjh
open Go Go.RowKit Go.Proofs.YtfoloneeibgoiaaDoorW.PrintWords Go.Proofs.YtfoloneeibgoiaaDoor.Lex Go.Proofs.YtfoloneeibgoiaaDoor.JTr Go.Proofs.YtfoloneeibgoiaaDoor.StrL Go.Proofs.YtfoloneeibgoiaaDoor.EvL Go.Proofs.YtfoloneeibgoiaaDoor.Lx

theorem sk_ev {s : ByteArray} (hn : s.size ≤ 2147483647) : ∃ r, ints r = ws (ints s) ∧ r.size ≤ s.size ∧ ∃ K0, ∀ K, K0 ≤ K → sk K s = some r := by
  obtain ⟨r, ⟨K0, hr⟩, hp⟩ := skip_ev hn
  have hle : r.size ≤ s.size := by
    rw [← ints_length, ← ints_length, hp]; exact ws_len _
  refine ⟨r, hp, hle, K0, fun K hK => ?_⟩
  unfold sk
  rw [show fastjson_skipWS.f K s = some r from hr K hK, Option.bind_some, if_pos hle]

theorem sk_any (s : ByteArray) (hn : s.size ≤ 1000000) : ∃ r, r.size ≤ s.size ∧ ∃ K0, ∀ K, K0 ≤ K → sk K s = some r := by
  obtain ⟨r, _, h1, h2⟩ := sk_ev (s := s) (by omega)
  exact ⟨r, h1, h2⟩

/-- What is known of what was read. -/
def Fa (s : ByteArray) (r : Option (JV × ByteArray)) : Prop := ∀ v t, r = some (v, t) → t.size + 1 ≤ s.size ∧ wsz v + 2 * t.size ≤ 2 * s.size

section
variable (m d : Nat) (hv : ∀ s : ByteArray, s.size ≤ 1000000 → ∃ r, (∃ K0, ∀ K, K0 ≤ K → ∀ k, m + 1 ≤ k → pV K k s d = some r) ∧ Fa s r)
include hv

theorem arrL_tot : ∀ (n : Nat) (s : ByteArray), s.size ≤ n → s.size ≤ 1000000 → ∃ R : Option (List JV × ByteArray), (∃ K0, ∀ K, K0 ≤ K → ∀ k, m + 1 ≤ k → ∀ j, n + 1 ≤ j → ∀ acc, pArrL (pV K k) K d j s acc = some (R.map fun q => (.arr (acc ++ q.1), q.2))) ∧ (∀ js t, R = some (js, t) → t.size + 1 ≤ s.size ∧ wszs js + 2 * t.size ≤ 2 * s.size) := by
  intro n
  induction n with
  | zero =>
    intro s hs h6
    obtain ⟨s1, h1, K1, hk1⟩ := sk_any s h6
    obtain ⟨r, ⟨K2, hk2⟩, hr⟩ := hv s1 (by omega)
    cases r with
    | none =>
      refine ⟨none, ⟨K1 + K2, fun K hK k hk j hj acc => ?_⟩, fun js t e => by cases e⟩
      cases j with
      | zero => omega
      | succ j => simp only [pArrL, hk1 K (by omega), Option.bind_some, hk2 K (by omega) k hk, Option.map_none]
    | some vt => obtain ⟨v, t⟩ := vt; have := (hr v t rfl).1; omega
  | succ n ih =>
    intro s hs h6
    obtain ⟨s1, h1, K1, hk1⟩ := sk_any s h6
    obtain ⟨r, ⟨K2, hk2⟩, hr⟩ := hv s1 (by omega)
    cases r with
    | none =>
      refine ⟨none, ⟨K1 + K2, fun K hK k hk j hj acc => ?_⟩, fun js t e => by cases e⟩
      cases j with
      | zero => omega
      | succ j => simp only [pArrL, hk1 K (by omega), Option.bind_some, hk2 K (by omega) k hk, Option.map_none]
    | some vt =>
      obtain ⟨v, t⟩ := vt
      obtain ⟨f1, f2⟩ := hr v t rfl
      obtain ⟨t1, h3, K3, hk3⟩ := sk_any t (by omega)
      have hex := ext_size t1 1
      have base : ∀ K, K1 + K2 + K3 ≤ K → ∀ k, m + 1 ≤ k → ∀ j acc, pArrL (pV K k) K d (j + 1) s acc = if t1.size = 0 then some none else if bt t1 0 = 44 then pArrL (pV K k) K d j (t1.extract 1 t1.size) (acc ++ [v]) else if bt t1 0 = 93 then some (some (.arr (acc ++ [v]), t1.extract 1 t1.size)) else some none := by
        intro K hK k hk j acc
        simp only [pArrL, hk1 K (by omega), Option.bind_some, hk2 K (by omega) k hk, if_pos (show t.size ≤ s1.size by omega), hk3 K (by omega)]
      by_cases c0 : t1.size = 0
      · refine ⟨none, ⟨K1 + K2 + K3, fun K hK k hk j hj acc => ?_⟩, fun js t e => by cases e⟩
        cases j with
        | zero => omega
        | succ j => rw [base K hK k hk j acc, if_pos c0]; rfl
      by_cases c1 : bt t1 0 = 44
      · obtain ⟨R, ⟨K4, hk4⟩, hR⟩ := ih (t1.extract 1 t1.size) (by omega) (by omega)
        refine ⟨R.map fun q => (v :: q.1, q.2), ⟨K1 + K2 + K3 + K4, fun K hK k hk j hj acc => ?_⟩, fun js t' e => ?_⟩
        · cases j with
          | zero => omega
          | succ j =>
            rw [base K (by omega) k hk j acc, if_neg c0, if_pos c1, hk4 K (by omega) k hk j (by omega)]
            cases R <;> simp
        · obtain ⟨q, hq, he⟩ := Option.map_eq_some_iff.1 e
          injection he with e1 e2
          subst e1; subst e2
          obtain ⟨g1, g2⟩ := hR q.1 q.2 hq
          exact ⟨by omega, by simp only [wszs]; omega⟩
      by_cases c2 : bt t1 0 = 93
      · refine ⟨some ([v], t1.extract 1 t1.size), ⟨K1 + K2 + K3, fun K hK k hk j hj acc => ?_⟩, fun js t' e => ?_⟩
        · cases j with
          | zero => omega
          | succ j => rw [base K hK k hk j acc, if_neg c0, if_neg c1, if_pos c2]; rfl
        · simp only [Option.some.injEq, Prod.mk.injEq] at e
          obtain ⟨rfl, rfl⟩ := e
          exact ⟨by omega, by simp only [wszs]; omega⟩
      · refine ⟨none, ⟨K1 + K2 + K3, fun K hK k hk j hj acc => ?_⟩, fun js t e => by cases e⟩
        cases j with
        | zero => omega
        | succ j => rw [base K hK k hk j acc, if_neg c0, if_neg c1, if_neg c2]; rfl

theorem objL_tot : ∀ (n : Nat) (s : ByteArray), s.size ≤ n → s.size ≤ 1000000 → ∃ R : Option (List ByteArray × List JV × ByteArray), (∃ K0, ∀ K, K0 ≤ K → ∀ k, m + 1 ≤ k → ∀ j, n + 1 ≤ j → ∀ ka va, pObjL (pV K k) K d j s ka va = some (R.map fun q => (.obj false (ka ++ q.1) (va ++ q.2.1), q.2.2))) ∧ (∀ ks js t, R = some (ks, js, t) → t.size + 1 ≤ s.size ∧ wszK ks + wszs js + 2 * t.size ≤ 2 * s.size) := by
  intro n
  induction n with
  | zero =>
    intro s hs h6
    obtain ⟨s1, h1, K1, hk1⟩ := sk_any s h6
    refine ⟨none, ⟨K1, fun K hK k hk j hj ka va => ?_⟩, fun ks js t e => by cases e⟩
    cases j with
    | zero => omega
    | succ j => simp only [pObjL, hk1 K hK, Option.bind_some, if_pos (show s1.size = 0 by omega), Option.map_none]
  | succ n ih =>
    intro s hs h6
    obtain ⟨s1, h1, K1, hk1⟩ := sk_any s h6
    have nope : ∀ K0 : Nat, (∀ K, K0 ≤ K → ∀ k, m + 1 ≤ k → ∀ j ka va, pObjL (pV K k) K d (j + 1) s ka va = some none) → ∃ R : Option (List ByteArray × List JV × ByteArray), (∃ K0, ∀ K, K0 ≤ K → ∀ k, m + 1 ≤ k → ∀ j, n + 1 + 1 ≤ j → ∀ ka va, pObjL (pV K k) K d j s ka va = some (R.map fun q => (.obj false (ka ++ q.1) (va ++ q.2.1), q.2.2))) ∧ (∀ ks js t, R = some (ks, js, t) → t.size + 1 ≤ s.size ∧ wszK ks + wszs js + 2 * t.size ≤ 2 * s.size) := by
      intro K0 h
      refine ⟨none, ⟨K0, fun K hK k hk j hj ka va => ?_⟩, fun ks js t e => by cases e⟩
      cases j with
      | zero => omega
      | succ j => rw [h K hK k hk j ka va]; rfl
    by_cases c0 : s1.size = 0
    · exact nope K1 (fun K hK k hk j ka va => by simp only [pObjL, hk1 K hK, Option.bind_some, if_pos c0])
    by_cases c1 : ¬ bt s1 0 = 34
    · exact nope K1 (fun K hK k hk j ka va => by simp only [pObjL, hk1 K hK, Option.bind_some, if_neg c0, if_neg c1])
    replace c1 := Classical.not_not.mp c1
    have hex1 := ext_size s1 1
    obtain ⟨⟨e1, e2, e3⟩, ⟨K2, hk2⟩, hsh⟩ := rawkey_any (s1.extract 1 s1.size) (by omega)
    cases e3 with
    | some x => exact nope (K1 + K2) (fun K hK k hk j ka va => by simp only [pObjL, hk1 K (by omega), Option.bind_some, if_neg c0, if_pos c1, hk2 K (by omega)])
    | none =>
      obtain ⟨g1, g2⟩ := hsh rfl
      simp only at g1 g2
      have hl2 : e2.size + 1 ≤ s1.size := by omega
      obtain ⟨s3, h3, K3, hk3⟩ := sk_any e2 (by omega)
      have hex3 := ext_size s3 1
      by_cases c3 : s3.size = 0
      · exact nope (K1 + K2 + K3) (fun K hK k hk j ka va => by simp only [pObjL, hk1 K (by omega), Option.bind_some, if_neg c0, if_pos c1, hk2 K (by omega), if_pos hl2, hk3 K (by omega), if_pos c3])
      by_cases c4 : ¬ bt s3 0 = 58
      · exact nope (K1 + K2 + K3) (fun K hK k hk j ka va => by simp only [pObjL, hk1 K (by omega), Option.bind_some, if_neg c0, if_pos c1, hk2 K (by omega), if_pos hl2, hk3 K (by omega), if_neg c3, if_neg c4])
      replace c4 := Classical.not_not.mp c4
      obtain ⟨s4, h4, K4, hk4⟩ := sk_any (s3.extract 1 s3.size) (by omega)
      obtain ⟨r, ⟨K5, hk5⟩, hr⟩ := hv s4 (by omega)
      cases r with
      | none => exact nope (K1 + K2 + K3 + K4 + K5) (fun K hK k hk j ka va => by simp only [pObjL, hk1 K (by omega), Option.bind_some, if_neg c0, if_pos c1, hk2 K (by omega), if_pos hl2, hk3 K (by omega), if_neg c3, if_pos c4, hk4 K (by omega), hk5 K (by omega) k hk])
      | some vt =>
        obtain ⟨v, t⟩ := vt
        obtain ⟨f1, f2⟩ := hr v t rfl
        obtain ⟨t1, h6', K6, hk6⟩ := sk_any t (by omega)
        have hex := ext_size t1 1
        have base : ∀ K, K1 + K2 + K3 + K4 + K5 + K6 ≤ K → ∀ k, m + 1 ≤ k → ∀ j ka va, pObjL (pV K k) K d (j + 1) s ka va = if t1.size = 0 then some none else if bt t1 0 = 44 then pObjL (pV K k) K d j (t1.extract 1 t1.size) (ka ++ [e1]) (va ++ [v]) else if bt t1 0 = 125 then some (some (.obj false (ka ++ [e1]) (va ++ [v]), t1.extract 1 t1.size)) else some none := by
          intro K hK k hk j ka va
          simp only [pObjL, hk1 K (by omega), Option.bind_some, if_neg c0, if_pos c1, hk2 K (by omega), if_pos hl2, hk3 K (by omega), if_neg c3, if_pos c4, hk4 K (by omega), hk5 K (by omega) k hk, if_pos (show t.size ≤ s4.size by omega), hk6 K (by omega)]
        by_cases c5 : t1.size = 0
        · exact nope (K1 + K2 + K3 + K4 + K5 + K6) (fun K hK k hk j ka va => by rw [base K hK k hk j ka va, if_pos c5])
        by_cases c6 : bt t1 0 = 44
        · obtain ⟨R, ⟨K7, hk7⟩, hR⟩ := ih (t1.extract 1 t1.size) (by omega) (by omega)
          refine ⟨R.map fun q => (e1 :: q.1, v :: q.2.1, q.2.2), ⟨K1 + K2 + K3 + K4 + K5 + K6 + K7, fun K hK k hk j hj ka va => ?_⟩, fun ks js t' e => ?_⟩
          · cases j with
            | zero => omega
            | succ j =>
              rw [base K (by omega) k hk j ka va, if_neg c5, if_pos c6, hk7 K (by omega) k hk j (by omega)]
              cases R <;> simp
          · obtain ⟨q, hq, he⟩ := Option.map_eq_some_iff.1 e
            simp only [Prod.mk.injEq] at he
            obtain ⟨rfl, rfl, rfl⟩ := he
            obtain ⟨y1, y2⟩ := hR q.1 q.2.1 q.2.2 hq
            exact ⟨by omega, by simp only [wszs, wszK]; omega⟩
        by_cases c7 : bt t1 0 = 125
        · refine ⟨some ([e1], [v], t1.extract 1 t1.size), ⟨K1 + K2 + K3 + K4 + K5 + K6, fun K hK k hk j hj ka va => ?_⟩, fun ks js t' e => ?_⟩
          · cases j with
            | zero => omega
            | succ j => rw [base K hK k hk j ka va, if_neg c5, if_neg c6, if_pos c7]; rfl
          · simp only [Option.some.injEq, Prod.mk.injEq] at e
            obtain ⟨rfl, rfl, rfl⟩ := e
            exact ⟨by omega, by simp only [wszs, wszK]; omega⟩
        · exact nope (K1 + K2 + K3 + K4 + K5 + K6) (fun K hK k hk j ka va => by rw [base K hK k hk j ka va, if_neg c5, if_neg c6, if_neg c7])
end

/-- parseValue answers at every depth. -/
theorem pv_tot : ∀ (m d : Nat), m + d = 300 → ∀ s : ByteArray, s.size ≤ 1000000 → ∃ r, (∃ K0, ∀ K, K0 ≤ K → ∀ k, m + 1 ≤ k → pV K k s d = some r) ∧ Fa s r := by
  intro m
  induction m with
  | zero =>
    intro d hd s hs
    refine ⟨none, ⟨0, fun K hK k hk => ?_⟩, fun v t e => by cases e⟩
    cases k with
    | zero => omega
    | succ k =>
      show pVal _ _ K s d = some none
      unfold pVal
      by_cases h0 : s.size = 0
      · rw [if_pos h0]
      · rw [if_neg h0, if_pos (by omega)]
  | succ m ih =>
    intro d hd s hs
    have hv := ih (d + 1) (by omega)
    have hdd : ¬ 300 < d + 1 := by omega
    have hex := ext_size s 1
    have nope : ∀ K0 : Nat, (∀ K, K0 ≤ K → ∀ k, m + 1 ≤ k → pV K (k + 1) s d = some none) → ∃ r, (∃ K0, ∀ K, K0 ≤ K → ∀ k, m + 1 + 1 ≤ k → pV K k s d = some r) ∧ Fa s r := by
      intro K0 h
      refine ⟨none, ⟨K0, fun K hK k hk => ?_⟩, fun v t e => by cases e⟩
      cases k with
      | zero => omega
      | succ k => exact h K hK k (by omega)
    have yes : ∀ (K0 : Nat) (v : JV) (t : ByteArray), (∀ K, K0 ≤ K → ∀ k, m + 1 ≤ k → pV K (k + 1) s d = some (some (v, t))) → (t.size + 1 ≤ s.size ∧ wsz v + 2 * t.size ≤ 2 * s.size) → ∃ r, (∃ K0, ∀ K, K0 ≤ K → ∀ k, m + 1 + 1 ≤ k → pV K k s d = some r) ∧ Fa s r := by
      intro K0 v t h hf
      refine ⟨some (v, t), ⟨K0, fun K hK k hk => ?_⟩, fun v' t' e => ?_⟩
      · cases k with
        | zero => omega
        | succ k => exact h K hK k (by omega)
      · simp only [Option.some.injEq, Prod.mk.injEq] at e
        obtain ⟨rfl, rfl⟩ := e
        exact hf
    by_cases c0 : s.size = 0
    · exact nope 0 (fun K hK k hk => by simp only [pV, pVal, if_pos c0])
    by_cases c1 : bt s 0 = 123
    · obtain ⟨s1, h1, K1, hk1⟩ := sk_any (s.extract 1 s.size) (by omega)
      have hex1 := ext_size s1 1
      by_cases e0 : s1.size = 0
      · exact nope K1 (fun K hK k hk => by simp only [pV, pVal, if_neg c0, if_neg hdd, if_pos c1, pObj, hk1 K hK, Option.bind_some, if_pos e0])
      by_cases e1 : bt s1 0 = 125
      · exact yes K1 (.obj false [] []) (s1.extract 1 s1.size) (fun K hK k hk => by simp only [pV, pVal, if_neg c0, if_neg hdd, if_pos c1, pObj, hk1 K hK, Option.bind_some, if_neg e0, if_pos e1]) ⟨by omega, by simp only [wsz, wszs, wszK]; omega⟩
      obtain ⟨R, ⟨K2, hk2⟩, hR⟩ := objL_tot m (d + 1) hv s1.size s1 (Nat.le_refl _) (by omega)
      have hall : ∀ K, K1 + K2 + s1.size + 1 ≤ K → ∀ k, m + 1 ≤ k → pV K (k + 1) s d = some (R.map fun q => (.obj false ([] ++ q.1) ([] ++ q.2.1), q.2.2)) := fun K hK k hk => by
        simp only [pV, pVal, if_neg c0, if_neg hdd, if_pos c1, pObj, hk1 K (by omega), Option.bind_some, if_neg e0, if_neg e1]
        exact hk2 K (by omega) k hk K (by omega) [] []
      cases R with
      | none => exact nope _ (fun K hK k hk => hall K hK k hk)
      | some q =>
        obtain ⟨y1, y2⟩ := hR q.1 q.2.1 q.2.2 rfl
        exact yes _ _ _ (fun K hK k hk => hall K hK k hk) ⟨by omega, by simp only [wsz, List.nil_append]; omega⟩
    by_cases c2 : bt s 0 = 91
    · obtain ⟨s1, h1, K1, hk1⟩ := sk_any (s.extract 1 s.size) (by omega)
      have hex1 := ext_size s1 1
      by_cases e0 : s1.size = 0
      · exact nope K1 (fun K hK k hk => by simp only [pV, pVal, if_neg c0, if_neg hdd, if_neg c1, if_pos c2, pArr, hk1 K hK, Option.bind_some, if_pos e0])
      by_cases e1 : bt s1 0 = 93
      · exact yes K1 (.arr []) (s1.extract 1 s1.size) (fun K hK k hk => by simp only [pV, pVal, if_neg c0, if_neg hdd, if_neg c1, if_pos c2, pArr, hk1 K hK, Option.bind_some, if_neg e0, if_pos e1]) ⟨by omega, by simp only [wsz, wszs]; omega⟩
      obtain ⟨R, ⟨K2, hk2⟩, hR⟩ := arrL_tot m (d + 1) hv s1.size s1 (Nat.le_refl _) (by omega)
      have hall : ∀ K, K1 + K2 + s1.size + 1 ≤ K → ∀ k, m + 1 ≤ k → pV K (k + 1) s d = some (R.map fun q => (.arr ([] ++ q.1), q.2)) := fun K hK k hk => by
        simp only [pV, pVal, if_neg c0, if_neg hdd, if_neg c1, if_pos c2, pArr, hk1 K (by omega), Option.bind_some, if_neg e0, if_neg e1]
        exact hk2 K (by omega) k hk K (by omega) []
      cases R with
      | none => exact nope _ (fun K hK k hk => hall K hK k hk)
      | some q =>
        obtain ⟨y1, y2⟩ := hR q.1 q.2 rfl
        exact yes _ _ _ (fun K hK k hk => hall K hK k hk) ⟨by omega, by simp only [wsz, List.nil_append]; omega⟩
    by_cases c3 : bt s 0 = 34
    · obtain ⟨⟨e1, e2, e3⟩, ⟨K2, hk2⟩, hsh⟩ := rawstr_any (s.extract 1 s.size) (by omega)
      cases e3 with
      | some x => exact nope K2 (fun K hK k hk => by simp only [pV, pVal, if_neg c0, if_neg hdd, if_neg c1, if_neg c2, if_pos c3, hk2 K hK, Option.bind_some])
      | none =>
        obtain ⟨g1, g2⟩ := hsh rfl
        simp only at g1 g2
        have hl2 : e2.size + 1 ≤ s.size := by omega
        exact yes K2 (.raw e1) e2 (fun K hK k hk => by simp only [pV, pVal, if_neg c0, if_neg hdd, if_neg c1, if_neg c2, if_pos c3, hk2 K hK, Option.bind_some, if_pos hl2]) ⟨by omega, by simp only [wsz]; omega⟩
    by_cases c4 : bt s 0 = 116
    · by_cases e : 4 ≤ s.size ∧ s.extract 0 4 = litTrue
      · exact yes 0 (.lit 5) (s.extract 4 s.size) (fun K hK k hk => by simp only [pV, pVal, if_neg c0, if_neg hdd, if_neg c1, if_neg c2, if_neg c3, if_pos c4, if_pos e]) (by have := e.1; rw [ext_size]; simp only [wsz]; omega)
      · exact nope 0 (fun K hK k hk => by simp only [pV, pVal, if_neg c0, if_neg hdd, if_neg c1, if_neg c2, if_neg c3, if_pos c4, if_neg e])
    by_cases c5 : bt s 0 = 102
    · by_cases e : 5 ≤ s.size ∧ s.extract 0 5 = litFalse
      · exact yes 0 (.lit 6) (s.extract 5 s.size) (fun K hK k hk => by simp only [pV, pVal, if_neg c0, if_neg hdd, if_neg c1, if_neg c2, if_neg c3, if_neg c4, if_pos c5, if_pos e]) (by have := e.1; rw [ext_size]; simp only [wsz]; omega)
      · exact nope 0 (fun K hK k hk => by simp only [pV, pVal, if_neg c0, if_neg hdd, if_neg c1, if_neg c2, if_neg c3, if_neg c4, if_pos c5, if_neg e])
    by_cases c6 : bt s 0 = 110
    · by_cases e : 4 ≤ s.size ∧ s.extract 0 4 = litNull
      · exact yes 0 (.lit 0) (s.extract 4 s.size) (fun K hK k hk => by simp only [pV, pVal, if_neg c0, if_neg hdd, if_neg c1, if_neg c2, if_neg c3, if_neg c4, if_neg c5, if_pos c6, if_pos e]) (by have := e.1; rw [ext_size]; simp only [wsz]; omega)
      by_cases e3 : 3 ≤ s.size
      · obtain ⟨b, K1, hk1⟩ := fold_any (s.extract 0 3) litNan (by rw [ByteArray.size_extract]; omega)
        cases b with
        | true => exact yes K1 (.num (s.extract 0 3)) (s.extract 3 s.size) (fun K hK k hk => by simp only [pV, pVal, if_neg c0, if_neg hdd, if_neg c1, if_neg c2, if_neg c3, if_neg c4, if_neg c5, if_pos c6, if_neg e, if_pos e3, hk1 K hK, Option.bind_some, if_true]) (by rw [ext_size]; simp only [wsz, ByteArray.size_extract]; omega)
        | false => exact nope K1 (fun K hK k hk => by simp only [pV, pVal, if_neg c0, if_neg hdd, if_neg c1, if_neg c2, if_neg c3, if_neg c4, if_neg c5, if_pos c6, if_neg e, if_pos e3, hk1 K hK, Option.bind_some]; rfl)
      · exact nope 0 (fun K hK k hk => by simp only [pV, pVal, if_neg c0, if_neg hdd, if_neg c1, if_neg c2, if_neg c3, if_neg c4, if_neg c5, if_pos c6, if_neg e, if_neg e3])
    · obtain ⟨⟨e1, e2, e3⟩, ⟨K2, hk2⟩, hsh⟩ := rawnum_any s (by omega) (by omega)
      cases e3 with
      | some x => exact nope K2 (fun K hK k hk => by simp only [pV, pVal, if_neg c0, if_neg hdd, if_neg c1, if_neg c2, if_neg c3, if_neg c4, if_neg c5, if_neg c6, hk2 K hK, Option.bind_some])
      | none =>
        obtain ⟨g1, g2⟩ := hsh rfl
        simp only at g1 g2
        exact yes K2 (.num e1) e2 (fun K hK k hk => by simp only [pV, pVal, if_neg c0, if_neg hdd, if_neg c1, if_neg c2, if_neg c3, if_neg c4, if_neg c5, if_neg c6, hk2 K hK, Option.bind_some, if_pos g2]) ⟨g2, by simp only [wsz]; omega⟩

/-- Parse answers for every text; what it reads is small. -/
theorem parse_any (s : ByteArray) (hs : s.size ≤ 1000000) : ∃ K r, pParse K s = some r ∧ ∀ v, r = some v → wsz v ≤ 2000000 := by
  obtain ⟨s1, h1, K1, hk1⟩ := sk_any s hs
  obtain ⟨r, ⟨K2, hk2⟩, hr⟩ := pv_tot 300 0 rfl s1 (by omega)
  cases r with
  | none =>
    refine ⟨K1 + K2 + 301, none, ?_, fun v e => by cases e⟩
    unfold pParse
    rw [(sk_some (hk1 _ (by omega))).1, Option.bind_some, if_pos (by omega), hk2 _ (by omega) _ (by omega), Option.bind_some]
  | some vt =>
    obtain ⟨v, t⟩ := vt
    obtain ⟨f1, f2⟩ := hr v t rfl
    obtain ⟨t2, h3, K3, hk3⟩ := sk_any t (by omega)
    refine ⟨K1 + K2 + K3 + 301, if t2.size = 0 then some v else none, ?_, fun v' e => ?_⟩
    · unfold pParse
      rw [(sk_some (hk1 _ (by omega))).1, Option.bind_some, if_pos (by omega), hk2 _ (by omega) _ (by omega), Option.bind_some]
      simp only
      rw [(sk_some (hk3 _ (by omega))).1, Option.bind_some]
      split <;> rfl
    · split at e
      · injection e with e; subst e; omega
      · cases e

end Go.Proofs.YtfoloneeibgoiaaDoor.Fjh
