/- An object is checked by fastjson as its members are: a name, a colon, a value, one after the other, no control character in a name: the law FnFjCheckMembers over the printed functions, with no program in sight. -/
import Derived.Test.YtfmllmlloekojaaDoorCmVal
set_option linter.unusedVariables false
set_option linter.unusedSimpArgs false
namespace Go.Proofs.YtfmllmlloekojaaDoor.PFnFjCheckMembers.Fj
open Go.RowKit Go.Proofs.YtfmllmlloekojaaDoor.PFnFjCheckMembers Go.Proofs.YtfmllmlloekojaaDoorW.PrintWords Go.Proofs.YtfmllmlloekojaaDoorW.PrintLast Go.Proofs.YtfmllmlloekojaaDoor.EvL Go.Proofs.YtfmllmlloekojaaDoor.StrL

/-- The object's check and the members' check tell the same. -/
def Rel (r : ByteArray × Option Int) (o : ByteArray × Bool) : Prop := o.2 = r.2.isNone ∧ (r.2.isNone = true → o.1 = r.1)
theorem Rel.bad {x y : ByteArray} {c : Int} : Rel (x, some c) (y, false) := ⟨rfl, fun h => by cases h⟩
theorem Rel.good {x : ByteArray} : Rel (x, none) (x, true) := ⟨rfl, fun _ => rfl⟩

/-- The members' check from x on tells the same as what the object's check told. -/
def Mem (x : ByteArray) (r : ByteArray × Option Int) : Prop := EvP (fun k => laws_fjMembers.l0 k x) (Rel r)

theorem isk {s r : ByteArray} (h : Ev (fun k => fastjson_skipWS.f k s) r) : Ev (fun k => impl_FjSkip.f k s) r := (impl_skip h).ev

theorem ckey {s : ByteArray} {r : ByteArray × ByteArray × Option Int} (h : Ev (fun k => fastjson_validateKey.f k s) r) : Ev (fun k => impl_FjCheckKey.f k s) (if r.2.2.isNone = true then (r.2.1, true) else (⟨#[]⟩, false)) := by
  refine EvP.ev ?_
  unfold impl_FjCheckKey.f fastjson_DoorCheckKey.f
  refine EvP.bind (Q := fun x => x = (r.2.1, r.2.2)) (EvP.sub_ev h (EvP.ret _ rfl)) (fun x hx => ?_)
  subst hx
  exact EvP.ite (fun e => EvP.ret _ (by rw [if_pos e])) (fun e => EvP.ret _ (by rw [if_neg e]))

theorem cval {s : ByteArray} {r : ByteArray × Option Int} (h : Ev (fun k => fastjson_validateValue.f k s) r) : Ev (fun k => impl_FjCheckValue.f k s) (if r.2.isNone = true then (r.1, true) else (⟨#[]⟩, false)) := by
  refine EvP.ev ?_
  unfold impl_FjCheckValue.f fastjson_DoorCheckValue.f
  refine EvP.bind (Q := fun x => x = (r.1, r.2)) (EvP.sub_ev h (EvP.ret _ rfl)) (fun x hx => ?_)
  subst hx
  exact EvP.ite (fun e => EvP.ret _ (by rw [if_pos e])) (fun e => EvP.ret _ (by rw [if_neg e]))

theorem cobj {s : ByteArray} {r : ByteArray × Option Int} (h : Ev (fun k => fastjson_validateObject.f k s) r) : Ev (fun k => impl_FjCheckObject.f k s) (if r.2.isNone = true then (r.1, true) else (⟨#[]⟩, false)) := by
  refine EvP.ev ?_
  unfold impl_FjCheckObject.f fastjson_DoorCheckObject.f
  refine EvP.bind (Q := fun x => x = (r.1, r.2)) (EvP.sub_ev h (EvP.ret _ rfl)) (fun x hx => ?_)
  subst hx
  exact EvP.ite (fun e => EvP.ret _ (by rw [if_pos e])) (fun e => EvP.ret _ (by rw [if_neg e]))

theorem j2t {P : ByteArray × Bool → Prop} (x : ByteArray) (h : P (⟨#[]⟩, false)) : EvP (fun k => laws_fjMembers.j2 k x true) P := EvP.succ (by simp only [laws_fjMembers.j2]; exact EvP.pos trivial (EvP.ret _ h))
theorem j3t {P : ByteArray × Bool → Prop} (x y : ByteArray) (h : P (⟨#[]⟩, false)) : EvP (fun k => laws_fjMembers.j3 k x y true) P := EvP.succ (by simp only [laws_fjMembers.j3]; exact EvP.pos trivial (EvP.ret _ h))
theorem j4t {P : ByteArray × Bool → Prop} (x y : ByteArray) (h : P (⟨#[]⟩, false)) : EvP (fun k => laws_fjMembers.j4 k x y true) P := EvP.succ (by simp only [laws_fjMembers.j4]; exact EvP.pos trivial (EvP.ret _ h))
theorem j5t {P : ByteArray × Bool → Prop} (x : ByteArray) (h : P (⟨#[]⟩, false)) : EvP (fun k => laws_fjMembers.j5 k x true) P := EvP.succ (by simp only [laws_fjMembers.j5]; exact EvP.pos trivial (EvP.ret _ h))
theorem j6t {P : ByteArray × Bool → Prop} (x : ByteArray) (h : P (⟨#[]⟩, false)) : EvP (fun k => laws_fjMembers.j6 k x true) P := EvP.succ (by simp only [laws_fjMembers.j6]; exact EvP.pos trivial (EvP.ret _ h))

theorem nil_of {t : ByteArray} (h : (t.size : Int) = 0) : t.toList = [] := (toList_nil t).2 (by omega)
theorem not_nil {t : ByteArray} (h : ¬ (t.size : Int) = 0) : ¬ t.toList = [] := fun e => h (by have := (toList_nil t).1 e; omega)

/-- A name in quotation marks has a control character just if what the check hands on has. -/
theorem low_pre {t : ByteArray} {r : ByteArray × ByteArray × Option Int} (h0 : 1 ≤ t.size) (hq : bt t 0 = 34) (hst : stdy false (ints t) = true) (hr : VS (t.extract 1 t.size) r) (e : r.2.2.isNone = true) :
    Low (ints (t.extract 0 (t.size - r.2.1.size))) ↔ Low (ints r.1) := by
  obtain ⟨raw, h1, _, _, h2⟩ := hr (by simpa using e)
  have ht : ints t = 34 :: (raw ++ 34 :: ints r.2.1) := by
    have := drop_of_lt (s := t) (i := 0) (by omega) (by omega)
    rw [hq] at this
    rw [← h1, ext_ints]
    simpa using this
  have hst2 : stdy false (raw ++ 34 :: ints r.2.1) = true := by rw [ht] at hst; exact stdy_tail hst
  have hsz := congrArg List.length ht
  rw [List.length_cons, List.length_append, List.length_cons, ints_length, ints_length] at hsz
  have hp : ints (t.extract 0 (t.size - r.2.1.size)) = 34 :: (raw ++ [34]) := by
    have h3 : ints t = (34 :: (raw ++ [34])) ++ ints r.2.1 := by rw [ht]; simp
    have := front_ints h3
    rwa [show (34 :: (raw ++ [34])).length = t.size - r.2.1.size from by simp; omega] at this
  rw [hp, ← h2 hst2]
  constructor
  · rintro ⟨b, hb, h⟩
    rcases List.mem_cons.1 hb with rfl | hb
    · omega
    · rcases List.mem_append.1 hb with hb | hb
      · exact ⟨b, hb, h⟩
      · rw [List.mem_singleton] at hb; omega
  · rintro ⟨b, hb, h⟩
    exact ⟨b, List.mem_cons_of_mem _ (List.mem_append.2 (.inl hb)), h⟩

theorem mem_l0 : ∀ (d : Nat) (x : ByteArray), x.size < d → d ≤ 2147483647 → stdy false (ints x) = true → EvP (fun k => fastjson_validateObject.l0 k x) (Mem x) := by
  intro d
  induction d with
  | zero => intro x h; omega
  | succ d ih =>
    intro x hxd hd hst
    obtain ⟨t, het, ht⟩ := skip_f x (by omega)
    have hts := ht.size
    have hx := ext_size t 1
    have M1 : ∀ {P : ByteArray × Bool → Prop}, EvP (fun k => if t.toList = ([] : List UInt8) then (laws_fjMembers.j2 k t true) else (if 0 < (t.size : Int) then (laws_fjMembers.j2 k t ((bt t 0) != 34)) else (none))) P → EvP (fun k => laws_fjMembers.l0 k x) P := by
      intro P h
      refine EvP.succ ?_
      simp only [laws_fjMembers.l0]
      exact EvP.sub_ev (isk het) h
    have o1t : ∀ {P : ByteArray × Option Int → Prop} (y : ByteArray), P (y, some 0) → EvP (fun k => fastjson_validateObject.j1 k y true) P := fun y h => EvP.succ (by simp only [fastjson_validateObject.j1]; exact EvP.pos trivial (EvP.sub (v := some 0) rfl (EvP.ret _ h)))
    have o3t : ∀ {P : ByteArray × Option Int → Prop} (y : ByteArray), P (y, some 0) → EvP (fun k => fastjson_validateObject.j3 k y true) P := fun y h => EvP.succ (by simp only [fastjson_validateObject.j3]; exact EvP.pos trivial (EvP.sub (v := some 0) rfl (EvP.ret _ h)))
    refine EvP.succ ?_
    simp only [fastjson_validateObject.l0]
    refine EvP.sub_ev het (EvP.ite (fun h0 => o1t _ (M1 (EvP.pos (nil_of h0) (j2t _ Rel.bad)))) (fun h0 => EvP.pos (by omega) ?_))
    have M2 : ∀ {P : ByteArray × Bool → Prop}, EvP (fun k => laws_fjMembers.j2 k t ((bt t 0) != 34)) P → EvP (fun k => laws_fjMembers.l0 k x) P := fun h => M1 (EvP.neg (not_nil h0) (EvP.pos (by omega) h))
    cases hq : (bt t 0 != 34) with
    | true => rw [hq] at M2; exact o1t _ (M2 (j2t _ Rel.bad))
    | false =>
      rw [hq] at M2
      have hq34 : bt t 0 = 34 := by simpa using hq
      obtain ⟨r, her, hr⟩ := key_f (t.extract 1 t.size) (by omega)
      have M3 : ∀ {P : ByteArray × Bool → Prop}, EvP (fun k => laws_fjMembers.j2 k t false) P → EvP (fun k => laws_fjMembers.l0 k x) P := M2
      refine EvP.succ ?_
      simp only [fastjson_validateObject.j1]
      refine EvP.neg (by simp) (EvP.pos (by omega) (EvP.sub_ev her (EvP.ite (fun e => ?_) (fun e => EvP.sub (v := some 0) rfl (EvP.ret _ (M3 (EvP.succ ?_)))))))
      rotate_left
      · simp only [laws_fjMembers.j2]
        refine EvP.neg (by simp) (EvP.pos (by omega) (EvP.sub_ev (ckey her) ?_))
        rw [if_neg e]
        exact EvP.neg (by simp) (j3t _ _ Rel.bad)
      obtain ⟨k1, k2⟩ := VS.suf hr e
      have hsz : r.1.size ≤ 2147483647 := string_in (by omega) hr e
      have kT : Suf r.2.1 t := k1.trans (Suf.ext t 1)
      have hlowp := low_pre (by omega) hq34 (stdy_suf ht hst) hr e
      obtain ⟨lw, hel, hlw⟩ := low_f (t.extract 0 (t.size - r.2.1.size)) (by have : (t.extract 0 (t.size - r.2.1.size)).size = min (t.size - r.2.1.size) t.size - 0 := ByteArray.size_extract; omega)
      have M4 : ∀ {P : ByteArray × Bool → Prop}, EvP (fun k => laws_fjMembers.j3 k t r.2.1 lw) P → EvP (fun k => laws_fjMembers.l0 k x) P := by
        intro P h
        refine M3 (EvP.succ ?_)
        simp only [laws_fjMembers.j2]
        refine EvP.neg (by simp) (EvP.pos (by omega) (EvP.sub_ev (ckey her) ?_))
        rw [if_pos e]
        dsimp only
        rw [w64 (x := (t.size : Int) - (r.2.1.size : Int)) (by omega) (by omega), show ((t.size : Int) - (r.2.1.size : Int)).toNat = t.size - r.2.1.size from by omega]
        exact EvP.pos rfl (EvP.neg (by omega) (EvP.pos (by omega) (EvP.pos (by omega) (EvP.sub_ev hel h))))
      refine object_l1 _ r.2.1 r.1 hsz _ 0 (ints r.1) (by omega) (by omega) (by simp) (Nat.le_refl _) (fun hl => ?_) (fun hl => ?_)
      · have : lw = true := hlw.2 (hlowp.2 hl)
        rw [this] at M4
        exact M4 (j3t _ _ Rel.bad)
      have hlf : lw = false := by
        cases lw with
        | false => rfl
        | true => exact absurd (hlowp.1 (hlw.1 rfl)) hl
      rw [hlf] at M4
      obtain ⟨u, heu, hu⟩ := skip_f r.2.1 (by omega)
      have hus := hu.size
      have hxu := ext_size u 1
      have M5 : ∀ {P : ByteArray × Bool → Prop}, EvP (fun k => if u.toList = ([] : List UInt8) then (laws_fjMembers.j4 k t u true) else (if 0 < (u.size : Int) then (laws_fjMembers.j4 k t u ((bt u 0) != 58)) else (none))) P → EvP (fun k => laws_fjMembers.l0 k x) P := by
        intro P h
        refine M4 (EvP.succ ?_)
        simp only [laws_fjMembers.j3]
        exact EvP.neg (by simp) (EvP.sub_ev (isk heu) h)
      refine EvP.succ ?_
      simp only [fastjson_validateObject.l1]
      refine EvP.neg (by omega) (EvP.sub_ev heu (EvP.ite (fun h0 => o3t _ (M5 (EvP.pos (nil_of h0) (j4t _ _ Rel.bad)))) (fun h0 => EvP.pos (by omega) ?_)))
      have M6 : ∀ {P : ByteArray × Bool → Prop}, EvP (fun k => laws_fjMembers.j4 k t u ((bt u 0) != 58)) P → EvP (fun k => laws_fjMembers.l0 k x) P := fun h => M5 (EvP.neg (not_nil h0) (EvP.pos (by omega) h))
      cases hq2 : (bt u 0 != 58) with
      | true => rw [hq2] at M6; exact o3t _ (M6 (j4t _ _ Rel.bad))
      | false =>
        rw [hq2] at M6
        obtain ⟨v, hev, hv⟩ := skip_f (u.extract 1 u.size) (by omega)
        have hvs := hv.size
        obtain ⟨q, heq, hq⟩ := value_f v (by omega)
        refine EvP.succ ?_
        simp only [fastjson_validateObject.j3]
        refine EvP.neg (by simp) (EvP.pos (by omega) (EvP.sub_ev hev (EvP.sub_ev heq (EvP.ite (fun e2 => ?_) (fun e2 => EvP.sub (v := some 0) rfl (EvP.ret _ (M6 (EvP.succ ?_))))))))
        rotate_left
        · simp only [laws_fjMembers.j4]
          refine EvP.neg (by simp) (EvP.pos (by omega) (EvP.sub_ev (isk hev) (EvP.sub_ev (cval heq) ?_)))
          rw [if_neg e2]
          exact EvP.neg (by simp) (j5t _ Rel.bad)
        have h1 := hq.to e2 (hv.trans ((Suf.ext u 1).trans (hu.trans kT)))
        obtain ⟨y, hey, hy⟩ := skip_f q.1 (by omega)
        have hys := hy.size
        have hxy := ext_size y 1
        have M7 : ∀ {P : ByteArray × Bool → Prop}, EvP (fun k => if y.toList = ([] : List UInt8) then (laws_fjMembers.j6 k y true) else (if 0 < (y.size : Int) then (if (bt y 0) = 44 then (laws_fjMembers.j6 k y false) else (laws_fjMembers.j6 k y ((bt y 0) != 125))) else (none))) P → EvP (fun k => laws_fjMembers.l0 k x) P := by
          intro P h
          refine M6 (EvP.succ ?_)
          simp only [laws_fjMembers.j4]
          refine EvP.neg (by simp) (EvP.pos (by omega) (EvP.sub_ev (isk hev) (EvP.sub_ev (cval heq) ?_)))
          rw [if_pos e2]
          dsimp only
          rw [show decide ((q.1.size : Int) ≥ (t.size : Int)) = false from decide_eq_false (by omega)]
          refine EvP.pos rfl (EvP.succ ?_)
          simp only [laws_fjMembers.j5]
          exact EvP.neg (by simp) (EvP.sub_ev (isk hey) h)
        refine EvP.sub_ev hey (EvP.ite (fun h0 => EvP.sub (v := some 0) rfl (EvP.ret _ (M7 (EvP.pos (nil_of h0) (j6t _ Rel.bad))))) (fun h0 => EvP.pos (by omega) ?_))
        have M8 : ∀ {P : ByteArray × Bool → Prop}, EvP (fun k => if (bt y 0) = 44 then (laws_fjMembers.j6 k y false) else (laws_fjMembers.j6 k y ((bt y 0) != 125))) P → EvP (fun k => laws_fjMembers.l0 k x) P := fun h => M7 (EvP.neg (not_nil h0) (EvP.pos (by omega) h))
        refine EvP.ite (fun c44 => EvP.pos (by omega) ?_) (fun c44 => EvP.ite (fun c125 => EvP.pos (by omega) (EvP.ret _ ?_)) (fun c125 => EvP.sub (v := some 0) rfl (EvP.ret _ ?_)))
        · refine (ih (y.extract 1 y.size) (by omega) (by omega) (stdy_suf ((Suf.ext y 1).trans (hy.trans (h1.1.trans ht))) hst)).mono (fun r hr => M8 (EvP.pos c44 (EvP.succ ?_)))
          simp only [laws_fjMembers.j6]
          exact EvP.neg (by simp) (EvP.pos (by omega) (EvP.neg (by omega) (EvP.pos (by omega) hr)))
        · refine M8 (EvP.neg c44 (EvP.succ ?_))
          rw [show (bt y 0 != 125) = false from by rw [c125]; rfl]
          simp only [laws_fjMembers.j6]
          exact EvP.neg (by simp) (EvP.pos (by omega) (EvP.pos c125 (EvP.pos (by omega) (EvP.ret _ Rel.good))))
        · refine M8 (EvP.neg c44 ?_)
          rw [show (bt y 0 != 125) = true from by simpa using c125]
          exact j6t _ Rel.bad

theorem mem_f (x : ByteArray) (hn : x.size < 2147483647) (hst : stdy false (ints x) = true) : EvP (fun k => fastjson_validateObject.f k x) (fun r => EvP (fun k => laws_fjMembers.f k x) (Rel r)) := by
  obtain ⟨t, het, ht⟩ := skip_f x (by omega)
  have hts := ht.size
  have hx := ext_size t 1
  have M1 : ∀ {P : ByteArray × Bool → Prop}, EvP (fun k => if t.toList = ([] : List UInt8) then (laws_fjMembers.j0 k t false) else (if 0 < (t.size : Int) then (laws_fjMembers.j0 k t ((bt t 0) == 125)) else (none))) P → EvP (fun k => laws_fjMembers.f k x) P := by
    intro P h
    unfold laws_fjMembers.f
    exact EvP.sub_ev (isk het) h
  refine EvP.succ ?_
  simp only [fastjson_validateObject.f]
  refine EvP.sub_ev het (EvP.ite (fun h0 => EvP.sub (v := some 0) rfl (EvP.ret _ (M1 (EvP.pos (nil_of h0) (EvP.succ ?_))))) (fun h0 => EvP.pos (by omega) (EvP.ite (fun c => EvP.pos (by omega) (EvP.ret _ (M1 (EvP.neg (not_nil h0) (EvP.pos (by omega) (EvP.succ ?_)))))) (fun c => ?_))))
  · simp only [laws_fjMembers.j0]
    refine EvP.neg (by simp) (EvP.succ ?_)
    simp only [laws_fjMembers.l0]
    obtain ⟨u, heu, hu⟩ := skip_f t (by omega)
    have := hu.size
    exact EvP.sub_ev (isk heu) (EvP.pos (nil_of (by omega)) (j2t _ Rel.bad))
  · simp only [laws_fjMembers.j0]
    rw [show (bt t 0 == 125) = true from by rw [c]; rfl]
    exact EvP.pos rfl (EvP.pos (by omega) (EvP.ret _ Rel.good))
  · refine (mem_l0 2147483647 t (by omega) (Nat.le_refl _) (stdy_suf ht hst)).mono (fun r hr => M1 (EvP.neg (not_nil h0) (EvP.pos (by omega) (EvP.succ ?_))))
    simp only [laws_fjMembers.j0]
    rw [show (bt t 0 == 125) = false from by simpa using c]
    exact EvP.neg (by simp) hr

theorem one : ∃ k r, impl_FjCheckObject.f k (⟨#[34, 97, 34, 58, 49, 44, 34, 98, 34, 58, 50, 125]⟩ : ByteArray) = some (r, true) := ⟨25, ⟨#[]⟩, by kernel_rfl⟩

end Go.Proofs.YtfmllmlloekojaaDoor.PFnFjCheckMembers.Fj
