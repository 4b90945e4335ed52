/- Plain laws of fastjson's checks (law PFnFjCheckMembers), third part: values, arrays and objects leave a shorter end of the text. -/
import Derived.Test.YtfmllmlloekojaaDoorCmStr
set_option linter.unusedVariables false
set_option linter.unusedSimpArgs false
namespace Go.Proofs.YtfmllmlloekojaaDoor.PFnFjCheckMembers.Fj
open Go.RowKit Go.Proofs.YtfmllmlloekojaaDoor.PFnFjCheckMembers Go.Proofs.YtfmllmlloekojaaDoorW.PrintWords Go.Proofs.YtfmllmlloekojaaDoorW.PrintLast Go.Proofs.YtfmllmlloekojaaDoor.EvL Go.Proofs.YtfmllmlloekojaaDoor.StrL

theorem EvP.sub_ev {α β : Type} {g : Nat → Option α} {v : α} {F : Nat → α → Option β} {P : β → Prop} (e : Ev g v) (h : EvP (fun k => F k v) P) : EvP (fun k => (g k).bind (F k)) P :=
  EvP.bind (Q := fun a => a = v) (EvP.of_ev e rfl) (fun a ha => by subst ha; exact h)

theorem VS.suf {s : ByteArray} {r : ByteArray × ByteArray × Option Int} (h : VS s r) (e : r.2.2.isNone = true) : Suf r.2.1 s ∧ r.2.1.size < s.size := by
  obtain ⟨raw, h1, _, _, _⟩ := h (by simpa using e)
  refine ⟨⟨raw ++ [34], by rw [h1]; simp⟩, ?_⟩
  have := size_app h1
  rw [List.length_cons, ints_length] at this
  omega

theorem string_in {s : ByteArray} {r : ByteArray × ByteArray × Option Int} (hs : s.size ≤ 2147483647) (h : VS s r) (e : r.2.2.isNone = true) : r.1.size ≤ 2147483647 := by
  obtain ⟨raw, h1, _, h2, _⟩ := h (by simpa using e)
  have := size_app h1
  omega

theorem Good.to {s x : ByteArray} {r : ByteArray × Option Int} (h : Good x r) (e : r.2.isNone = true) (hx : Suf x s) : Suf r.1 s ∧ r.1.size < x.size ∧ r.1.size ≤ s.size := by
  have h1 := h (by simpa using e)
  have := hx.size
  exact ⟨h1.1.trans hx, h1.2, by omega⟩

theorem suf_size {a b : ByteArray} (h : Suf a b) : a.size ≤ b.size := h.size

theorem Good.mk {s x : ByteArray} (h : Suf x s) (k : x.size < s.size) : Good s (x, none) := fun _ => ⟨h, k⟩

theorem value_l0 (P : ByteArray × Option Int → Prop) (x8 x9 : ByteArray) (hn : x8.size ≤ 2147483647) (hbad : P (x9, some 0)) (hok : P (x9, none)) : ∀ (d : Nat) (i : Int), 0 ≤ i → i ≤ x8.size → (x8.size : Int) - i ≤ d → EvP (fun k => fastjson_validateValue.l0 k x8 x9 (x8.size : Int) i) P := by
  intro d
  induction d with
  | zero =>
    intro i h0 hi hd
    refine EvP.succ ?_
    simp only [fastjson_validateValue.l0]
    exact EvP.neg (by omega) (EvP.ret _ hok)
  | succ d ih =>
    intro i h0 hi hd
    refine EvP.succ ?_
    simp only [fastjson_validateValue.l0]
    refine EvP.ite (fun hlt => EvP.pos h0 (EvP.pos hlt (EvP.ite (fun _ => EvP.sub (v := some 0) rfl (EvP.ret _ hbad)) (fun _ => ?_)))) (fun _ => EvP.ret _ hok)
    rw [w64 (x := i + 1) (by omega) (by omega)]
    exact ih (i + 1) (by omega) (by omega) (by omega)

/-- From i on: a control character stands there, or the object's check goes on at the name's end. -/
theorem object_l1 (P : ByteArray × Option Int → Prop) (x0 x5 : ByteArray) (hn : x5.size ≤ 2147483647) : ∀ (d : Nat) (i : Int) (l : List Int), 0 ≤ i → i ≤ x5.size → (ints x5).drop i.toNat = l → l.length ≤ d → (Low l → P (x0, some 0)) → (¬ Low l → EvP (fun k => fastjson_validateObject.l1 k x0 x5 (x5.size : Int) (x5.size : Int)) P) →
    EvP (fun k => fastjson_validateObject.l1 k x0 x5 (x5.size : Int) i) P := by
  intro d
  induction d with
  | zero =>
    intro i l h0 hi hl hd hbad hok
    obtain rfl : l = [] := List.eq_nil_of_length_eq_zero (by omega)
    have h1 := len_of_drop_nil h0 hl
    rw [ints_length] at h1
    obtain rfl : i = (x5.size : Int) := by omega
    exact hok (by simp [Low])
  | succ d ih =>
    intro i l h0 hi hl hd hbad hok
    cases l with
    | nil =>
      have h1 := len_of_drop_nil h0 hl
      rw [ints_length] at h1
      obtain rfl : i = (x5.size : Int) := by omega
      exact hok (by simp [Low])
    | cons b t =>
      obtain ⟨hb, hlt, ht⟩ := bt_of_drop h0 hl
      rw [List.length_cons] at hd
      refine EvP.succ ?_
      simp only [fastjson_validateObject.l1]
      rw [w64 (x := i + 1) (by omega) (by omega), hb]
      refine EvP.pos hlt (EvP.pos h0 (EvP.pos hlt (EvP.ite (fun e => EvP.sub (v := some 0) rfl (EvP.ret _ (hbad ⟨b, List.mem_cons_self, e⟩))) (fun e => ?_))))
      refine ih (i + 1) t (by omega) (by omega) ht (by omega) (fun ⟨c, hc, h⟩ => hbad ⟨c, List.mem_cons_of_mem _ hc, h⟩) (fun hno => hok ?_)
      rintro ⟨c, hc, h⟩
      rcases List.mem_cons.1 hc with rfl | hc
      · exact e h
      · exact hno ⟨c, hc, h⟩

/-- What the checks of values, arrays and objects leave, texts of less than d bytes. -/
structure AllGood (d : Nat) : Prop where
  value : ∀ s : ByteArray, s.size < d → EvP (fun k => fastjson_validateValue.f k s) (Good s)
  object : ∀ s : ByteArray, s.size < d → EvP (fun k => fastjson_validateObject.f k s) (Good s)
  array : ∀ s : ByteArray, s.size < d → EvP (fun k => fastjson_validateArray.f k s) (Good s)
  objects : ∀ s : ByteArray, s.size < d → EvP (fun k => fastjson_validateObject.l0 k s) (Good s)
  arrays : ∀ s : ByteArray, s.size < d → EvP (fun k => fastjson_validateArray.l0 k s) (Good s)

theorem value_step {d : Nat} (hd : d ≤ 2147483647) (A : AllGood d) (s : ByteArray) (hs : s.size < d + 1) : EvP (fun k => fastjson_validateValue.f k s) (Good s) := by
  have hx := ext_size s 1
  have bad : ∀ x, EvP (fun _ => some ((x, some 0) : ByteArray × Option Int)) (Good s) := fun x => EvP.ret _ Good.bad
  refine EvP.succ ?_
  simp only [fastjson_validateValue.f]
  refine EvP.ite (fun _ => EvP.sub (v := some 0) rfl (bad _)) (fun h0 => EvP.pos (by omega) ?_)
  refine EvP.ite (fun _ => EvP.pos (by omega) (EvP.bind (A.object (s.extract 1 s.size) (by omega)) (fun r hr => EvP.ite (fun e => EvP.ret _ ?_) (fun _ => EvP.sub (v := some 0) rfl (bad _))))) (fun _ => ?_)
  · have := hr.to e (Suf.ext s 1); exact Good.mk this.1 (by omega)
  refine EvP.ite (fun _ => EvP.pos (by omega) (EvP.bind (A.array (s.extract 1 s.size) (by omega)) (fun r hr => EvP.ite (fun e => EvP.ret _ ?_) (fun _ => EvP.sub (v := some 0) rfl (bad _))))) (fun _ => ?_)
  · have := hr.to e (Suf.ext s 1); exact Good.mk this.1 (by omega)
  refine EvP.ite (fun _ => EvP.pos (by omega) (EvP.bind (string_f (s.extract 1 s.size) (by omega)) (fun r hr => EvP.ite (fun e => ?_) (fun _ => EvP.sub (v := some 0) rfl (bad _))))) (fun _ => ?_)
  · obtain ⟨h1, h2⟩ := VS.suf hr e
    have hsz : r.1.size ≤ 2147483647 := string_in (by omega) hr e
    exact value_l0 _ r.1 r.2.1 hsz Good.bad (Good.mk (h1.trans (Suf.ext s 1)) (by omega)) _ 0 (by omega) (by omega) (Int.le_refl _)
  refine EvP.ite (fun _ => EvP.ite (fun _ => EvP.sub (v := some 0) rfl (bad _)) (fun h4 => EvP.pos (by omega) (EvP.pos (by omega) (EvP.ite (fun _ => EvP.ret _ (Good.ext (by omega) (by omega))) (fun _ => EvP.sub (v := some 0) rfl (bad _)))))) (fun _ => ?_)
  refine EvP.ite (fun _ => EvP.ite (fun _ => EvP.sub (v := some 0) rfl (bad _)) (fun h4 => EvP.pos (by omega) (EvP.pos (by omega) (EvP.ite (fun _ => EvP.ret _ (Good.ext (by omega) (by omega))) (fun _ => EvP.sub (v := some 0) rfl (bad _)))))) (fun _ => ?_)
  refine EvP.ite (fun _ => EvP.ite (fun _ => EvP.sub (v := some 0) rfl (bad _)) (fun h4 => EvP.pos (by omega) (EvP.pos (by omega) (EvP.ite (fun _ => EvP.ret _ (Good.ext (by omega) (by omega))) (fun _ => EvP.sub (v := some 0) rfl (bad _)))))) (fun _ => ?_)
  refine EvP.bind (number_f s (by omega)) (fun r hr => EvP.ite (fun e => EvP.ret _ ?_) (fun _ => EvP.sub (v := some 0) rfl (bad _)))
  have := hr.to e (Suf.refl s); exact Good.mk this.1 this.2.1

theorem arrays_step {d : Nat} (hd : d ≤ 2147483647) (A : AllGood d) (s : ByteArray) (hs : s.size < d + 1) : EvP (fun k => fastjson_validateArray.l0 k s) (Good s) := by
  have bad : ∀ x, EvP (fun _ => some ((x, some 0) : ByteArray × Option Int)) (Good s) := fun x => EvP.ret _ Good.bad
  refine EvP.succ ?_
  simp only [fastjson_validateArray.l0]
  refine EvP.bind (skip_f s (by omega)) (fun t ht => ?_)
  have hts := ht.size
  refine EvP.bind (value_step hd A t (by omega)) (fun r hr => EvP.ite (fun e => ?_) (fun _ => EvP.sub (v := some 0) rfl (bad _)))
  have h1 := hr.to e ht
  refine EvP.bind (skip_f r.1 (by omega)) (fun u hu => ?_)
  have hus := hu.size
  have hx := ext_size u 1
  refine EvP.ite (fun _ => EvP.sub (v := some 0) rfl (bad _)) (fun h0 => EvP.pos (by omega) (EvP.ite (fun _ => EvP.pos (by omega) ?_) (fun _ => EvP.ite (fun _ => EvP.pos (by omega) (EvP.ret _ ?_)) (fun _ => EvP.sub (v := some 0) rfl (bad _)))))
  · exact (A.arrays _ (by omega)).mono (fun q hq => hq.of ((Suf.ext u 1).trans (hu.trans h1.1)))
  · exact Good.mk ((Suf.ext u 1).trans (hu.trans h1.1)) (by omega)

theorem array_step {d : Nat} (hd : d ≤ 2147483647) (A : AllGood d) (s : ByteArray) (hs : s.size < d + 1) : EvP (fun k => fastjson_validateArray.f k s) (Good s) := by
  have bad : ∀ x, EvP (fun _ => some ((x, some 0) : ByteArray × Option Int)) (Good s) := fun x => EvP.ret _ Good.bad
  refine EvP.succ ?_
  simp only [fastjson_validateArray.f]
  refine EvP.bind (skip_f s (by omega)) (fun t ht => ?_)
  have hts := ht.size
  have hx := ext_size t 1
  refine EvP.ite (fun _ => EvP.sub (v := some 0) rfl (bad _)) (fun h0 => EvP.pos (by omega) (EvP.ite (fun _ => EvP.pos (by omega) (EvP.ret _ (Good.mk ((Suf.ext t 1).trans ht) (by omega)))) (fun _ => ?_)))
  exact (arrays_step hd A t (by omega)).mono (fun q hq => hq.of ht)

theorem objects_step {d : Nat} (hd : d ≤ 2147483647) (A : AllGood d) (s : ByteArray) (hs : s.size < d + 1) : EvP (fun k => fastjson_validateObject.l0 k s) (Good s) := by
  have bad : ∀ x, EvP (fun _ => some ((x, some 0) : ByteArray × Option Int)) (Good s) := fun x => EvP.ret _ Good.bad
  have j1t : ∀ x, EvP (fun k => fastjson_validateObject.j1 k x true) (Good s) := fun x => EvP.succ (by simp only [fastjson_validateObject.j1]; exact EvP.pos trivial (EvP.sub (v := some 0) rfl (bad _)))
  have j3t : ∀ x, EvP (fun k => fastjson_validateObject.j3 k x true) (Good s) := fun x => EvP.succ (by simp only [fastjson_validateObject.j3]; exact EvP.pos trivial (EvP.sub (v := some 0) rfl (bad _)))
  refine EvP.succ ?_
  simp only [fastjson_validateObject.l0]
  refine EvP.bind (skip_f s (by omega)) (fun t ht => ?_)
  have hts := ht.size
  have hx := ext_size t 1
  refine EvP.ite (fun _ => j1t _) (fun h0 => EvP.pos (by omega) ?_)
  cases hq : (bt t 0 != 34) with
  | true => exact j1t _
  | false =>
    refine EvP.succ ?_
    simp only [fastjson_validateObject.j1]
    refine EvP.neg (by simp) (EvP.pos (by omega) (EvP.bind (key_f (t.extract 1 t.size) (by omega)) (fun r hr => EvP.ite (fun e => ?_) (fun _ => EvP.sub (v := some 0) rfl (bad _)))))
    obtain ⟨k1, k2⟩ := VS.suf hr e
    have hsz : r.1.size ≤ 2147483647 := string_in (by omega) hr e
    have kS : Suf r.2.1 s := k1.trans ((Suf.ext t 1).trans ht)
    refine object_l1 _ r.2.1 r.1 hsz _ 0 (ints r.1) (by omega) (by omega) (by simp) (Nat.le_refl _) (fun _ => Good.bad) (fun _ => ?_)
    refine EvP.succ ?_
    simp only [fastjson_validateObject.l1]
    refine EvP.neg (by omega) (EvP.bind (skip_f r.2.1 (by omega)) (fun u hu => ?_))
    have hus := hu.size
    have hxu := ext_size u 1
    refine EvP.ite (fun _ => j3t _) (fun h0 => EvP.pos (by omega) ?_)
    cases hq : (bt u 0 != 58) with
    | true => exact j3t _
    | false =>
      refine EvP.succ ?_
      simp only [fastjson_validateObject.j3]
      refine EvP.neg (by simp) (EvP.pos (by omega) (EvP.bind (skip_f (u.extract 1 u.size) (by omega)) (fun v hv => ?_)))
      have hvs := hv.size
      refine EvP.bind (A.value v (by omega)) (fun q hq => EvP.ite (fun e => ?_) (fun _ => EvP.sub (v := some 0) rfl (bad _)))
      have h1 := hq.to e (hv.trans ((Suf.ext u 1).trans (hu.trans kS)))
      refine EvP.bind (skip_f q.1 (by omega)) (fun y hy => ?_)
      have hys := hy.size
      have hxy := ext_size y 1
      refine EvP.ite (fun _ => EvP.sub (v := some 0) rfl (bad _)) (fun h0 => EvP.pos (by omega) (EvP.ite (fun _ => EvP.pos (by omega) ?_) (fun _ => EvP.ite (fun _ => EvP.pos (by omega) (EvP.ret _ ?_)) (fun _ => EvP.sub (v := some 0) rfl (bad _)))))
      · exact (A.objects _ (by omega)).mono (fun q hq => hq.of ((Suf.ext y 1).trans (hy.trans h1.1)))
      · exact Good.mk ((Suf.ext y 1).trans (hy.trans h1.1)) (by omega)

theorem object_step {d : Nat} (hd : d ≤ 2147483647) (A : AllGood d) (s : ByteArray) (hs : s.size < d + 1) : EvP (fun k => fastjson_validateObject.f k s) (Good s) := by
  have bad : ∀ x, EvP (fun _ => some ((x, some 0) : ByteArray × Option Int)) (Good s) := fun x => EvP.ret _ Good.bad
  refine EvP.succ ?_
  simp only [fastjson_validateObject.f]
  refine EvP.bind (skip_f s (by omega)) (fun t ht => ?_)
  have hts := ht.size
  have hx := ext_size t 1
  refine EvP.ite (fun _ => EvP.sub (v := some 0) rfl (bad _)) (fun h0 => EvP.pos (by omega) (EvP.ite (fun _ => EvP.pos (by omega) (EvP.ret _ (Good.mk ((Suf.ext t 1).trans ht) (by omega)))) (fun _ => ?_)))
  exact (objects_step hd A t (by omega)).mono (fun q hq => hq.of ht)

theorem all_good : ∀ d : Nat, d ≤ 2147483647 → AllGood d
  | 0, _ => ⟨fun s h => by omega, fun s h => by omega, fun s h => by omega, fun s h => by omega, fun s h => by omega⟩
  | d + 1, hd => by
    have A := all_good d (by omega)
    exact ⟨value_step (by omega) A, object_step (by omega) A, array_step (by omega) A, objects_step (by omega) A, arrays_step (by omega) A⟩

theorem value_f (s : ByteArray) (hn : s.size < 2147483647) : EvP (fun k => fastjson_validateValue.f k s) (Good s) := (all_good 2147483647 (Nat.le_refl _)).value s hn
theorem object_f (s : ByteArray) (hn : s.size < 2147483647) : EvP (fun k => fastjson_validateObject.f k s) (Good s) := (all_good 2147483647 (Nat.le_refl _)).object s hn

end Go.Proofs.YtfmllmlloekojaaDoor.PFnFjCheckMembers.Fj
