/- Plain laws of fastjson's checks (law PFnFjCheckMembers), second part: control characters and backslashes, strings and names, numbers. -/
import Derived.Test.YtfmllmlloekojaaDoorCmTok
set_option linter.unusedVariables false
namespace Go.Proofs.YtfmllmlloekojaaDoor.PFnFjCheckMembers.Fj
open Go.RowKit Go.Proofs.YtfmllmlloekojaaDoor.PFnFjCheckMembers Go.Proofs.YtfmllmlloekojaaDoorW.PrintWords Go.Proofs.YtfmllmlloekojaaDoorW.PrintLast Go.Proofs.YtfmllmlloekojaaDoor.EvL Go.Proofs.YtfmllmlloekojaaDoor.StrL

/-! ### no control character is followed by a backslash without a quotation mark between the two -/
def stdy : Bool → List Int → Bool
  | _, [] => true
  | low, b :: t => if b = 34 then stdy false t else if b = 92 ∧ low = true then false else if b < 32 then stdy true t else stdy low t

theorem stdy_mono : ∀ l : List Int, stdy true l = true → stdy false l = true
  | [], _ => rfl
  | b :: t, h => by
    unfold stdy at h ⊢
    by_cases h1 : b = 34
    · rw [if_pos h1] at h ⊢; exact h
    · rw [if_neg h1] at h ⊢
      by_cases h2 : b = 92
      · rw [if_pos ⟨h2, rfl⟩] at h; cases h
      · rw [if_neg (fun k => h2 k.1)] at h
        rw [if_neg (fun k => h2 k.1)]
        by_cases h3 : b < 32
        · rw [if_pos h3] at h ⊢; exact h
        · rw [if_neg h3] at h ⊢; exact stdy_mono t h

theorem stdy_tail {low : Bool} {b : Int} {t : List Int} (h : stdy low (b :: t) = true) : stdy false t = true := by
  unfold stdy at h
  split at h
  · exact h
  · split at h
    · cases h
    · split at h
      · exact stdy_mono t h
      · cases low
        · exact h
        · exact stdy_mono t h
theorem stdy_app : ∀ (p : List Int) {low : Bool} {t : List Int}, stdy low (p ++ t) = true → stdy false t = true
  | [], low, t, h => by
    cases low
    · exact h
    · exact stdy_mono t h
  | b :: p, low, t, h => stdy_app p (stdy_tail h)
theorem stdy_suf {r s : ByteArray} (h : Suf r s) (k : stdy false (ints s) = true) : stdy false (ints r) = true := by
  obtain ⟨p, hp⟩ := h
  rw [hp] at k
  exact stdy_app p k

theorem stdy_ctrl : ∀ (a : List Int) {low : Bool} {r : List Int}, 34 ∉ a → 92 ∉ a → stdy low (a ++ 92 :: r) = true → low = false ∧ ∀ b ∈ a, 32 ≤ b
  | [], low, r, _, _, h => by
    rw [List.nil_append] at h
    unfold stdy at h
    rw [if_neg (by omega)] at h
    cases low
    · exact ⟨rfl, fun b hb => by cases hb⟩
    · rw [if_pos ⟨rfl, rfl⟩] at h; cases h
  | b :: a, low, r, h1, h2, h => by
    simp only [List.mem_cons, not_or] at h1 h2
    rw [List.cons_append] at h
    unfold stdy at h
    rw [if_neg (fun e => h1.1 e.symm), if_neg (fun k => h2.1 k.1.symm)] at h
    by_cases h3 : b < 32
    · rw [if_pos h3] at h
      have := (stdy_ctrl a h1.2 h2.2 h).1
      cases this
    · rw [if_neg h3] at h
      obtain ⟨k1, k2⟩ := stdy_ctrl a h1.2 h2.2 h
      refine ⟨k1, fun c hc => ?_⟩
      rcases List.mem_cons.1 hc with rfl | hc
      · omega
      · exact k2 c hc

def Low (l : List Int) : Prop := ∃ b ∈ l, b < 32

theorem steady_l0 (s : ByteArray) (hn : s.size ≤ 2147483647) : ∀ (d : Nat) (i : Int) (low : Bool) (l : List Int), 0 ≤ i → i ≤ s.size → (ints s).drop i.toNat = l → l.length ≤ d → EvP (fun k => laws_fjSteady.l0 k s low i) (fun r => r = stdy low l) := by
  intro d
  induction d with
  | zero =>
    intro i low l h0 hi hl hd
    obtain rfl : l = [] := List.eq_nil_of_length_eq_zero (by omega)
    have h1 := len_of_drop_nil h0 hl
    rw [ints_length] at h1
    refine EvP.succ ?_
    simp only [laws_fjSteady.l0]
    exact EvP.neg (by omega) (EvP.ret _ rfl)
  | succ d ih =>
    intro i low l h0 hi hl hd
    cases l with
    | nil =>
      have h1 := len_of_drop_nil h0 hl
      rw [ints_length] at h1
      refine EvP.succ ?_
      simp only [laws_fjSteady.l0]
      exact EvP.neg (by omega) (EvP.ret _ rfl)
    | cons b t =>
      obtain ⟨hb, hlt, ht⟩ := bt_of_drop h0 hl
      rw [List.length_cons] at hd
      have next : ∀ v, EvP (fun k => laws_fjSteady.l0 k s v (i + 1)) (fun r => r = stdy v t) := fun v => ih (i + 1) v t (by omega) (by omega) ht (by omega)
      refine EvP.succ ?_
      simp only [laws_fjSteady.l0]
      rw [w64 (x := i + 1) (by omega) (by omega), hb]
      have hj : ∀ v : Bool, (v = true ↔ b = 92 ∧ low = true) → b ≠ 34 → EvP (fun k => laws_fjSteady.j1 k s low i v) (fun r => r = stdy low (b :: t)) := by
        intro v hv h34
        refine EvP.succ ?_
        simp only [laws_fjSteady.j1]
        rw [w64 (x := i + 1) (by omega) (by omega), hb]
        refine EvP.ite (fun e => EvP.ret _ ?_) (fun e => EvP.pos h0 (EvP.pos hlt (EvP.ite (fun e2 => ?_) (fun e2 => ?_))))
        · unfold stdy; rw [if_neg h34, if_pos (hv.1 e)]
        · have : stdy low (b :: t) = stdy true t := by
            conv => lhs; unfold stdy
            rw [if_neg h34, if_neg (fun k => e (hv.2 k)), if_pos e2]
          rw [this]; exact next true
        · have : stdy low (b :: t) = stdy low t := by
            conv => lhs; unfold stdy
            rw [if_neg h34, if_neg (fun k => e (hv.2 k)), if_neg e2]
          rw [this]; exact next low
      refine EvP.pos hlt (EvP.pos h0 (EvP.ite (fun e => ?_) (fun e => EvP.ite (fun e2 => hj _ (by simp [e2]) e) (fun e2 => hj _ (by simp [e2]) e))))
      have : stdy low (b :: t) = stdy false t := by
        conv => lhs; unfold stdy
        rw [if_pos e]
      rw [this]; exact next false

theorem steady_f (s : ByteArray) (hn : s.size ≤ 2147483647) : EvP (fun k => laws_fjSteady.f k s) (fun r => r = stdy false (ints s)) := by
  unfold laws_fjSteady.f
  exact steady_l0 s hn _ 0 false (ints s) (by omega) (by omega) (by simp) (Nat.le_refl _)

theorem low_l0 (s : ByteArray) (hn : s.size ≤ 2147483647) : ∀ (d : Nat) (i : Int) (l : List Int), 0 ≤ i → i ≤ s.size → (ints s).drop i.toNat = l → l.length ≤ d → EvP (fun k => laws_low.l0 k s i) (fun r => r = true ↔ Low l) := by
  intro d
  induction d with
  | zero =>
    intro i l h0 hi hl hd
    obtain rfl : l = [] := List.eq_nil_of_length_eq_zero (by omega)
    have h1 := len_of_drop_nil h0 hl
    rw [ints_length] at h1
    refine EvP.succ ?_
    simp only [laws_low.l0]
    exact EvP.neg (by omega) (EvP.ret _ (by simp [Low]))
  | succ d ih =>
    intro i l h0 hi hl hd
    cases l with
    | nil =>
      have h1 := len_of_drop_nil h0 hl
      rw [ints_length] at h1
      refine EvP.succ ?_
      simp only [laws_low.l0]
      exact EvP.neg (by omega) (EvP.ret _ (by simp [Low]))
    | cons b t =>
      obtain ⟨hb, hlt, ht⟩ := bt_of_drop h0 hl
      rw [List.length_cons] at hd
      refine EvP.succ ?_
      simp only [laws_low.l0]
      rw [w64 (x := i + 1) (by omega) (by omega), hb]
      refine EvP.pos hlt (EvP.pos h0 (EvP.ite (fun e => EvP.ret _ ⟨fun _ => ⟨b, by simp, e⟩, fun _ => rfl⟩) (fun e => (ih (i + 1) t (by omega) (by omega) ht (by omega)).mono (fun r hr => hr.trans ?_))))
      constructor
      · rintro ⟨c, hc, h⟩; exact ⟨c, List.mem_cons_of_mem _ hc, h⟩
      · rintro ⟨c, hc, h⟩
        rcases List.mem_cons.1 hc with rfl | hc
        · exact absurd h e
        · exact ⟨c, hc, h⟩
theorem low_f (s : ByteArray) (hn : s.size ≤ 2147483647) : EvP (fun k => laws_low.f k s) (fun r => r = true ↔ Low (ints s)) := by
  unfold laws_low.f
  exact low_l0 s hn _ 0 (ints s) (by omega) (by omega) (by simp) (Nat.le_refl _)

/-! ### strings -/
/-- What validateString and validateKey tell. -/
def VS (s : ByteArray) (r : ByteArray × ByteArray × Option Int) : Prop := r.2.2 = none → ∃ raw, ints s = raw ++ 34 :: ints r.2.1 ∧ Raw raw ∧ r.1.size ≤ raw.length ∧ (stdy false (raw ++ 34 :: ints r.2.1) = true → (Low raw ↔ Low (ints r.1)))

theorem hex_ok : ∀ (l : List UInt8) (a : Int) (v : Int), hexF a l = some v → ∀ b ∈ l, 48 ≤ (b.toNat : Int) ∧ (b.toNat : Int) ≤ 102 ∧ (b.toNat : Int) ≠ 92
  | [], _, _, _ => fun b hb => by cases hb
  | c :: t, a, v, h => by
    simp only [hexF] at h
    cases hd : dgt (c.toNat : Int) with
    | none => rw [hd] at h; cases h
    | some d =>
      rw [hd] at h
      intro b hb
      rcases List.mem_cons.1 hb with rfl | hb
      · unfold dgt at hd
        split at hd
        · omega
        · split at hd
          · omega
          · split at hd
            · omega
            · cases hd
      · exact hex_ok t _ v h b hb

theorem Raw.drops : ∀ (p : List Int) {t : List Int}, Raw (p ++ t) → (∀ b ∈ p, b ≠ 92) → Raw t
  | [], _, h, _ => h
  | b :: p, t, h, hn => Raw.drops p (Raw.tail h (hn b List.mem_cons_self)).2 (fun c hc => hn c (List.mem_cons_of_mem _ hc))

section
variable (raw : List Int) (s : ByteArray)

/-- Of a string's inside some has been looked at. -/
structure At (x6 x7 : ByteArray) : Prop where
  whole : ints s = raw ++ 34 :: ints x7
  inside : Raw raw
  rest : Raw (ints x6)
  pre : ∃ p, raw = p ++ ints x6 ∧ (stdy false (raw ++ 34 :: ints x7) = true → ∀ b ∈ p, 32 ≤ b)

theorem At.done {x6 x7 : ByteArray} (h : At raw s x6 x7) : VS s (x6, x7, none) := by
  intro _
  obtain ⟨p, hp, hs⟩ := h.pre
  refine ⟨raw, h.whole, h.inside, by rw [hp, List.length_append, ints_length]; exact Nat.le_add_left _ _, fun hst => ?_⟩
  dsimp only
  have hlow := hs hst
  constructor
  · rintro ⟨b, hb, h1⟩
    rw [hp] at hb
    rcases List.mem_append.1 hb with hb | hb
    · have := hlow b hb; omega
    · exact ⟨b, hb, h1⟩
  · rintro ⟨b, hb, h1⟩
    exact ⟨b, by rw [hp]; exact List.mem_append.2 (.inr hb), h1⟩

theorem At.step {x6 x7 y : ByteArray} (h : At raw s x6 x7) {a e : List Int} (hx : ints x6 = a ++ 92 :: (e ++ ints y)) (ha : 92 ∉ a) (he : ∀ b ∈ e, 32 ≤ b) (hr : Raw (ints y)) : At raw s y x7 := by
  have hrest := h.rest
  rw [hx] at hrest
  obtain ⟨h34, _⟩ := Raw.cut a hrest ha
  obtain ⟨p, hp, hs⟩ := h.pre
  refine ⟨h.whole, h.inside, hr, p ++ a ++ 92 :: e, by rw [hp, hx]; simp, fun hst => ?_⟩
  have hlow := hs hst
  have hst2 : stdy false (a ++ 92 :: (e ++ ints y ++ 34 :: ints x7)) = true := by
    have h2 : raw ++ 34 :: ints x7 = p ++ (a ++ 92 :: (e ++ ints y ++ 34 :: ints x7)) := by rw [hp, hx]; simp
    rw [h2] at hst
    exact stdy_app p hst
  have hal := (stdy_ctrl a h34 ha hst2).2
  intro b hb
  rcases List.mem_append.1 hb with hb | hb
  · rcases List.mem_append.1 hb with hb | hb
    · exact hlow b hb
    · exact hal b hb
  · rcases List.mem_cons.1 hb with rfl | hb
    · omega
    · exact he b hb

theorem str_j2 (d : Nat) (ih : ∀ (x6 x7 : ByteArray), x6.size ≤ d → x6.size ≤ 2147483647 → At raw s x6 x7 → EvP (fun k => fastjson_validateString.l0 k x6 x7) (VS s))
    (x6 x7 y : ByteArray) (hn : y.size ≤ 2147483647) (hd : y.size ≤ d) (h : At raw s x6 x7) (a : List Int) (c : Int) (t2 : List Int) (hx : ints x6 = a ++ 92 :: c :: t2) (ha : 92 ∉ a) (hr2 : Raw t2) (hy : ints y = t2)
    (v : Bool) (hv : v = true → 32 ≤ c) : EvP (fun k => fastjson_validateString.j2 k y x7 c v) (VS s) := by
  refine EvP.succ ?_
  simp only [fastjson_validateString.j2, errors_New.f, Option.bind_some]
  refine EvP.ite (fun e1 => ?_) (fun _ => EvP.ite (fun e2 => EvP.ite (fun _ => EvP.ret _ (fun h => by cases h)) (fun h4 => EvP.pos (by omega) (EvP.pos (by omega) ?_))) (fun _ => EvP.ret _ (fun h => by cases h)))
  · exact ih y x7 (by omega) (by omega) (h.step raw s (a := a) (e := [c]) (by rw [hx, hy]; rfl) ha (by intro b hb; rw [List.mem_singleton] at hb; rw [hb]; exact hv e1) (by rw [hy]; exact hr2))
  · have hf4 : (y.extract 0 4).size = 4 := by rw [← ints_length, ints_extract, List.length_take, List.length_drop, ints_length]; omega
    unfold strconv_ParseUint_86.f
    rw [if_pos ⟨rfl, rfl, hf4⟩]
    cases hp : hexF 0 (y.extract 0 4).data.toList with
    | none =>
      simp only [Option.bind_some]
      exact EvP.neg (by simp) (EvP.ret _ (fun h => by cases h))
    | some v =>
      simp only [Option.bind_some]
      refine EvP.pos (by simp) ?_
      have hd4 : ∀ b ∈ (ints y).take 4, 48 ≤ b ∧ b ≤ 102 ∧ b ≠ 92 := by
        intro b hb
        have h5 : (ints y).take 4 = ints (y.extract 0 4) := by rw [ints_extract, List.drop_zero]
        rw [h5] at hb
        unfold ints at hb
        obtain ⟨u, hu, rfl⟩ := List.mem_map.1 hb
        exact hex_ok _ 0 v hp u hu
      have hz : ints (y.extract 4 y.size) = (ints y).drop 4 := ext_ints y 4
      have hzs := ext_size y 4
      refine ih (y.extract 4 y.size) x7 (by omega) (by omega) (h.step raw s (a := a) (e := c :: (ints y).take 4) ?_ ha ?_ ?_)
      · rw [hz, hx, List.cons_append, List.take_append_drop, hy]
      · intro b hb
        rcases List.mem_cons.1 hb with rfl | hb
        · omega
        · have := hd4 b hb; omega
      · rw [hz]
        refine Raw.drops ((ints y).take 4) ?_ (fun b hb => (hd4 b hb).2.2)
        rw [List.take_append_drop, hy]; exact hr2

theorem EvP.sub {α β : Type} {o : Option α} {v : α} {F : Nat → α → Option β} {P : β → Prop} (e : o = some v) (h : EvP (fun k => F k v) P) : EvP (fun k => o.bind (F k)) P := by subst e; exact h

theorem esc8 {P : ByteArray × ByteArray × Option Int → Prop} {g : Nat → Bool → Option (ByteArray × ByteArray × Option Int)} (c : Int) (hj : ∀ v : Bool, (v = true → 32 ≤ c) → EvP (fun k => g k v) P) :
    EvP (fun k => (if c = 34 then g k (c == 34) else (if c = 92 then g k (c == 92) else (if c = 47 then g k (c == 47) else (if c = 98 then g k (c == 98) else (if c = 102 then g k (c == 102) else (if c = 110 then g k (c == 110) else (if c = 114 then g k (c == 114) else g k (c == 116))))))))) P :=
  EvP.ite (fun e => hj _ (fun _ => by omega)) (fun _ => EvP.ite (fun e => hj _ (fun _ => by omega)) (fun _ => EvP.ite (fun e => hj _ (fun _ => by omega)) (fun _ => EvP.ite (fun e => hj _ (fun _ => by omega)) (fun _ => EvP.ite (fun e => hj _ (fun _ => by omega)) (fun _ => EvP.ite (fun e => hj _ (fun _ => by omega)) (fun _ => EvP.ite (fun e => hj _ (fun _ => by omega)) (fun _ => hj _ (fun e => by rw [beq_iff_eq] at e; omega))))))))

theorem str_l0 : ∀ (d : Nat) (x6 x7 : ByteArray), x6.size ≤ d → x6.size ≤ 2147483647 → At raw s x6 x7 → EvP (fun k => fastjson_validateString.l0 k x6 x7) (VS s) := by
  intro d
  induction d with
  | zero =>
    intro x6 x7 hd hn h
    refine EvP.succ ?_
    simp only [fastjson_validateString.l0]
    rcases ib x6 92 (by omega) with ⟨e, _⟩ | ⟨a, t, hx, _, _⟩
    · exact EvP.sub e (EvP.pos (by omega) (EvP.ret _ (h.done raw s)))
    · have := size_app hx
      rw [List.length_cons] at this
      omega
  | succ d ih =>
    intro x6 x7 hd hn h
    refine EvP.succ ?_
    simp only [fastjson_validateString.l0]
    rcases ib x6 92 (by omega) with ⟨e, _⟩ | ⟨a, t, hx, ha, e⟩
    · exact EvP.sub e (EvP.pos (by omega) (EvP.ret _ (h.done raw s)))
    · have hsz := size_app hx
      rw [List.length_cons] at hsz
      refine EvP.sub e ?_
      rw [w64 (x := (a.length : Int) + 1) (by omega) (by omega), w64 (x := (a.length : Int) + 1 + 1) (by omega) (by omega)]
      refine EvP.neg (by omega) (EvP.ite (fun hge => EvP.sub (v := some 0) rfl (EvP.ret _ (fun h => by cases h))) (fun hlt => ?_))
      have hrest := h.rest
      rw [hx] at hrest
      obtain ⟨_, c, t2, rfl, hr2⟩ := Raw.cut a hrest ha
      rw [List.length_cons] at hsz
      have hbt : bt x6 ((a.length : Int) + 1) = c := by
        have h2 : ints x6 = (a ++ [92]) ++ c :: t2 := by rw [hx]; simp
        have h3 := bt_app h2
        rw [List.length_append, List.length_singleton] at h3
        rw [show (a.length : Int) + 1 = ((a.length + 1 : Nat) : Int) from by omega]; exact h3
      have hy : ints (x6.extract ((a.length : Int) + 1 + 1).toNat x6.size) = t2 := by
        have h2 : ints x6 = (a ++ [92, c]) ++ t2 := by rw [hx]; simp
        have h3 := back_ints h2
        rw [List.length_append] at h3
        rw [show ((a.length : Int) + 1 + 1).toNat = a.length + [92, c].length from by simp; omega]; exact h3
      have hys := ext_size x6 ((a.length : Int) + 1 + 1).toNat
      generalize x6.extract ((a.length : Int) + 1 + 1).toNat x6.size = y at hy hys ⊢
      rw [hbt]
      have hj : ∀ v : Bool, (v = true → 32 ≤ c) → EvP (fun k => fastjson_validateString.j2 k y x7 c v) (VS s) := fun v hv => str_j2 raw s d ih x6 x7 y (by omega) (by omega) h a c t2 hx ha hr2 hy v hv
      exact EvP.pos (by omega) (EvP.pos (by omega) (EvP.pos (by omega) (EvP.pos (by omega) (esc8 (g := fun k v => fastjson_validateString.j2 k y x7 c v) c hj))))
end

theorem VS.plain {s : ByteArray} {a t : List Int} (hs : ints s = a ++ 34 :: t) (h34 : 34 ∉ a) (h92 : 92 ∉ a) : VS s (s.extract 0 a.length, s.extract (a.length + 1) s.size, none) := by
  intro _
  refine ⟨a, ?_, Raw.of_plain a h34 h92, by rw [← ints_length, front_ints hs]; exact Nat.le_refl _, fun _ => ?_⟩
  · dsimp only; rw [back1_ints hs, hs]
  · dsimp only; rw [front_ints hs]

theorem string_f (s : ByteArray) (hn : s.size ≤ 2147483647) : EvP (fun k => fastjson_validateString.f k s) (VS s) := by
  have hslow : ∀ n, EvP (fun k => fastjson_validateString.j0 k s n false) (VS s) := by
    intro n
    refine EvP.succ ?_
    simp only [fastjson_validateString.j0]
    refine EvP.neg (by simp) (EvP.bind (rawstring_f s hn) (fun r hr => EvP.ite (fun e => ?_) (fun e => EvP.ret _ (fun h => by cases h))))
    obtain ⟨raw, h1, h2, h3⟩ := hr (by simpa using e)
    have hsz := size_app h1
    have hl := congrArg List.length h3
    rw [ints_length] at hl
    exact str_l0 raw s _ r.1 r.2.1 (Nat.le_refl _) (by omega) ⟨h1, h2, by rw [h3]; exact h2, [], by rw [h3]; rfl, fun _ b hb => by cases hb⟩
  unfold fastjson_validateString.f
  rcases ib s 34 (by omega) with ⟨e, _⟩ | ⟨a, t, hs, h34, e3⟩
  · rw [e]
    simp only [Option.bind_some]
    exact EvP.neg (by omega) (hslow _)
  · rw [e3]
    simp only [Option.bind_some]
    have hsz := size_app hs
    rw [List.length_cons] at hsz
    refine EvP.pos (by omega) (EvP.pos (by omega) (EvP.pos (by omega) ?_))
    rw [Int.toNat_natCast]
    have hfr := front_ints hs
    rcases ib (s.extract 0 a.length) 92 (by omega) with ⟨e, h92⟩ | ⟨a', t', _, _, e4⟩
    · rw [e]
      simp only [Option.bind_some]
      rw [hfr] at h92
      rw [show decide ((-1 : Int) < 0) = true from rfl]
      refine EvP.succ ?_
      simp only [fastjson_validateString.j0]
      rw [w64 (x := (a.length : Int) + 1) (by omega) (by omega)]
      refine EvP.pos trivial (EvP.pos (by omega) (EvP.pos (by omega) (EvP.pos (by omega) (EvP.pos (by omega) (EvP.ret _ ?_)))))
      rw [Int.toNat_natCast, show ((a.length : Int) + 1).toNat = a.length + 1 from by omega]
      exact VS.plain hs h34 h92
    · rw [e4]
      simp only [Option.bind_some]
      rw [show decide ((a'.length : Int) < 0) = false from decide_eq_false (by omega)]
      exact hslow _

theorem key_l0 (s : ByteArray) (hn : s.size ≤ 2147483647) : ∀ (d : Nat) (a l : List Int), ints s = a ++ l → l.length ≤ d → 34 ∉ a → 92 ∉ a → EvP (fun k => fastjson_validateKey.l0 k s (s.size : Int) (a.length : Int)) (VS s) := by
  have hend : ∀ a : List Int, ints s = a ++ [] → EvP (fun k => fastjson_validateKey.l0 k s (s.size : Int) (a.length : Int)) (VS s) := by
    intro a ha
    have := size_app ha
    rw [List.length_nil] at this
    refine EvP.succ ?_
    simp only [fastjson_validateKey.l0, errors_New.f, Option.bind_some]
    exact EvP.neg (by omega) (EvP.ret _ (fun h => by cases h))
  intro d
  induction d with
  | zero =>
    intro a l ha hd h34 h92
    obtain rfl : l = [] := List.eq_nil_of_length_eq_zero (by omega)
    exact hend a ha
  | succ d ih =>
    intro a l ha hd h34 h92
    cases l with
    | nil => exact hend a ha
    | cons b t =>
      have hsz := size_app ha
      rw [List.length_cons] at hsz hd
      have hb := bt_app ha
      refine EvP.succ ?_
      simp only [fastjson_validateKey.l0, errors_New.f, Option.bind_some]
      rw [w64 (x := (a.length : Int) + 1) (by omega) (by omega), hb]
      refine EvP.pos (by omega) (EvP.pos (by omega) (EvP.pos (by omega) (EvP.ite (fun e => ?_) (fun e => EvP.ite (fun e2 => ?_) (fun e2 => ?_)))))
      · refine EvP.pos (by omega) (EvP.pos (by omega) (EvP.pos (by omega) (EvP.ret _ ?_)))
        rw [Int.toNat_natCast, show ((a.length : Int) + 1).toNat = a.length + 1 from by omega]
        exact VS.plain (by rw [ha, e]) h34 h92
      · exact EvP.bind (Q := VS s) (string_f s hn) (fun r hr => EvP.ret _ hr)
      · have := ih (a ++ [b]) t (by rw [ha]; simp) (by omega) (by simp only [List.mem_append, List.mem_singleton, not_or]; exact ⟨h34, fun h => e h.symm⟩) (by simp only [List.mem_append, List.mem_singleton, not_or]; exact ⟨h92, fun h => e2 h.symm⟩)
        rw [List.length_append, List.length_singleton] at this
        exact this

theorem key_f (s : ByteArray) (hn : s.size ≤ 2147483647) : EvP (fun k => fastjson_validateKey.f k s) (VS s) := by
  unfold fastjson_validateKey.f
  exact key_l0 s hn _ [] (ints s) rfl (Nat.le_refl _) (by simp) (by simp)

/-! ### numbers -/
/-- Without an error the rest is a shorter end of the text. -/
def Good (s : ByteArray) (r : ByteArray × Option Int) : Prop := r.2 = none → Suf r.1 s ∧ r.1.size < s.size
theorem Good.bad {s x : ByteArray} {c : Int} : Good s (x, some c) := fun h => by cases h
theorem Good.ext {s : ByteArray} {i : Nat} (h1 : 1 ≤ i) (h2 : i ≤ s.size) : Good s (s.extract i s.size, none) := fun _ => ⟨Suf.ext s i, by dsimp only; rw [ext_size]; omega⟩
theorem Good.empty {s : ByteArray} (h : 1 ≤ s.size) : Good s (⟨#[]⟩, none) := fun _ => ⟨Suf.nil s, by show 0 < s.size; omega⟩
theorem Good.of {s x : ByteArray} {r : ByteArray × Option Int} (h : Good x r) (hx : Suf x s) : Good s r := fun e => ⟨(h e).1.trans hx, Nat.lt_of_lt_of_le (h e).2 hx.size⟩

section
variable (s : ByteArray) (hn : s.size ≤ 2147483647)

theorem num_j11 (hn : s.size ≤ 2147483647) (i : Int) (h0 : 0 ≤ i) (hi : i ≤ s.size) : EvP (fun k => fastjson_validateNumber.j11 k s i) (Good s) := by
  refine EvP.succ ?_
  simp only [fastjson_validateNumber.j11, errors_New.f, Option.bind_some]
  exact EvP.ite (fun _ => EvP.ret _ Good.bad) (fun h => EvP.ite (fun _ => EvP.ret _ (Good.empty (by omega))) (fun _ => EvP.pos h0 (EvP.pos hi (EvP.ret _ (Good.ext (by omega) (by omega))))))

theorem num_l2 (hn : s.size ≤ 2147483647) : ∀ (d : Nat) (i : Int), 0 ≤ i → i ≤ s.size → (s.size : Int) - i ≤ d → EvP (fun k => fastjson_validateNumber.l2 k s i) (Good s) := by
  intro d
  induction d with
  | zero =>
    intro i h0 hi hd
    refine EvP.succ ?_
    simp only [fastjson_validateNumber.l2]
    exact EvP.neg (by omega) (num_j11 s hn i h0 hi)
  | succ d ih =>
    intro i h0 hi hd
    refine EvP.succ ?_
    simp only [fastjson_validateNumber.l2]
    refine EvP.ite (fun hlt => EvP.pos h0 (EvP.ite (fun _ => num_j11 s hn i h0 hi) (fun _ => EvP.ite (fun _ => num_j11 s hn i h0 hi) (fun _ => ?_)))) (fun _ => num_j11 s hn i h0 hi)
    rw [w64 (x := i + 1) (by omega) (by omega)]
    exact ih (i + 1) (by omega) (by omega) (by omega)

theorem num_j9 (hn : s.size ≤ 2147483647) : EvP (fun k => fastjson_validateNumber.j9 k s) (Good s) := by
  refine EvP.succ ?_
  simp only [fastjson_validateNumber.j9]
  exact num_l2 s hn s.size 0 (by omega) (by omega) (by omega)
end

theorem num_j8 (s : ByteArray) (hn : s.size ≤ 2147483647) (h1 : 1 ≤ s.size) (v : Bool) : EvP (fun k => fastjson_validateNumber.j8 k s v) (Good s) := by
  refine EvP.succ ?_
  simp only [fastjson_validateNumber.j8, errors_New.f, Option.bind_some]
  have hs := ext_size s 1
  exact EvP.ite (fun _ => EvP.pos (by omega) (EvP.ite (fun _ => EvP.ret _ Good.bad) (fun _ => (num_j9 _ (by omega)).mono (fun r hr => hr.of (Suf.ext s 1))))) (fun _ => num_j9 s hn)

theorem num_j6 (s : ByteArray) (hn : s.size ≤ 2147483647) (i : Int) (h0 : 1 ≤ i) (hi : i < s.size) : EvP (fun k => fastjson_validateNumber.j6 k s i) (Good s) := by
  have hj7 : ∀ v, EvP (fun k => fastjson_validateNumber.j7 k s i v) (Good s) := by
    intro v
    refine EvP.succ ?_
    simp only [fastjson_validateNumber.j7, errors_New.f, Option.bind_some]
    rw [w64 (x := i + 1) (by omega) (by omega)]
    have hsuf := Suf.ext s (i + 1).toNat
    have hs := ext_size s (i + 1).toNat
    generalize s.extract (i + 1).toNat s.size = y at hsuf hs ⊢
    refine EvP.ite (fun _ => EvP.pos (by omega) (EvP.pos (by omega) (EvP.ite (fun _ => EvP.ret _ Good.bad) (fun hz => EvP.pos (by omega) ?_)))) (fun _ => EvP.pos (by omega) (EvP.pos (by omega) (EvP.ret _ (Good.ext (by omega) (by omega)))))
    exact EvP.ite (fun _ => (num_j8 y (by omega) (by omega) _).mono (fun r hr => hr.of hsuf)) (fun _ => (num_j8 y (by omega) (by omega) _).mono (fun r hr => hr.of hsuf))
  refine EvP.succ ?_
  simp only [fastjson_validateNumber.j6]
  exact EvP.pos (by omega) (EvP.pos hi (EvP.ite (fun _ => hj7 _) (fun _ => hj7 _)))

theorem num_j5 (s : ByteArray) (hn : s.size ≤ 2147483647) (i : Int) (h0 : 0 ≤ i) (hi : i ≤ s.size) : EvP (fun k => fastjson_validateNumber.j5 k s i) (Good s) := by
  refine EvP.succ ?_
  simp only [fastjson_validateNumber.j5, errors_New.f, Option.bind_some]
  exact EvP.ite (fun _ => EvP.ret _ Good.bad) (fun h => EvP.ite (fun _ => EvP.ret _ (Good.empty (by omega))) (fun _ => num_j6 s hn i (by omega) (by omega)))

theorem num_l1 (s : ByteArray) (hn : s.size ≤ 2147483647) : ∀ (d : Nat) (i : Int), 0 ≤ i → i ≤ s.size → (s.size : Int) - i ≤ d → EvP (fun k => fastjson_validateNumber.l1 k s i) (Good s) := by
  intro d
  induction d with
  | zero =>
    intro i h0 hi hd
    refine EvP.succ ?_
    simp only [fastjson_validateNumber.l1]
    exact EvP.neg (by omega) (num_j5 s hn i h0 hi)
  | succ d ih =>
    intro i h0 hi hd
    refine EvP.succ ?_
    simp only [fastjson_validateNumber.l1]
    refine EvP.ite (fun hlt => EvP.pos h0 (EvP.ite (fun _ => num_j5 s hn i h0 hi) (fun _ => EvP.ite (fun _ => num_j5 s hn i h0 hi) (fun _ => ?_)))) (fun _ => num_j5 s hn i h0 hi)
    rw [w64 (x := i + 1) (by omega) (by omega)]
    exact ih (i + 1) (by omega) (by omega) (by omega)

theorem num_j2 (s : ByteArray) (hn : s.size ≤ 2147483647) (i : Int) (h0 : 0 ≤ i) (hi : i ≤ s.size) : EvP (fun k => fastjson_validateNumber.j2 k s i) (Good s) := by
  refine EvP.succ ?_
  simp only [fastjson_validateNumber.j2, errors_New.f, Option.bind_some]
  refine EvP.ite (fun _ => EvP.ret _ Good.bad) (fun h1 => EvP.pos (by omega) ?_)
  have hj3 : ∀ v, EvP (fun k => fastjson_validateNumber.j3 k s i v) (Good s) := by
    intro v
    refine EvP.succ ?_
    simp only [fastjson_validateNumber.j3, errors_New.f, Option.bind_some]
    refine EvP.ite (fun _ => EvP.ret _ Good.bad) (fun _ => EvP.ite (fun _ => EvP.ret _ (Good.empty (by omega))) (fun h2 => EvP.pos (by omega) (EvP.pos (by omega) (EvP.ite (fun _ => ?_) (fun _ => num_j6 s hn i (by omega) (by omega))))))
    rw [w64 (x := i + 1) (by omega) (by omega)]
    have hsuf := Suf.ext s (i + 1).toNat
    have hs := ext_size s (i + 1).toNat
    generalize s.extract (i + 1).toNat s.size = y at hsuf hs ⊢
    exact EvP.pos (by omega) (EvP.pos (by omega) (EvP.ite (fun _ => EvP.ret _ Good.bad) (fun _ => (num_l1 y (by omega) y.size 0 (by omega) (by omega) (by omega)).mono (fun r hr => hr.of hsuf))))
  exact EvP.ite (fun _ => hj3 _) (fun _ => hj3 _)

theorem num_l0 (s : ByteArray) (hn : s.size ≤ 2147483647) : ∀ (d : Nat) (i : Int), 0 ≤ i → i ≤ s.size → (s.size : Int) - i ≤ d → EvP (fun k => fastjson_validateNumber.l0 k s i) (Good s) := by
  intro d
  induction d with
  | zero =>
    intro i h0 hi hd
    refine EvP.succ ?_
    simp only [fastjson_validateNumber.l0]
    exact EvP.neg (by omega) (num_j2 s hn i h0 hi)
  | succ d ih =>
    intro i h0 hi hd
    refine EvP.succ ?_
    simp only [fastjson_validateNumber.l0]
    refine EvP.ite (fun hlt => EvP.pos h0 (EvP.ite (fun _ => num_j2 s hn i h0 hi) (fun _ => EvP.ite (fun _ => num_j2 s hn i h0 hi) (fun _ => ?_)))) (fun _ => num_j2 s hn i h0 hi)
    rw [w64 (x := i + 1) (by omega) (by omega)]
    exact ih (i + 1) (by omega) (by omega) (by omega)

theorem number_f (s : ByteArray) (hn : s.size ≤ 2147483647) : EvP (fun k => fastjson_validateNumber.f k s) (Good s) := by
  have hj0 : ∀ y : ByteArray, y.size ≤ 2147483647 → Suf y s → EvP (fun k => fastjson_validateNumber.j0 k y) (Good s) := by
    intro y hy hsuf
    refine EvP.succ ?_
    simp only [fastjson_validateNumber.j0]
    exact (num_l0 y hy y.size 0 (by omega) (by omega) (by omega)).mono (fun r hr => hr.of hsuf)
  unfold fastjson_validateNumber.f
  simp only [errors_New.f, Option.bind_some]
  have hs := ext_size s 1
  exact EvP.ite (fun _ => EvP.ret _ Good.bad) (fun _ => EvP.pos (by omega) (EvP.ite (fun _ => EvP.pos (by omega) (EvP.ite (fun _ => EvP.ret _ Good.bad) (fun _ => hj0 _ (by omega) (Suf.ext s 1)))) (fun _ => hj0 s hn (Suf.refl s))))

end Go.Proofs.YtfmllmlloekojaaDoor.PFnFjCheckMembers.Fj
