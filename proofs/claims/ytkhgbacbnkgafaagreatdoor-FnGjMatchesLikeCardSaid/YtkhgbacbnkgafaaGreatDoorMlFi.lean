/- Plain law of spec.Fits (law PFnGjMatchesLike): its table of places comes to what the terms say. -/
import Derived.Test.YtkhgbacbnkgafaaGreatDoorMlGl
set_option linter.unusedVariables false
namespace Go.Proofs.YtkhgbacbnkgafaaGreatDoor.PFnGjMatchesLike.Gb
open Go.RowKit Go.Proofs.YtkhgbacbnkgafaaGreatDoor.PFnGjMatchesLike Go.Proofs.YtkhgbacbnkgafaaGreatDoor.PFnGjMatchesLike.Uc Go.Proofs.YtkhgbacbnkgafaaGreatDoorW.PrintWords Go.Proofs.YtkhgbacbnkgafaaGreatDoorW.PrintLast Go.Proofs.YtkhgbacbnkgafaaGreatDoor.EvL Go.Proofs.YtkhgbacbnkgafaaGreatDoor.StrL

def fit (t : S56) (c : Int) : Prop := t.f1 = true ∨ t.f2 = c

/-- Characters are what terms say. -/
inductive M : List S56 → List Int → Prop
  | nil : M [] []
  | star {t : S56} {ts : List S56} {a b : List Int} (hs : t.f0 = true) (h : M ts b) : M (t :: ts) (a ++ b)
  | step {t : S56} {ts : List S56} {c : Int} {cs : List Int} (hs : t.f0 = false) (hf : fit t c) (h : M ts cs) : M (t :: ts) (c :: cs)

theorem M.append {t1 t2 : List S56} {a b : List Int} (h : M t1 a) (k : M t2 b) : M (t1 ++ t2) (a ++ b) := by
  induction h with
  | nil => exact k
  | star hs _ ih => rw [List.append_assoc, List.cons_append]; exact .star hs ih
  | step hs hf _ ih => exact .step hs hf ih

theorem M.split {t2 : List S56} : ∀ (t1 : List S56) (cs : List Int), M (t1 ++ t2) cs → ∃ a b, cs = a ++ b ∧ M t1 a ∧ M t2 b
  | [], cs, h => ⟨[], cs, rfl, .nil, h⟩
  | t :: t1, cs, h => by
    rw [List.cons_append] at h
    cases h with
    | star hs h' =>
      obtain ⟨a1, b1, rfl, k1, k2⟩ := M.split t1 _ h'
      exact ⟨_, b1, (List.append_assoc _ _ _).symm, .star hs k1, k2⟩
    | step hs hf h' =>
      obtain ⟨a1, b1, rfl, k1, k2⟩ := M.split t1 _ h'
      exact ⟨_, b1, rfl, .step hs hf k1, k2⟩

theorem M.one_step {t : S56} (hs : t.f0 = false) {b : List Int} (h : M [t] b) : ∃ c, b = [c] ∧ fit t c := by
  cases h with
  | star h0 _ => rw [hs] at h0; cases h0
  | step _ hf h' => cases h' with | nil => exact ⟨_, rfl, hf⟩

theorem last_step {ts : List S56} {t : S56} (hs : t.f0 = false) (cs : List Int) : M (ts ++ [t]) cs ↔ ∃ cs' c, cs = cs' ++ [c] ∧ fit t c ∧ M ts cs' := by
  constructor
  · intro h
    obtain ⟨a, b, rfl, k1, k2⟩ := M.split ts cs h
    obtain ⟨c, rfl, hf⟩ := M.one_step hs k2
    exact ⟨a, c, rfl, hf, k1⟩
  · rintro ⟨cs', c, rfl, hf, h⟩
    exact M.append h (.step hs hf .nil)

theorem last_star {ts : List S56} {t : S56} (hs : t.f0 = true) (cs : List Int) : M (ts ++ [t]) cs ↔ ∃ a b, cs = a ++ b ∧ M ts a := by
  constructor
  · intro h
    obtain ⟨a, b, rfl, k1, _⟩ := M.split ts cs h
    exact ⟨a, b, rfl, k1⟩
  · rintro ⟨a, b, rfl, h⟩
    have : M [t] b := by have := M.star (t := t) (a := b) hs M.nil; rwa [List.append_nil] at this
    exact M.append h this

/-! ### the table -/
section
variable (cs : List Int)

/-- A row of the table behind the terms ts. -/
def Row (ts : List S56) (xs : List Bool) : Prop := xs.length = cs.length + 1 ∧ ∀ k : Nat, k ≤ cs.length → (xs.getD k false = true ↔ M ts (cs.take k))

/-- A row that is told up to k: behind it nothing is told. -/
def Part (ts : List S56) (k : Nat) (xs : List Bool) : Prop := xs.length = cs.length + 1 ∧ (∀ i : Nat, i < k → i ≤ cs.length → (xs.getD i false = true ↔ M ts (cs.take i))) ∧ ∀ i : Nat, k ≤ i → xs.getD i false = false

theorem Part.put {ts : List S56} {k : Nat} {xs : List Bool} (h : Part cs ts k xs) (hk : k ≤ cs.length) (v : Bool) (hv : v = true ↔ M ts (cs.take k)) : Part cs ts (k + 1) (xs.set k v) := by
  obtain ⟨h1, h2, h3⟩ := h
  refine ⟨by rw [List.length_set, h1], fun i hi hi2 => ?_, fun i hi => ?_⟩
  · by_cases e : i = k
    · subst e
      rw [List.getD_eq_getElem?_getD, List.getElem?_set_self (by omega)]
      exact hv
    · rw [List.getD_eq_getElem?_getD, List.getElem?_set_ne (by omega), ← List.getD_eq_getElem?_getD]
      exact h2 i (by omega) hi2
  · rw [List.getD_eq_getElem?_getD, List.getElem?_set_ne (by omega), ← List.getD_eq_getElem?_getD]
    exact h3 i (by omega)
theorem Part.keep {ts : List S56} {k : Nat} {xs : List Bool} (h : Part cs ts k xs) (hv : ¬ M ts (cs.take k)) : Part cs ts (k + 1) xs := by
  obtain ⟨h1, h2, h3⟩ := h
  refine ⟨h1, fun i hi hi2 => ?_, fun i hi => h3 i (by omega)⟩
  by_cases e : i = k
  · subst e
    rw [h3 i (Nat.le_refl _)]
    exact ⟨(fun h => by cases h), fun h => absurd h hv⟩
  · exact h2 i (by omega) hi2
theorem Part.done {ts : List S56} {xs : List Bool} (h : Part cs ts (cs.length + 1) xs) : Row cs ts xs := ⟨h.1, fun k hk => h.2.1 k (by omega) hk⟩
theorem part_zero (ts : List S56) : Part cs ts 0 (List.replicate (cs.length + 1) false) :=
  ⟨by simp, fun i hi => by omega, fun i _ => by rw [List.getD_eq_getElem?_getD, List.getElem?_replicate]; split <;> rfl⟩

theorem star_take {ts : List S56} {t : S56} (hs : t.f0 = true) (k : Nat) : M (ts ++ [t]) (cs.take k) ↔ ∃ j, j ≤ k ∧ M ts (cs.take j) := by
  rw [last_star hs]
  constructor
  · rintro ⟨a, b, h, hm⟩
    have ha : a = (cs.take k).take a.length := by rw [h, List.take_left]
    rw [List.take_take] at ha
    exact ⟨min a.length k, Nat.min_le_right _ _, by rw [← ha]; exact hm⟩
  · rintro ⟨j, hj, hm⟩
    refine ⟨cs.take j, (cs.take k).drop j, ?_, hm⟩
    have : cs.take j = (cs.take k).take j := by rw [List.take_take, Nat.min_eq_left hj]
    rw [this, List.take_append_drop]

theorem step_take {ts : List S56} {t : S56} (hs : t.f0 = false) (k : Nat) (hk : k ≤ cs.length) : M (ts ++ [t]) (cs.take k) ↔ 0 < k ∧ M ts (cs.take (k - 1)) ∧ fit t (cs.getD (k - 1) 0) := by
  rw [last_step hs]
  constructor
  · rintro ⟨cs', c, h, hf, hm⟩
    have hl := congrArg List.length h
    rw [List.length_take, List.length_append, List.length_singleton] at hl
    have e : k - 1 = cs'.length := by omega
    have h1 : cs' = cs.take (k - 1) := by
      have h2 : cs' = (cs.take k).take cs'.length := by rw [h, List.take_left]
      rw [List.take_take, Nat.min_eq_left (by omega)] at h2
      rw [e]; exact h2
    have h3 : cs.getD (k - 1) 0 = c := by
      have h4 : (cs.take k)[k - 1]? = some c := by rw [h, e, List.getElem?_append_right (Nat.le_refl _)]; simp
      rw [List.getElem?_take_of_lt (by omega)] at h4
      rw [List.getD_eq_getElem?_getD, h4]; rfl
    exact ⟨by omega, by rw [← h1]; exact hm, by rw [h3]; exact hf⟩
  · rintro ⟨h0, hm, hf⟩
    refine ⟨cs.take (k - 1), cs.getD (k - 1) 0, ?_, hf, hm⟩
    have hlt : k - 1 < cs.length := by omega
    rw [List.getD_eq_getElem?_getD, List.getElem?_eq_getElem hlt, Option.getD_some]
    have h5 := List.take_add_one (l := cs) (i := k - 1)
    rw [show k - 1 + 1 = k from by omega, List.getElem?_eq_getElem hlt] at h5
    exact h5

theorem fits_l1 (hcs : cs.length ≤ 2147483647) (ts : List S56) (n : Int) (j : Int) (done : List S56) (t : S56) (x5 : List Bool) (hrow : Row cs done x5) (P : Bool → Prop)
    (hnext : ∀ x8, Row cs (done ++ [t]) x8 → EvP (fun k => spec_Fits.l0 k cs x8 ts n (wrap64 (j + 1))) P) : ∀ (d k : Nat) (x8 : List Bool), cs.length + 1 - k = d → k ≤ cs.length + 1 → Part cs (done ++ [t]) k x8 →
    EvP (fun q => spec_Fits.l1 q cs x5 x8 (k : Int) ts n j t.f0 t.f1 t.f2) P := by
  intro d
  induction d with
  | zero =>
    intro k x8 hd hk hp
    obtain rfl : k = cs.length + 1 := by omega
    refine EvP.succ ?_
    simp only [spec_Fits.l1]
    exact EvP.neg (by omega) (hnext x8 (Part.done cs hp))
  | succ d ih =>
    intro k x8 hd hk hp
    have hkl : k ≤ cs.length := by omega
    obtain ⟨r1, r2⟩ := hrow
    have p1 := hp.1
    have hrd : ∀ i : Nat, rdOf false x5 (i : Int) = x5.getD i false := fun i => by unfold rdOf; simp
    have hrd8 : ∀ i : Nat, rdOf false x8 (i : Int) = x8.getD i false := fun i => by unfold rdOf; simp
    have go : ∀ x8', Part cs (done ++ [t]) (k + 1) x8' → EvP (fun q => spec_Fits.l1 q cs x5 x8' ((k : Int) + 1) ts n j t.f0 t.f1 t.f2) P := fun x8' h => by
      have := ih (k + 1) x8' (by omega) (by omega) h
      rw [show (((k + 1 : Nat)) : Int) = (k : Int) + 1 from by omega] at this
      exact this
    refine EvP.succ ?_
    simp only [spec_Fits.l1]
    rw [w64 (x := (k : Int) + 1) (by omega) (by omega), w64 (x := (k : Int) - 1) (by omega) (by omega), hrd k]
    simp only [Int.toNat_natCast]
    refine EvP.pos (by omega) (EvP.ite (fun hs => ?_) (fun hs => ?_))
    · refine EvP.pos (by omega) (EvP.pos (by omega) (EvP.ite (fun hv => ?_) (fun hv => ?_)))
      · exact EvP.pos (by omega) (go _ (Part.put cs hp hkl true ⟨fun _ => (star_take cs hs k).2 ⟨k, Nat.le_refl _, (r2 k hkl).1 hv⟩, fun _ => rfl⟩))
      · refine EvP.ite (fun h0 => ?_) (fun h0 => ?_)
        · rw [show ((k : Int) - 1) = ((k - 1 : Nat) : Int) from by omega, hrd8 (k - 1)]
          refine EvP.pos (by omega) (EvP.pos (by omega) (EvP.pos (by omega) (go _ (Part.put cs hp hkl _ ?_))))
          rw [hp.2.1 (k - 1) (by omega) (by omega), star_take cs hs, star_take cs hs]
          constructor
          · rintro ⟨i, h1, h2⟩; exact ⟨i, by omega, h2⟩
          · rintro ⟨i, h1, h2⟩
            by_cases e : i = k
            · subst e; exact absurd ((r2 i hkl).2 h2) hv
            · exact ⟨i, by omega, h2⟩
        · refine EvP.pos (by omega) (go _ (Part.put cs hp hkl false ⟨(fun h => by cases h), fun h => ?_⟩))
          obtain ⟨i, h1, h2⟩ := (star_take cs hs k).1 h
          obtain rfl : i = k := by omega
          exact absurd ((r2 i hkl).2 h2) hv
    · have hs' : t.f0 = false := by simpa using hs
      refine EvP.ite (fun h0 => ?_) (fun h0 => ?_)
      · rw [show ((k : Int) - 1) = ((k - 1 : Nat) : Int) from by omega, hrd (k - 1)]
        refine EvP.pos (by omega) (EvP.pos (by omega) (EvP.ite (fun hv => ?_) (fun hv => ?_)))
        · have hm := (r2 (k - 1) (by omega)).1 hv
          refine EvP.ite (fun h1 => ?_) (fun h1 => ?_)
          · exact EvP.pos (by omega) (EvP.pos (by omega) (go _ (Part.put cs hp hkl true ⟨fun _ => (step_take cs hs' k hkl).2 ⟨by omega, hm, .inl h1⟩, fun _ => rfl⟩)))
          · refine EvP.pos (by omega) (EvP.pos (by omega) (EvP.pos (by omega) (go _ (Part.put cs hp hkl _ ?_))))
            have e : rd cs ((k - 1 : Nat) : Int) = cs.getD (k - 1) 0 := by unfold rd; simp
            rw [e, step_take cs hs' k hkl]
            constructor
            · intro h; exact ⟨by omega, hm, .inr (by simpa using h)⟩
            · rintro ⟨_, _, h | h⟩
              · exact absurd h h1
              · simpa using h
        · exact go _ (Part.keep cs hp (fun h => hv ((r2 (k - 1) (by omega)).2 ((step_take cs hs' k hkl).1 h).2.1)))
      · exact go _ (Part.keep cs hp (fun h => by have := ((step_take cs hs' k hkl).1 h).1; omega))

theorem fits_l0 (hcs : cs.length ≤ 2147483647) (ts : List S56) (hts : ts.length ≤ 2147483647) : ∀ (rest done : List S56) (x5 : List Bool) (j : Int), 0 ≤ j → ts.drop j.toNat = rest → done ++ rest = ts → (done.length : Int) = j → Row cs done x5 →
    EvP (fun k => spec_Fits.l0 k cs x5 ts (ts.length : Int) j) (fun r => r = true ↔ M ts cs) := by
  intro rest
  induction rest with
  | nil =>
    intro done x5 j h0 hd hdone hj hrow
    rw [List.append_nil] at hdone
    subst hdone
    refine EvP.succ ?_
    simp only [spec_Fits.l0]
    have hl := hrow.1
    refine EvP.neg (by omega) (EvP.pos (by omega) (EvP.pos (by omega) (EvP.ret _ ?_)))
    have e : rdOf false x5 (cs.length : Int) = x5.getD cs.length false := by unfold rdOf; simp
    rw [e, hrow.2 cs.length (Nat.le_refl _), List.take_length]
  | cons t rest ih =>
    intro done x5 j h0 hd hdone hj hrow
    have hlt : j.toNat < ts.length := by
      have := congrArg List.length hd
      simp only [List.length_drop, List.length_cons] at this
      omega
    have hd2 := List.drop_eq_getElem_cons hlt
    rw [hd] at hd2
    injection hd2 with e1 e2
    have hr : rd_T56 ts j = t := by
      unfold rd_T56
      rw [List.getD_eq_getElem?_getD, List.getElem?_eq_getElem hlt, Option.getD_some]; exact e1.symm
    refine EvP.succ ?_
    simp only [spec_Fits.l0, hr]
    rw [w64 (x := (cs.length : Int) + 1) (by omega) (by omega)]
    refine EvP.pos (by omega) (EvP.pos h0 (EvP.pos (by omega) (EvP.pos (by omega) (EvP.pos (by omega) ?_))))
    rw [show ((cs.length : Int) + 1).toNat = cs.length + 1 from by omega]
    refine fits_l1 cs hcs ts _ j done t x5 hrow _ (fun x8 h8 => ?_) (cs.length + 1) 0 _ (by omega) (by omega) (part_zero cs _)
    rw [w64 (x := j + 1) (by omega) (by omega)]
    exact ih (done ++ [t]) x8 (j + 1) (by omega) (by rw [show (j + 1).toNat = j.toNat + 1 from by omega]; exact e2.symm) (by rw [List.append_assoc]; exact hdone) (by rw [List.length_append, List.length_singleton]; omega) h8

theorem if_pos_fun {α : Type} {c : Prop} [Decidable c] (hc : c) {g f : Nat → α} : (fun k => if c then g k else f k) = g := funext fun k => if_pos hc

theorem row_zero : Row cs [] ((List.replicate (cs.length + 1) false).set 0 true) := by
  refine ⟨by simp, fun k hk => ?_⟩
  rw [List.getD_eq_getElem?_getD]
  cases k with
  | zero =>
    rw [List.getElem?_set_self (by simp), List.take_zero]
    exact ⟨fun _ => .nil, fun _ => rfl⟩
  | succ k =>
    rw [List.getElem?_set_ne (by omega), List.getElem?_replicate]
    constructor
    · intro h; split at h <;> simp at h
    · intro h
      cases hct : cs.take (k + 1) with
      | nil =>
        have := congrArg List.length hct
        rw [List.length_take, List.length_nil] at this; omega
      | cons a b => rw [hct] at h; cases h

theorem fits_h0 (hcs : cs.length ≤ 2147483647) (ts : List S56) (hts : ts.length ≤ 2147483647) : EvP (fun k => spec_Fits.l0 k cs ((List.replicate (cs.length + 1) false).set 0 true) ts (ts.length : Int) 0) (fun r => r = true ↔ M ts cs) := fits_l0 cs hcs ts hts ts [] _ 0 (Int.le_refl _) rfl rfl rfl (row_zero cs)

theorem fits_f (hcs : cs.length ≤ 2147483647) (ts : List S56) (hts : ts.length ≤ 2147483647) : EvP (fun k => spec_Fits.f k cs ts) (fun r => r = true ↔ M ts cs) := by
  have e1 : wrap64 ((cs.length : Int) + 1) = (cs.length : Int) + 1 := w64 (by omega) (by omega)
  have e2 : ((cs.length : Int) + 1).toNat = cs.length + 1 := by omega
  have c1 : 0 ≤ (cs.length : Int) + 1 := by omega
  have c3 : 0 < ((List.replicate (cs.length + 1) false).length : Int) := by simp
  have h0 := fits_h0 cs hcs ts hts
  generalize hn : cs.length + 1 = n at *
  have c2 : n ≤ 281474976710656 := by omega
  clear hcs hts
  unfold spec_Fits.f
  simp only [Option.bind_some, e1, e2]
  rw [if_pos_fun c1, if_pos_fun c2, if_pos_fun c3]
  exact h0
end

end Go.Proofs.YtkhgbacbnkgafaaGreatDoor.PFnGjMatchesLike.Gb
