/- Less of two Results of strings is, where case does not count, what it is for the strings with small letters in the place of the capital ones of ASCII, where it counts; and that is whether the first one's characters stand ahead in the order of bytes. No condition beyond the statement's own guards. -/
import Derived.Test.YtkdpkenhhcgnbaaPFnGjResultLessFoldx4
import Derived.Test.YtkdpkenhhcgnbaaStr
set_option linter.unusedVariables false
namespace Go.Proofs.Ytkdpkenhhcgnbaa.Pure
open Go.RowKit Go.Proofs.Ytkdpkenhhcgnbaa.PFnGjResultLessFold Go.Proofs.YtkdpkenhhcgnbaaW.PrintWords Go.Proofs.YtkdpkenhhcgnbaaW.PrintLast Go.Proofs.Ytkdpkenhhcgnbaa.EvL Go.Proofs.Ytkdpkenhhcgnbaa.StrL
open Go.Proofs.Ytkdpkenhhcgnbaa.SmallW (low)

namespace LessFold

def lessI : List Int → List Int → Bool
  | _, [] => false
  | [], _ :: _ => true
  | a :: x, b :: y => if a < b then true else if b < a then false else lessI x y

theorem less_ints : ∀ l m : List UInt8, Op.bytesLess l m = lessI (l.map fun b => (b.toNat : Int)) (m.map fun b => (b.toNat : Int))
  | l, [] => by cases l <;> rfl
  | [], _ :: _ => rfl
  | a :: x, b :: y => by
    simp only [Op.bytesLess, List.map_cons, lessI]
    rw [less_ints x y]
    have h1 : (a < b) ↔ ((a.toNat : Int) < (b.toNat : Int)) := by rw [UInt8.lt_iff_toNat_lt]; omega
    have h2 : (a = b) ↔ ((a.toNat : Int) = (b.toNat : Int)) := by rw [← UInt8.toNat_inj]; omega
    by_cases hlt : (a.toNat : Int) < (b.toNat : Int)
    · rw [if_pos hlt]; simp [h1.2 hlt]
    · rw [if_neg hlt]
      have hn : ¬ a < b := fun h => hlt (h1.1 h)
      by_cases heq : a = b
      · rw [if_neg (by rw [heq]; omega)]; simp [heq]
      · have hne : ¬ ((a.toNat : Int) = (b.toNat : Int)) := fun h => heq (h2.2 h)
        have : (b.toNat : Int) < (a.toNat : Int) := by omega
        rw [if_pos this]; simp [hn, heq]

theorem less_bytes (a b : ByteArray) : Op.bytesLess a.toList b.toList = lessI (ints a) (ints b) := by
  rw [less_ints, ByteArray.toList_eq, ByteArray.toList_eq]; rfl

theorem low_range {c : Int} (h : 0 ≤ c ∧ c ≤ 255) : 0 ≤ low c ∧ low c ≤ 255 := by
  unfold low; split <;> omega

def small (a : ByteArray) : ByteArray := strOfNums ((List.range a.size).map fun j : Nat => low (bt a (j : Int)))
theorem small_list (a : ByteArray) : ((List.range a.size).map fun j : Nat => low (bt a (j : Int))) = (ints a).map low := by
  apply List.ext_getElem
  · simp [ints_length]
  · intro i h1 h2
    simp only [List.getElem_map, List.getElem_range]
    rw [ints_get a i (by simpa using h1)]
theorem small_ints (a : ByteArray) : ints (small a) = (ints a).map low := by
  unfold small
  rw [small_list]
  refine ints_strOfNums (fun x hx => ?_)
  obtain ⟨c, hc, rfl⟩ := List.mem_map.1 hx
  exact low_range (ints_bytes a c hc)
theorem small_size (a : ByteArray) : (small a).size = a.size := by
  have := congrArg List.length (small_ints a)
  rw [ints_length, List.length_map, ints_length] at this
  exact this
theorem small_f (a : ByteArray) (h : a.size ≤ 2147483647) : spec_Small.f a = some (small a) := by
  unfold spec_Small.f small; rw [if_pos (by omega)]

/-! ### the quoted text: it is made, whatever it is -/
theorem short_some (c : Int) : ∃ r, spec_shortOf.f c = some r := by
  unfold spec_shortOf.f
  repeat' split
  all_goals exact ⟨_, rfl⟩
theorem digit_some (c : Int) (b : Bool) : ∃ r, spec_digitOf.f c b = some r := by
  unfold spec_digitOf.f
  repeat' split
  all_goals exact ⟨_, rfl⟩

theorem quote_l0 (s : ByteArray) (hn : s.size ≤ 2147483647) (d : Nat) : ∀ (i : Int) (acc : List Int), 0 ≤ i → (s.size : Int) - i = d → (acc.length : Int) ≤ 6 * i + 1 → EvP (fun k => spec_Quote.l0 k s acc i) (fun _ => True) := by
  induction d with
  | zero =>
    intro i acc h0 hd ha
    refine EvP.succ ?_
    simp only [spec_Quote.l0]
    exact EvP.neg (by omega) (EvP.pos (by omega) (EvP.ret _ trivial))
  | succ d ih =>
    intro i acc h0 hd ha
    refine EvP.succ ?_
    simp only [spec_Quote.l0]
    refine EvP.pos (by omega) (EvP.pos h0 ?_)
    obtain ⟨r, hr⟩ := short_some (bt s i)
    rw [hr]
    simp only [Option.bind_some]
    have hnx : ∀ acc' : List Int, (acc'.length : Int) ≤ 6 * (i + 1) + 1 → EvP (fun k => spec_Quote.l0 k s acc' (wrap64 (i + 1))) (fun _ => True) := fun acc' h => by
      rw [w64 (by omega) (by omega)]; exact ih (i + 1) acc' (by omega) (by omega) h
    have hj : ∀ b : Bool, EvP (fun k => spec_Quote.j1 k s acc i (bt s i) r.1 b) (fun _ => True) := by
      intro b
      refine EvP.succ ?_
      simp only [spec_Quote.j1, Option.bind_some]
      refine EvP.ite (fun _ => EvP.pos (by simp; omega) (hnx _ (by simp; omega))) (fun _ => EvP.ite (fun _ => ?_) (fun _ => EvP.pos (by omega) (hnx _ (by simp; omega))))
      obtain ⟨q, hq⟩ := digit_some (wrap64 (Int.tmod (bt s i) 16)) false
      rw [hq]
      simp only [Option.bind_some]
      exact EvP.pos (by simp; omega) (hnx _ (by simp; omega))
    exact EvP.ite (fun _ => hj _) (fun _ => hj _)

theorem told_f (s : ByteArray) (hn : s.size ≤ 2147483647) : EvP (fun k => laws_gjString.f k s) (fun r => ∃ q, r = (3, q, s, 0, true)) := by
  unfold laws_gjString.f spec_Quote.f
  exact EvP.bind (quote_l0 s hn s.size 0 [34] (by omega) (by omega) (by simp)) (fun q _ => EvP.ret _ ⟨q, rfl⟩)

/-! ### the comparison where case does not count -/
section
variable (a b : ByteArray)

theorem step (ha : a.size ≤ 2147483647) (i : Int) (x y : Int) (P : Bool → Prop) (h0 : 0 ≤ i) (h : ¬ x < y → ¬ y < x → EvP (fun k => gjson_stringLessInsensitive.l0 k a b (i + 1)) P) (hlt : x < y → P true) (hgt : ¬ x < y → y < x → P false) (hi : i < a.size) :
    EvP (fun k => (if x < y then (some true) else (if x > y then (some false) else (gjson_stringLessInsensitive.l0 k a b (wrap64 (i + 1)))))) P := by
  rw [w64 (x := i + 1) (by omega) (by omega)]
  exact EvP.ite (fun c => EvP.ret _ (hlt c)) (fun c1 => EvP.ite (fun c => EvP.ret _ (hgt c1 (by omega))) (fun c => h c1 (by omega)))

theorem less_l0 (ha : a.size ≤ 2147483647) (hb : b.size ≤ 2147483647) : ∀ (la lb : List Int) (i : Int), 0 ≤ i → i ≤ a.size → i ≤ b.size → (ints a).drop i.toNat = la → (ints b).drop i.toNat = lb →
    EvP (fun k => gjson_stringLessInsensitive.l0 k a b i) (fun r => r = lessI (la.map low) (lb.map low)) := by
  intro la
  induction la with
  | nil =>
    intro lb i h0 hia hib hla hlb
    have h1 := len_of_drop_nil h0 hla
    rw [ints_length] at h1
    have h2 := size_of_drop h0 hib hlb
    refine EvP.succ ?_
    simp only [gjson_stringLessInsensitive.l0]
    refine EvP.neg (by omega) ?_
    refine EvP.succ ?_
    simp only [gjson_stringLessInsensitive.j1]
    refine EvP.neg (by simp) (EvP.ret _ ?_)
    cases lb with
    | nil => simp only [List.length_nil] at h2; simp [lessI]; omega
    | cons y t => simp only [List.length_cons] at h2; simp [lessI]; omega
  | cons x t ih =>
    intro lb i h0 hia hib hla hlb
    obtain ⟨hx, hxi, hta⟩ := bt_of_drop h0 hla
    refine EvP.succ ?_
    simp only [gjson_stringLessInsensitive.l0]
    refine EvP.pos hxi ?_
    refine EvP.succ ?_
    simp only [gjson_stringLessInsensitive.j1]
    cases lb with
    | nil =>
      have h1 := len_of_drop_nil h0 hlb
      rw [ints_length] at h1
      refine EvP.neg (by simp; omega) (EvP.ret _ ?_)
      simp [lessI]; omega
    | cons y u =>
      obtain ⟨hy, hyi, hub⟩ := bt_of_drop h0 hlb
      have hxr := bt_range a i
      have hyr := bt_range b i
      have hnx := ih u (i + 1) (by omega) (by omega) (by omega) hta hub
      refine EvP.pos (by simpa using hyi) (EvP.pos h0 (EvP.pos hxi ?_))
      rw [hx] at hxr
      rw [hy] at hyr
      simp only [hx, List.map_cons]
      have hS : ∀ x' y' : Int, (x' < y' ↔ low x < low y) → (y' < x' ↔ low y < low x) → EvP (fun k => (if x' < y' then (some true) else (if x' > y' then (some false) else (gjson_stringLessInsensitive.l0 k a b (wrap64 (i + 1)))))) (fun r => r = lessI (low x :: t.map low) (low y :: u.map low)) := fun x' y' e1 e2 =>
        step a b ha i x' y' _ h0 (fun c1 c2 => hnx.mono (fun r hr => by rw [hr, lessI, if_neg (fun c => c1 (e1.2 c)), if_neg (fun c => c2 (e2.2 c))]))
          (fun c => by rw [lessI, if_pos (e1.1 c)]) (fun c1 c => by rw [lessI, if_neg (fun c => c1 (e1.2 c)), if_pos (e2.1 c)]) hxi
      have hup : ∀ c : Int, (65 ≤ c ∧ c ≤ 90 ∧ low c = c + 32) ∨ (¬ (65 ≤ c ∧ c ≤ 90) ∧ low c = c) := fun c => by
        unfold low; split
        · rename_i h; exact .inl ⟨h.1, h.2, rfl⟩
        · rename_i h; exact .inr ⟨h, rfl⟩
      have hj3 : ∀ v : Bool, 65 ≤ x ∧ x ≤ 90 → (v = true ↔ 65 ≤ y ∧ y ≤ 90) → EvP (fun k => gjson_stringLessInsensitive.j3 k a b i v) (fun r => r = lessI (low x :: t.map low) (low y :: u.map low)) := by
        intro v hux hv
        have lx := hup x
        have ly := hup y
        refine EvP.succ ?_
        simp only [gjson_stringLessInsensitive.j3, hx, hy]
        refine EvP.ite (fun h => EvP.pos h0 (EvP.pos hxi (EvP.pos hyi (hS _ _ ?_ ?_)))) (fun h => EvP.pos h0 (EvP.pos hxi (EvP.pos hyi (hS _ _ ?_ ?_))))
        · rw [hv] at h; omega
        · rw [hv] at h; omega
        · rw [hv] at h; omega
        · rw [hv] at h; omega
      have hj4 : ∀ v : Bool, ¬ (65 ≤ x ∧ x ≤ 90) → (v = true ↔ 65 ≤ y ∧ y ≤ 90) → EvP (fun k => gjson_stringLessInsensitive.j4 k a b i v) (fun r => r = lessI (low x :: t.map low) (low y :: u.map low)) := by
        intro v hux hv
        have lx := hup x
        have ly := hup y
        refine EvP.succ ?_
        simp only [gjson_stringLessInsensitive.j4, hx, hy]
        refine EvP.ite (fun h => EvP.pos h0 (EvP.pos hxi (EvP.pos hyi (hS _ _ ?_ ?_)))) (fun h => EvP.pos h0 (EvP.pos hxi (EvP.pos hyi (hS _ _ ?_ ?_))))
        · rw [hv] at h; omega
        · rw [hv] at h; omega
        · rw [hv] at h; omega
        · rw [hv] at h; omega
      have hj2 : ∀ v : Bool, (v = true ↔ 65 ≤ x ∧ x ≤ 90) → EvP (fun k => gjson_stringLessInsensitive.j2 k a b i v) (fun r => r = lessI (low x :: t.map low) (low y :: u.map low)) := by
        intro v hv
        refine EvP.succ ?_
        simp only [gjson_stringLessInsensitive.j2, hy]
        refine EvP.ite (fun h => EvP.pos h0 (EvP.pos hyi ?_)) (fun h => EvP.pos h0 (EvP.pos hyi ?_))
        · have hux := hv.1 h
          exact EvP.ite (fun h => hj3 _ hux (by simp; omega)) (fun h => hj3 _ hux (by simp; omega))
        · have hux : ¬ (65 ≤ x ∧ x ≤ 90) := fun h2 => h (hv.2 h2)
          exact EvP.ite (fun h => hj4 _ hux (by simp; omega)) (fun h => hj4 _ hux (by simp; omega))
      exact EvP.ite (fun h => hj2 _ (by simp; omega)) (fun h => hj2 _ (by simp; omega))

end

theorem less_f (a b : ByteArray) (ha : a.size ≤ 2147483647) (hb : b.size ≤ 2147483647) (q1 q2 : ByteArray) (cs : Bool) :
    EvP (fun k => impl_GjResultLess.f k 3 q1 a 0 true 3 q2 b 0 true cs) (fun r => r = if cs = true then Op.bytesLess a.toList b.toList else Op.bytesLess (small a).toList (small b).toList) := by
  unfold impl_GjResultLess.f impl_gjOf.f gjson_Result_Less.f
  simp only [Option.bind_some]
  refine EvP.bind (Q := fun r => r = if cs = true then Op.bytesLess a.toList b.toList else Op.bytesLess (small a).toList (small b).toList) ?_ (fun r hr => EvP.ret _ hr)
  refine EvP.neg (by omega) (EvP.neg (by omega) (EvP.pos trivial (EvP.ite (fun h => EvP.ret _ (by rw [if_pos h])) (fun h => ?_))))
  refine EvP.bind (Q := fun r => r = Op.bytesLess (small a).toList (small b).toList) ?_ (fun r hr => EvP.ret _ (by rw [hr, if_neg h]))
  unfold gjson_stringLessInsensitive.f
  rw [less_bytes, small_ints, small_ints]
  exact less_l0 a b ha hb (ints a) (ints b) 0 (by omega) (by omega) (by omega) (by simp) (by simp)

end LessFold

open LessFold in
theorem FnGjResultLessFold : laws_FnGjResultLessFold.Pure := by
  intro a b _ _
  apply EvP.told
  unfold laws_FnGjResultLessFold.f
  have hj : ∀ v : Bool, (v = false → a.size ≤ 2147483647 ∧ b.size ≤ 2147483647) → EvP (fun k => laws_FnGjResultLessFold.j0 k a b v) (fun r => r = true) := by
    intro v hv
    refine EvP.succ ?_
    simp only [laws_FnGjResultLessFold.j0]
    refine EvP.ite (fun _ => EvP.ret _ rfl) (fun h => ?_)
    obtain ⟨ha, hb⟩ := hv (by simpa using h)
    rw [small_f a ha, small_f b hb]
    simp only [Option.bind_some]
    refine EvP.bind (told_f a ha) ?_
    rintro r ⟨q1, rfl⟩
    refine EvP.bind (told_f b hb) ?_
    rintro r ⟨q2, rfl⟩
    dsimp only
    refine EvP.bind (less_f a b ha hb q1 q2 false) ?_
    rintro r rfl
    refine EvP.pos (by simp) ?_
    refine EvP.bind (told_f (small a) (by rw [small_size]; exact ha)) ?_
    rintro r ⟨q3, rfl⟩
    refine EvP.bind (told_f (small b) (by rw [small_size]; exact hb)) ?_
    rintro r ⟨q4, rfl⟩
    dsimp only
    refine EvP.bind (less_f (small a) (small b) (by rw [small_size]; exact ha) (by rw [small_size]; exact hb) q3 q4 true) ?_
    rintro r rfl
    refine EvP.pos (by simp) ?_
    refine EvP.bind (told_f a ha) ?_
    rintro r ⟨q5, rfl⟩
    refine EvP.bind (told_f b hb) ?_
    rintro r ⟨q6, rfl⟩
    dsimp only
    refine EvP.bind (less_f a b ha hb q5 q6 true) ?_
    rintro r rfl
    exact EvP.ret _ (by simp)
  refine EvP.ite (fun h => hj _ (fun h => by cases h)) (fun h => hj _ (fun h2 => ?_))
  simp at h2
  omega

end Go.Proofs.Ytkdpkenhhcgnbaa.Pure
