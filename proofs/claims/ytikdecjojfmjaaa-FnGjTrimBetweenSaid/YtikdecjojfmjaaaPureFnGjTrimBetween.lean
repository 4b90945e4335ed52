/- Trimming takes up to 32 blanks from both ends of a text of at most 2^12 bytes that has none itself, and used twice it changes nothing more. No condition beyond the statement's own guards. -/
import Derived.Test.YtikdecjojfmjaaaPFnGjTrimBetweenx1
import Derived.Test.YtikdecjojfmjaaaStr
import Derived.Laws.BitsAllLaws
namespace Go.Proofs.Ytikdecjojfmjaaa.Pure
open Go.RowKit Go.Proofs.Ytikdecjojfmjaaa.PFnGjTrimBetween Go.Proofs.YtikdecjojfmjaaaW.PrintWords Go.Proofs.YtikdecjojfmjaaaW.PrintLast Go.Proofs.YtikdecjojfmjaaaW.PrintMore Go.Proofs.Ytikdecjojfmjaaa.EvL Go.Proofs.Ytikdecjojfmjaaa.StrL

namespace Trim
open Go.Proofs.Ytikdecjojfmjaaa.TrimW

def sm (c : Int) : Bool := decide (c ≤ 32)

theorem ints_tail (s : ByteArray) : ints (s.extract 1 s.size) = (ints s).drop 1 := by
  rw [ints_extract, List.take_of_length_le]
  rw [List.length_drop, ints_length]
  omega

theorem ints_init (s : ByteArray) : ints (s.extract 0 (s.size - 1)) = (ints s).dropLast := by
  rw [ints_extract, List.drop_zero, List.dropLast_eq_take, ints_length]
  rfl

theorem left_ints (n : Nat) : ∀ s : ByteArray, s.size = n → ints (left s) = (ints s).dropWhile sm := by
  induction n with
  | zero =>
    intro s hs
    rw [left_no (by omega)]
    have : ints s = [] := List.eq_nil_of_length_eq_zero (by rw [ints_length]; exact hs)
    rw [this]; rfl
  | succ n ih =>
    intro s hs
    have hd := drop_of_lt (s := s) (i := 0) (by omega) (by omega)
    simp only [Int.toNat_zero, List.drop_zero] at hd
    by_cases hb : bt s 0 ≤ 32
    · rw [← left_yes (by omega) hb, ih _ (by simp; omega), ints_tail, hd, List.dropWhile_cons, if_pos (by simp [sm, hb])]
      rfl
    · rw [left_no (fun h => hb h.2), hd, List.dropWhile_cons, if_neg (by simp [sm, hb])]

theorem right_ints (n : Nat) : ∀ s : ByteArray, s.size = n → ints (right s) = ((ints s).reverse.dropWhile sm).reverse := by
  induction n with
  | zero =>
    intro s hs
    rw [right_no (by omega)]
    have : ints s = [] := List.eq_nil_of_length_eq_zero (by rw [ints_length]; exact hs)
    rw [this]; rfl
  | succ n ih =>
    intro s hs
    have hne : ints s ≠ [] := fun h => by have h3 := congrArg List.length h; rw [ints_length, List.length_nil] at h3; omega
    have hl : (ints s).getLast hne = bt s ((s.size : Int) - 1) := by
      rw [List.getLast_eq_getElem, bt_getD, List.getD_eq_getElem?_getD, List.getElem?_eq_getElem (by rw [ints_length]; omega), Option.getD_some]
      congr 1
      rw [ints_length]; omega
    have hd : (ints s).reverse = bt s ((s.size : Int) - 1) :: (ints s).dropLast.reverse := by
      conv => lhs; rw [← List.dropLast_concat_getLast hne]
      rw [List.reverse_append, hl]; rfl
    by_cases hb : bt s ((s.size : Int) - 1) ≤ 32
    · rw [← right_yes (by omega) hb, ih _ (by simp; omega), ints_init, hd, List.dropWhile_cons, if_pos (by simp [sm, hb])]
    · rw [right_no (fun h => hb h.2), hd, List.dropWhile_cons, if_neg (by simp [sm, hb]), ← hd, List.reverse_reverse]

theorem drop_blanks : ∀ (e t : List Int), (∀ c ∈ e, c ≤ 32) → (e ++ t).dropWhile sm = t.dropWhile sm
  | [], _, _ => rfl
  | c :: e, t, h => by
    have hc : c ≤ 32 := h c List.mem_cons_self
    rw [List.cons_append, List.dropWhile_cons, if_pos (by simp [sm, hc])]
    exact drop_blanks e t (fun x hx => h x (List.mem_cons_of_mem _ hx))

theorem drop_none {c : Int} {t : List Int} (h : 32 < c) : (c :: t).dropWhile sm = c :: t := by
  rw [List.dropWhile_cons, if_neg (by simp [sm]; omega)]

/-- Blanks around a text that has none at its ends. -/
theorem trim_ints (s e : ByteArray) (h1 : 0 < s.size) (hf : 32 < bt s 0) (hl : 32 < bt s ((s.size : Int) - 1)) (he : ∀ c ∈ ints e, c ≤ 32) : right (left ((e ++ s) ++ e)) = s := by
  apply ints_inj
  rw [right_ints _ _ rfl, left_ints _ _ rfl, ints_append, ints_append, List.append_assoc, drop_blanks _ _ he]
  have hd := drop_of_lt (s := s) (i := 0) (by omega) (by omega)
  simp only [Int.toNat_zero, List.drop_zero] at hd
  have h2 : (ints s ++ ints e).dropWhile sm = ints s ++ ints e := by
    rw [hd, List.cons_append, drop_none hf]
  rw [h2, List.reverse_append, drop_blanks _ _ (fun c hc => he c (List.mem_reverse.1 hc))]
  have hne : ints s ≠ [] := fun h => by have h3 := congrArg List.length h; rw [ints_length, List.length_nil] at h3; omega
  have hgl : (ints s).getLast hne = bt s ((s.size : Int) - 1) := by
    rw [List.getLast_eq_getElem, bt_getD, List.getD_eq_getElem?_getD, List.getElem?_eq_getElem (by rw [ints_length]; omega), Option.getD_some]
    congr 1
    rw [ints_length]; omega
  have hr : (ints s).reverse = bt s ((s.size : Int) - 1) :: (ints s).dropLast.reverse := by
    conv => lhs; rw [← List.dropLast_concat_getLast hne]
    rw [List.reverse_append, hgl]; rfl
  rw [hr, drop_none hl, ← hr, List.reverse_reverse]

theorem impl_some (t : ByteArray) (h : t.size ≤ 140737488351232) : impl_GjTrim.f t = some (right (left t)) := by
  unfold impl_GjTrim.f gjson_DoorTrim.f gjson_trim.f
  rw [if_pos h]; rfl

theorem and3 (x : Int) (h0 : 0 ≤ x) (h1 : x < 18446744073709551616) : 0 ≤ Go.bits .and .u64 x 3 ∧ Go.bits .and .u64 x 3 < 4 := by
  rw [Go.u64_and x 3 h0 h1 (by omega) (by omega)]
  have : x.toNat &&& (3 : Int).toNat ≤ 3 := Nat.and_le_right
  omega

theorem wrap_small (x : Int) (h0 : 0 ≤ x) (h1 : x < 1000) : IntKind.u64.wrap x = x := by
  rw [IntKind.wrap_u64]; omega

theorem shr_range (x y : Int) (h0 : 0 ≤ x) (h1 : x < 18446744073709551616) : 0 ≤ shr .u64 x y ∧ shr .u64 x y < 18446744073709551616 := by
  unfold shr
  have hp : (0 : Int) < 2 ^ min y.toNat IntKind.u64.bits := Int.pow_pos (by omega)
  refine ⟨Int.ediv_nonneg h0 (by omega), ?_⟩
  have := Int.ediv_le_self (2 ^ min y.toNat IntKind.u64.bits) h0
  omega

theorem loop (s : ByteArray) (x1 x2 : Int) (hs : s.size ≤ 4096) (h1 : 0 < s.size) (hf : 32 < bt s 0) (hl : 32 < bt s ((s.size : Int) - 1)) (hx1 : 0 ≤ x1) (hx1' : x1 < 18446744073709551616) (hx2 : x2 ≤ 32) (d : Nat) :
    ∀ (e : ByteArray) (i : Int), 0 ≤ i → x2 - i ≤ d → e.size ≤ i.toNat → i ≤ 33 → (∀ c ∈ ints e, c ≤ 32) → EvP (fun k => laws_FnGjTrimBetween.l0 k s x1 x2 e i) (fun r => r = true) := by
  have hend : ∀ e : ByteArray, e.size ≤ 33 → (∀ c ∈ ints e, c ≤ 32) → EvP (fun _ => (if e.size + s.size ≤ 9223372036854775807 then (if (e ++ s).size + e.size ≤ 9223372036854775807 then ((impl_GjTrim.f ((e ++ s) ++ e)).bind fun t107 => (if t107.toList = s.toList then ((impl_GjTrim.f t107).bind fun t108 => (some (t108.toList == t107.toList))) else (some false))) else (none)) else (none))) (fun r => r = true) := by
    intro e he hb
    have hz : (e ++ s).size = e.size + s.size := by simp
    have hz2 : ((e ++ s) ++ e).size = e.size + s.size + e.size := by simp
    rw [impl_some _ (by omega), trim_ints s e h1 hf hl hb]
    simp only [Option.bind_some]
    have h2 : right (left s) = s := by
      have := trim_ints s ByteArray.empty h1 hf hl (by simp [ints])
      simpa using this
    rw [impl_some s (by omega), h2]
    simp only [Option.bind_some]
    exact EvP.pos (by omega) (EvP.pos (by omega) (EvP.pos trivial (EvP.ret _ (beq_toList_self s))))
  induction d with
  | zero =>
    intro e i h0 hd he hi hb
    refine EvP.succ ?_
    simp only [laws_FnGjTrimBetween.l0]
    exact EvP.neg (by omega) (hend e (by omega) hb)
  | succ d ih =>
    intro e i h0 hd he hi hb
    refine EvP.succ ?_
    simp only [laws_FnGjTrimBetween.l0, Option.bind_some]
    refine EvP.ite (fun hlt => ?_) (fun _ => hend e (by omega) hb)
    rw [wrap_small i h0 (by omega), wrap_small (2 * i) (by omega) (by omega), w64 (by omega) (by omega)]
    have hsr := shr_range x1 (2 * i) hx1 hx1'
    have ha := and3 (shr .u64 x1 (2 * i)) hsr.1 hsr.2
    generalize Go.bits .and .u64 (shr .u64 x1 (2 * i)) 3 = q at ha ⊢
    obtain ⟨b, hb1, hb2, hb3⟩ : ∃ b : ByteArray, rdOf ByteArray.empty [(⟨#[32]⟩ : ByteArray), (⟨#[9]⟩ : ByteArray), (⟨#[10]⟩ : ByteArray), (⟨#[13]⟩ : ByteArray)] q = b ∧ b.size = 1 ∧ ∀ c ∈ ints b, c ≤ 32 := by
      have hq : q = 0 ∨ q = 1 ∨ q = 2 ∨ q = 3 := by omega
      rcases hq with rfl | rfl | rfl | rfl
      · exact ⟨⟨#[32]⟩, rfl, rfl, by decide⟩
      · exact ⟨⟨#[9]⟩, rfl, rfl, by decide⟩
      · exact ⟨⟨#[10]⟩, rfl, rfl, by decide⟩
      · exact ⟨⟨#[13]⟩, rfl, rfl, by decide⟩
    rw [hb1]
    refine EvP.pos (by omega) (EvP.pos ha.1 (EvP.pos (by simp; omega) (EvP.pos (by omega) ?_)))
    refine ih _ (i + 1) (by omega) (by omega) (by simp; omega) (by omega) ?_
    intro c hc
    rw [ints_append] at hc
    rcases List.mem_append.1 hc with hc | hc
    · exact hb c hc
    · exact hb3 c hc

end Trim

theorem FnGjTrimBetween : laws_FnGjTrimBetween.Pure := by
  intro s x1 x2 _ hx1 _
  apply EvP.told
  have hx1' : 0 ≤ x1 ∧ x1 < 18446744073709551616 := by
    simp [Lit.wf, IntKind.min, IntKind.max, IntKind.signed, IntKind.bits] at hx1
    omega
  unfold laws_FnGjTrimBetween.f
  refine EvP.ite (fun _ => EvP.ret _ rfl) (fun hn => ?_)
  have hj : ∀ b : Bool, (b = false → s.size ≤ 4096 ∧ 0 < s.size ∧ 32 < bt s 0 ∧ 32 < bt s ((s.size : Int) - 1) ∧ x2 ≤ 32) → EvP (fun k => laws_FnGjTrimBetween.j0 k s x1 x2 b) (fun r => r = true) := by
    intro b hb
    refine EvP.succ ?_
    simp only [laws_FnGjTrimBetween.j0]
    refine EvP.ite (fun _ => EvP.ret _ rfl) (fun h => ?_)
    obtain ⟨h1, h2, h3, h4, h5⟩ := hb (by simpa using h)
    exact Trim.loop s x1 x2 h1 h2 h3 h4 hx1'.1 hx1'.2 h5 33 ⟨#[]⟩ 0 (by omega) (by omega) (by show (0 : Nat) ≤ _; omega) (by omega) (by simp [ints])
  have ht : EvP (fun k => laws_FnGjTrimBetween.j0 k s x1 x2 true) (fun r => r = true) := hj true (fun h => by cases h)
  refine EvP.ite (fun _ => ht) (fun _ => EvP.ite (fun _ => ht) (fun h32 => EvP.ite (fun _ => ht) (fun hl => EvP.ite (fun _ => ht) (fun hne => ?_))))
  have hz : 0 < s.size := by
    have h3 : ¬ s.size = 0 := fun h => hne ((toList_nil s).2 h)
    omega
  rw [w64 (by omega) (by omega)]
  refine EvP.pos (by omega) (EvP.ite (fun _ => ht) (fun hb => EvP.pos (by omega) (EvP.pos (by omega) (hj _ (fun h => ?_)))))
  have := of_decide_eq_false h
  exact ⟨by omega, hz, by omega, by omega, by omega⟩

end Go.Proofs.Ytikdecjojfmjaaa.Pure
