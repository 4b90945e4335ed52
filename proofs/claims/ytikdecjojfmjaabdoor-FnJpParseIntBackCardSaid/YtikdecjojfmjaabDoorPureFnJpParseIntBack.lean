/- ParseInt of a whole number's decimal digits gives the number, for every int64. No condition. -/
import Derived.Test.YtikdecjojfmjaabDoorPFnJpParseIntBackx2
import Derived.Test.YtikdecjojfmjaabDoorStr
namespace Go.Proofs.YtikdecjojfmjaabDoor.Pure
open Go.RowKit Go.Proofs.YtikdecjojfmjaabDoor.PFnJpParseIntBack Go.Proofs.YtikdecjojfmjaabDoorW.PrintWords Go.Proofs.YtikdecjojfmjaabDoorW.PrintLast Go.Proofs.YtikdecjojfmjaabDoorW.PrintMore Go.Proofs.YtikdecjojfmjaabDoor.EvL Go.Proofs.YtikdecjojfmjaabDoor.StrL

namespace PIB

/-- The decimal digits of a number, as bytes; m: at most so many. -/
def dec : Nat → Nat → List Int
  | 0, _ => []
  | m + 1, n => if n / 10 = 0 then [((48 + n % 10 : Nat) : Int)] else dec m (n / 10) ++ [((48 + n % 10 : Nat) : Int)]

def val (v : Nat) (l : List Int) : Nat := l.foldl (fun v c => 10 * v + (c - 48).toNat) v

theorem val_append (v : Nat) (l m : List Int) : val v (l ++ m) = val (val v l) m := by simp [val, List.foldl_append]

theorem dec_val : ∀ (m n : Nat), n < 10 ^ m → 0 < m → val 0 (dec m n) = n
  | 0, _, _, h => by omega
  | m + 1, n, hn, _ => by
    unfold dec
    by_cases h : n / 10 = 0
    · rw [if_pos h]; simp only [val, List.foldl_cons, List.foldl_nil]; omega
    · rw [if_neg h, val_append, dec_val m (n / 10) (by rw [Nat.pow_succ] at hn; omega) (by
        cases m with
        | zero => simp at hn; omega
        | succ m => omega)]
      simp only [val, List.foldl_cons, List.foldl_nil]
      omega

theorem dec_digits : ∀ (m n : Nat), ∀ c ∈ dec m n, 48 ≤ c ∧ c ≤ 57
  | 0, _, c, h => by cases h
  | m + 1, n, c, h => by
    unfold dec at h
    split at h
    · rw [List.mem_singleton] at h; omega
    · rcases List.mem_append.1 h with h | h
      · exact dec_digits m _ c h
      · rw [List.mem_singleton] at h; omega

theorem dec_len : ∀ (m n : Nat), (dec m n).length ≤ m
  | 0, _ => by simp [dec]
  | m + 1, n => by
    unfold dec
    split
    · simp
    · have := dec_len m (n / 10); simp; omega

theorem dec_pos (m n : Nat) : 0 < (dec (m + 1) n).length := by
  unfold dec; split <;> simp

theorem val_lt : ∀ (l : List Int) (v : Nat), (∀ c ∈ l, 48 ≤ c ∧ c ≤ 57) → val v l < (v + 1) * 10 ^ l.length
  | [], v, _ => by simp [val]
  | c :: t, v, h => by
    have hc := h c List.mem_cons_self
    have := val_lt t (10 * v + (c - 48).toNat) (fun x hx => h x (List.mem_cons_of_mem _ hx))
    have e : val v (c :: t) = val (10 * v + (c - 48).toNat) t := rfl
    rw [e, List.length_cons, Nat.pow_succ]
    have h2 : (10 * v + (c - 48).toNat + 1) * 10 ^ t.length ≤ (10 * (v + 1)) * 10 ^ t.length := Nat.mul_le_mul_right _ (by omega)
    have h3 : (v + 1) * (10 ^ t.length * 10) = (10 * (v + 1)) * 10 ^ t.length := by
      rw [Nat.mul_comm (10 ^ t.length) 10, ← Nat.mul_assoc, Nat.mul_comm (v + 1) 10]
    omega

theorem val_ge : ∀ (l : List Int) (v : Nat), v ≤ val v l
  | [], v => Nat.le_refl _
  | c :: t, v => by
    have := val_ge t (10 * v + (c - 48).toNat)
    have e : val v (c :: t) = val (10 * v + (c - 48).toNat) t := rfl
    omega

/-- The digits as the reference writes them. -/
theorem digits_l0 : ∀ (m n : Nat) (acc : List Int), n < 10 ^ m → 0 < m → n ≤ 18446744073709551615 → acc.length ≤ 100 → m ≤ 20 → acc.length + m ≤ 100 →
    EvP (fun k => spec_DigitsOf.l0 k (n : Int) acc) (fun r => r = strOfNums (dec m n ++ acc))
  | 0, _, _, _, h, _, _, _, _ => by omega
  | m + 1, n, acc, hn, _, hu, ha, hm, ham => by
    refine EvP.succ ?_
    simp only [spec_DigitsOf.l0, Option.bind_some]
    have e1 : Int.tmod (n : Int) 10 = ((n % 10 : Nat) : Int) := by rw [Int.tmod_eq_emod_of_nonneg (by omega)]; omega
    have e2 : Int.tdiv (n : Int) 10 = ((n / 10 : Nat) : Int) := by rw [Int.tdiv_eq_ediv_of_nonneg (by omega)]; omega
    rw [e1, e2, u64w (by omega) (by omega), u64w (x := ((n / 10 : Nat) : Int)) (by omega) (by omega)]
    have e3 : (48 + ((n % 10 : Nat) : Int)) % 256 = ((48 + n % 10 : Nat) : Int) := by omega
    rw [e3]
    refine EvP.pos (by simp; omega) (EvP.ite (fun h => EvP.ret _ ?_) (fun h => ?_))
    · unfold dec; rw [if_pos (by omega)]
    · have h' : ¬ n / 10 = 0 := by omega
      refine (digits_l0 m (n / 10) _ (by rw [Nat.pow_succ] at hn; omega) ?_ (by omega) (by simp; omega) (by omega) (by simp; omega)).mono ?_
      · cases m with
        | zero => simp at hn; omega
        | succ m => omega
      · rintro r rfl
        rw [show dec (m + 1) n = dec m (n / 10) ++ [((48 + n % 10 : Nat) : Int)] from by rw [dec, if_neg h']]
        simp

theorem digits_f (n : Nat) (h : n ≤ 18446744073709551615) : EvP (fun k => spec_DigitsOf.f k (n : Int)) (fun r => r = strOfNums (dec 20 n)) := by
  unfold spec_DigitsOf.f
  refine (digits_l0 20 n [] (Nat.lt_of_le_of_lt h (by decide)) (by omega) h (by simp) (by omega) (by simp)).mono ?_
  rintro r rfl
  simp

/-- What ParseInt is to answer. -/
def ans (neg : Bool) (n : Nat) : Int := if neg = true then -(n : Int) else (n : Int)

theorem loop_small (xs : List Int) (hx : xs.length ≤ 100) (n : Nat) (hn : n ≤ 9223372036854775807) (neg : Bool) : ∀ (rest : List Int) (v : Nat) (i : Int), 0 ≤ i → xs.drop i.toNat = rest → (∀ c ∈ rest, 48 ≤ c ∧ c ≤ 57) → val v rest = n →
    EvP (fun k => jsonparser_parseInt.l0 k xs (v : Int) (xs.length : Int) neg i) (fun r => r = (ans neg n, true, false)) := by
  intro rest
  induction rest with
  | nil =>
    intro v i h0 hd _ hv
    have := len_of_drop_nil h0 hd
    have hv : v = n := hv
    refine EvP.succ ?_
    simp only [jsonparser_parseInt.l0]
    rw [w64 (x := -(v : Int)) (by omega) (by omega)]
    refine EvP.neg (by omega) (EvP.ite (fun h => EvP.ret _ ?_) (fun h => EvP.ret _ ?_))
    · unfold ans; rw [if_pos h, hv]
    · unfold ans; rw [if_neg h, hv]
  | cons c t ih =>
    intro v i h0 hd hc hv
    obtain ⟨hr, hlt, hd2⟩ := rd_of_drop h0 hd
    have hcc := hc c List.mem_cons_self
    have hv2 : val (10 * v + (c - 48).toNat) t = n := hv
    have hge := val_ge t (10 * v + (c - 48).toNat)
    refine EvP.succ ?_
    simp only [jsonparser_parseInt.l0, hr]
    rw [w64 (x := 10 * (v : Int)) (by omega) (by omega), w64 (x := 10 * (v : Int) + (c - 48) % 256) (by omega) (by omega), w64 (x := i + 1) (by omega) (by omega)]
    refine EvP.pos hlt (EvP.pos h0 (EvP.pos hlt (EvP.neg (by omega) ?_)))
    rw [show 10 * (v : Int) + (c - 48) % 256 = ((10 * v + (c - 48).toNat : Nat) : Int) from by omega]
    exact ih _ (i + 1) (by omega) hd2 (fun x hx => hc x (List.mem_cons_of_mem _ hx)) hv2

theorem loop_great (xs : List Int) (hx : xs.length ≤ 100) (n : Nat) (neg : Bool) (hn : n ≤ 9223372036854775808) (hneg : neg = false → n ≤ 9223372036854775807) : ∀ (rest : List Int) (v : Nat) (i : Int), 0 ≤ i → xs.drop i.toNat = rest → (∀ c ∈ rest, 48 ≤ c ∧ c ≤ 57) → val v rest = n →
    EvP (fun k => jsonparser_parseInt.l1 k neg (v : Int) xs (xs.length : Int) i) (fun r => r = (ans neg n, true, false)) := by
  intro rest
  induction rest with
  | nil =>
    intro v i h0 hd _ hv
    have := len_of_drop_nil h0 hd
    have hv : v = n := hv
    subst hv
    refine EvP.succ ?_
    simp only [jsonparser_parseInt.l1]
    refine EvP.neg (by omega) (EvP.ite (fun h => ?_) (fun h => ?_))
    · have he : v = 9223372036854775808 := by omega
      subst he
      refine EvP.ite (fun hg => ?_) (fun hg => ?_)
      · refine EvP.succ ?_
        simp only [jsonparser_parseInt.j5]
        refine EvP.pos (by decide) (EvP.ret _ ?_)
        unfold ans; rw [if_pos hg]; rfl
      · have := hneg (by simpa using hg)
        omega
    · rw [w64 (x := (v : Int)) (by omega) (by omega), w64 (x := -(v : Int)) (by omega) (by omega)]
      refine EvP.ite (fun h => EvP.ret _ ?_) (fun h => EvP.ret _ ?_)
      · unfold ans; rw [if_pos h]
      · unfold ans; rw [if_neg h]
  | cons c t ih =>
    intro v i h0 hd hc hv
    obtain ⟨hr, hlt, hd2⟩ := rd_of_drop h0 hd
    have hcc := hc c List.mem_cons_self
    have hv2 : val (10 * v + (c - 48).toNat) t = n := hv
    have hge := val_ge t (10 * v + (c - 48).toNat)
    have hj : EvP (fun k => jsonparser_parseInt.j4 k neg (v : Int) c xs (xs.length : Int) i false) (fun r => r = (ans neg n, true, false)) := by
      refine EvP.succ ?_
      simp only [jsonparser_parseInt.j4]
      rw [u64w (x := (v : Int) * 10) (by omega) (by omega), u64w (by omega) (by omega), w64 (x := i + 1) (by omega) (by omega)]
      refine EvP.neg (by simp) (EvP.neg (by omega) (EvP.neg (by omega) ?_))
      rw [show (v : Int) * 10 + (c - 48) % 256 = ((10 * v + (c - 48).toNat : Nat) : Int) from by omega]
      exact ih _ (i + 1) (by omega) hd2 (fun x hx => hc x (List.mem_cons_of_mem _ hx)) hv2
    refine EvP.succ ?_
    simp only [jsonparser_parseInt.l1, hr]
    refine EvP.pos hlt (EvP.pos h0 (EvP.pos hlt (EvP.neg (by omega) ?_)))
    rw [decide_eq_false (by omega)]
    exact hj

theorem parse_any (n : Nat) (neg : Bool) (hn : n ≤ 9223372036854775808) (hneg : neg = false → n ≤ 9223372036854775807) :
    EvP (fun k => jsonparser_parseInt.f k ((if neg = true then [45] else []) ++ dec 20 n)) (fun r => r = (ans neg n, true, false)) := by
  have hdig := dec_digits 20 n
  have hlen := dec_len 20 n
  have hpos : 0 < (dec 20 n).length := dec_pos 19 n
  have hval := dec_val 20 n (Nat.lt_of_le_of_lt hn (by decide)) (by omega)
  have hlt := val_lt (dec 20 n) 0 hdig
  rw [hval] at hlt
  have hj0 : ∀ (xs : List Int) (i : Int), xs.length ≤ 100 → 0 ≤ i → i ≤ 1 → xs.drop i.toNat = dec 20 n → (neg = true → i = 1) → (neg = false → i = 0) → EvP (fun k => jsonparser_parseInt.j0 k xs 0 (xs.length : Int) neg i) (fun r => r = (ans neg n, true, false)) := by
    intro xs i hx h0 h1 hd hn1 hn0
    have hl : (xs.length : Int) = i + (dec 20 n).length := by
      have := congrArg List.length hd
      rw [List.length_drop] at this
      omega
    refine EvP.succ ?_
    simp only [jsonparser_parseInt.j0]
    rw [w64 (by omega) (by omega)]
    refine EvP.neg (by omega) (EvP.ite (fun h => ?_) (fun h => ?_))
    · have hb : n ≤ 9223372036854775807 := by
        have : 10 ^ (dec 20 n).length ≤ 10 ^ 18 := Nat.pow_le_pow_right (by omega) (by omega)
        have h18 : (10 : Nat) ^ 18 = 1000000000000000000 := by decide
        omega
      exact loop_small xs hx n hb neg (dec 20 n) 0 i h0 hd hdig hval
    · have hj2 : ∀ ys : List Int, ys = dec 20 n → EvP (fun k => jsonparser_parseInt.j2 k ys neg) (fun r => r = (ans neg n, true, false)) := by
        rintro ys rfl
        refine EvP.succ ?_
        simp only [jsonparser_parseInt.j2]
        exact loop_great (dec 20 n) (by omega) n neg hn hneg (dec 20 n) 0 0 (by omega) (by simp) hdig hval
      refine EvP.ite (fun hg => EvP.pos (by omega) (hj2 _ ?_)) (fun hg => hj2 _ ?_)
      · have := hn1 hg; subst this; exact hd
      · have := hn0 (by simpa using hg); subst this; simpa using hd
  unfold jsonparser_parseInt.f
  cases neg with
  | true =>
    simp only [if_true, List.cons_append, List.nil_append]
    refine EvP.neg (by simp; omega) (EvP.pos (by simp) (EvP.pos (by rfl) ?_))
    exact hj0 (45 :: dec 20 n) 1 (by simp; omega) (by omega) (by omega) (by simp) (fun _ => rfl) (fun h => by cases h)
  | false =>
    simp only [Bool.false_eq_true, if_false, List.nil_append]
    have hr0 : rd (dec 20 n) 0 ≠ 45 := by
      have hm : rd (dec 20 n) 0 ∈ dec 20 n := by
        unfold rd
        rw [List.getD_eq_getElem?_getD, List.getElem?_eq_getElem (by exact hpos), Option.getD_some]
        exact List.getElem_mem _
      have := hdig _ hm
      omega
    refine EvP.neg (by omega) (EvP.pos (by omega) (EvP.neg hr0 ?_))
    exact hj0 (dec 20 n) 0 (by omega) (by omega) (by omega) (by simp) (fun h => by cases h) (fun _ => rfl)

theorem impl_any (n : Nat) (neg : Bool) (hn : n ≤ 9223372036854775808) (hneg : neg = false → n ≤ 9223372036854775807) (s : ByteArray) (hs : ints s = (if neg = true then [45] else []) ++ dec 20 n) :
    EvP (fun k => impl_JpParseInt.f k s) (fun r => r = (ans neg n, true)) := by
  have hsz : s.size ≤ 21 := by
    rw [← ints_length, hs, List.length_append]
    have := dec_len 20 n
    split <;> simp <;> omega
  unfold impl_JpParseInt.f
  rw [bytesOf_ints, hs]
  refine EvP.pos (by omega) ?_
  unfold jsonparser_ParseInt.f
  refine EvP.bind (Q := fun r => r = (ans neg n, none)) (EvP.bind (parse_any n neg hn hneg) ?_) ?_
  · rintro r rfl
    exact EvP.pos rfl (EvP.ret _ rfl)
  · rintro r rfl
    exact EvP.pos rfl (EvP.ret _ rfl)

theorem dec_bytes (n : Nat) : Bytes (dec 20 n) := fun c hc => by have := dec_digits 20 n c hc; omega

end PIB

theorem FnJpParseIntBack : laws_FnJpParseIntBack.Pure := by
  intro a ha
  have hb : -9223372036854775808 ≤ a ∧ a ≤ 9223372036854775807 := by
    simp [Lit.wf, IntKind.min, IntKind.max, IntKind.signed, IntKind.bits] at ha
    omega
  apply EvP.told
  unfold laws_FnJpParseIntBack.f
  have hfin : ∀ (n : Nat) (neg : Bool) (s : ByteArray), n ≤ 9223372036854775808 → (neg = false → n ≤ 9223372036854775807) → ints s = (if neg = true then [45] else []) ++ PIB.dec 20 n → PIB.ans neg n = a →
      EvP (fun k => (impl_JpParseInt.f k s).bind fun bt127 => (if bt127.2 = true then (some (bt127.1 == a)) else (some false))) (fun r => r = true) := by
    intro n neg s h1 h2 h3 h4
    refine EvP.bind (PIB.impl_any n neg h1 h2 s h3) ?_
    rintro r rfl
    refine EvP.pos rfl (EvP.ret _ ?_)
    simp [h4]
  unfold spec_Digits.f
  by_cases h : a < 0
  · obtain ⟨n, hn⟩ : ∃ n : Nat, -a = (n : Int) := ⟨(-a).toNat, by omega⟩
    have e1 : IntKind.u64.wrap (-(IntKind.u64.wrap a)) = (n : Int) := by
      rw [IntKind.wrap_u64, IntKind.wrap_u64]; omega
    refine EvP.bind (Q := fun s => ints s = [45] ++ PIB.dec 20 n) ?_ (fun s hs => hfin n true s (by omega) (fun h => by cases h) (by simpa using hs) (by simp [PIB.ans]; omega))
    refine EvP.pos h ?_
    rw [e1]
    refine EvP.bind (PIB.digits_f n (by omega)) ?_
    rintro r rfl
    have := PIB.dec_len 20 n
    refine EvP.pos (by rw [strOfNums_size]; omega) (EvP.ret _ ?_)
    rw [ints_append, ints_strOfNums (PIB.dec_bytes n)]
    rfl
  · obtain ⟨n, hn⟩ : ∃ n : Nat, a = (n : Int) := ⟨a.toNat, by omega⟩
    refine EvP.bind (Q := fun s => ints s = [] ++ PIB.dec 20 n) ?_ (fun s hs => hfin n false s (by omega) (fun _ => by omega) (by simpa using hs) (by simp [PIB.ans]; omega))
    refine EvP.neg h ?_
    rw [hn, u64w (by omega) (by omega)]
    refine EvP.bind (PIB.digits_f n (by omega)) ?_
    rintro r rfl
    exact EvP.ret _ (ints_strOfNums (PIB.dec_bytes n))

end Go.Proofs.YtikdecjojfmjaabDoor.Pure
