/- Plain law of the reference's reader of JSON texts (printed functions of law PFnJpStringPlace): it ends at every text, and what it takes for a value is one by RFC 8259's grammar, told by places. -/
import Derived.Test.YtkdpkenhhcgnbaaDoorPFnJpStringPlacex7
import Derived.Test.YtkdpkenhhcgnbaaDoorStr
set_option linter.unusedVariables false
namespace Go.Proofs.YtkdpkenhhcgnbaaDoor.PFnJpStringPlace.Rd
open Go.RowKit Go.Proofs.YtkdpkenhhcgnbaaDoor.PFnJpStringPlace Go.Proofs.YtkdpkenhhcgnbaaDoorW.PrintWords Go.Proofs.YtkdpkenhhcgnbaaDoorW.PrintLast Go.Proofs.YtkdpkenhhcgnbaaDoor.EvL Go.Proofs.YtkdpkenhhcgnbaaDoor.StrL

def blank (c : Int) : Prop := c = 32 ∨ c = 9 ∨ c = 10 ∨ c = 13
def digit (c : Int) : Prop := 48 ≤ c ∧ c ≤ 57
def hexd (c : Int) : Prop := (48 ≤ c ∧ c ≤ 57) ∨ (97 ≤ c ∧ c ≤ 102) ∨ (65 ≤ c ∧ c ≤ 70)
def short (c : Int) : Prop := c = 34 ∨ c = 92 ∨ c = 47 ∨ c = 98 ∨ c = 102 ∨ c = 110 ∨ c = 114 ∨ c = 116
instance (c : Int) : Decidable (blank c) := by unfold blank; infer_instance
instance (c : Int) : Decidable (digit c) := by unfold digit; infer_instance
instance (c : Int) : Decidable (hexd c) := by unfold hexd; infer_instance
instance (c : Int) : Decidable (short c) := by unfold short; infer_instance

/-- Blanks from a to b. -/
def Ws (s : ByteArray) (a b : Int) : Prop := a ≤ b ∧ b ≤ s.size ∧ ∀ i, a ≤ i → i < b → blank (bt s i)
/-- Digits from a to b, one at least. -/
def Digs (s : ByteArray) (a b : Int) : Prop := a < b ∧ b ≤ s.size ∧ ∀ i, a ≤ i → i < b → digit (bt s i)

/-- The inside of a string from a on, up to behind its closing mark at e. -/
inductive Body (s : ByteArray) : Int → Int → Prop
  | close (a : Int) (h : a < s.size) (hc : bt s a = 34) : Body s a (a + 1)
  | plain (a e : Int) (h : a < s.size) (h1 : bt s a ≠ 34) (h2 : bt s a ≠ 92) (h3 : 32 ≤ bt s a) (ht : Body s (a + 1) e) : Body s a e
  | esc (a e : Int) (h : a + 1 < s.size) (h1 : bt s a = 92) (h2 : short (bt s (a + 1))) (ht : Body s (a + 2) e) : Body s a e
  | uni (a e : Int) (h : a + 5 < s.size) (h1 : bt s a = 92) (h2 : bt s (a + 1) = 117) (hx : ∀ i, a + 2 ≤ i → i < a + 6 → hexd (bt s i)) (ht : Body s (a + 6) e) : Body s a e

theorem Body.range {s : ByteArray} {a e : Int} (h : Body s a e) : a < e ∧ e ≤ s.size := by
  induction h with
  | close => omega
  | plain => omega
  | esc => omega
  | uni => omega

def StrAt (s : ByteArray) (b e : Int) : Prop := 0 ≤ b ∧ bt s b = 34 ∧ Body s (b + 1) e

theorem StrAt.range {s : ByteArray} {b e : Int} (h : StrAt s b e) : b + 1 < e ∧ e ≤ s.size := h.2.2.range

def Frac (s : ByteArray) (a b : Int) : Prop := (a = b ∧ bt s a ≠ 46) ∨ (bt s a = 46 ∧ Digs s (a + 1) b)
def Expo (s : ByteArray) (a b : Int) : Prop := (a = b ∧ bt s a ≠ 101 ∧ bt s a ≠ 69) ∨ ((bt s a = 101 ∨ bt s a = 69) ∧ ((bt s (a + 1) = 43 ∨ bt s (a + 1) = 45) ∧ Digs s (a + 2) b ∨ bt s (a + 1) ≠ 43 ∧ bt s (a + 1) ≠ 45 ∧ Digs s (a + 1) b) ∧ ¬ digit (bt s b))
def Whole (s : ByteArray) (a b : Int) : Prop := (bt s a = 48 ∧ b = a + 1) ∨ (bt s a ≠ 48 ∧ Digs s a b ∧ ¬ digit (bt s b))
/-- A number from b to e. -/
def NumAt (s : ByteArray) (b e : Int) : Prop := 0 ≤ b ∧ e ≤ s.size ∧ ∃ i f : Int, (bt s b = 45 ∧ Whole s (b + 1) i ∨ bt s b ≠ 45 ∧ Whole s b i) ∧ Frac s i f ∧ (f = i ∨ ¬ digit (bt s f)) ∧ Expo s f e
def WordAt (s : ByteArray) (b e : Int) (w : List Int) : Prop := 0 ≤ b ∧ e = b + w.length ∧ e ≤ s.size ∧ ((ints s).drop b.toNat).take w.length = w

/-- Members from the first name on (at a), up to behind the closing brace. -/
inductive Mems (s : ByteArray) (V : S25 → Prop) : Int → Int → List S30 → List S25 → Prop
  | last (a n c d : Int) (v : S25) (hn : StrAt s a n) (hw1 : Ws s n c) (hc : bt s c = 58) (hw2 : Ws s (c + 1) v.f1) (hv : V v) (hw3 : Ws s v.f2 d) (hd : bt s d = 125) : Mems s V a (d + 1) [⟨a, n⟩] [v]
  | more (a n c d a2 e : Int) (v : S25) (ns : List S30) (ks : List S25) (hn : StrAt s a n) (hw1 : Ws s n c) (hc : bt s c = 58) (hw2 : Ws s (c + 1) v.f1) (hv : V v) (hw3 : Ws s v.f2 d) (hd : bt s d = 44) (hw4 : Ws s (d + 1) a2) (ht : Mems s V a2 e ns ks) : Mems s V a e (⟨a, n⟩ :: ns) (v :: ks)
inductive Elems (s : ByteArray) (V : S25 → Prop) : Int → Int → List S25 → Prop
  | last (d : Int) (v : S25) (hv : V v) (hw : Ws s v.f2 d) (hd : bt s d = 93) : Elems s V v.f1 (d + 1) [v]
  | more (d a2 e : Int) (v : S25) (ks : List S25) (hv : V v) (hw : Ws s v.f2 d) (hd : bt s d = 44) (hw2 : Ws s (d + 1) a2) (ht : Elems s V a2 e ks) : Elems s V v.f1 e (v :: ks)

def Obj (s : ByteArray) (V : S25 → Prop) (b e : Int) (ns : List S30) (ks : List S25) : Prop :=
  bt s b = 123 ∧ ∃ a, Ws s (b + 1) a ∧ ((bt s a = 125 ∧ e = a + 1 ∧ ns = [] ∧ ks = []) ∨ Mems s V a e ns ks)
def Arr (s : ByteArray) (V : S25 → Prop) (b e : Int) (ks : List S25) : Prop :=
  bt s b = 91 ∧ ∃ a, Ws s (b + 1) a ∧ ((bt s a = 93 ∧ e = a + 1 ∧ ks = []) ∨ Elems s V a e ks)

/-- A value with its place, at most n levels of brackets deep. -/
def ValN (s : ByteArray) : Nat → S25 → Prop
  | 0, _ => False
  | n + 1, v => 0 ≤ v.f1 ∧ ((v.f0 = 6 ∧ Obj s (ValN s n) v.f1 v.f2 v.f3 v.f4) ∨ (v.f0 = 5 ∧ v.f3 = [] ∧ Arr s (ValN s n) v.f1 v.f2 v.f4) ∨
      (v.f3 = [] ∧ v.f4 = [] ∧ ((v.f0 = 4 ∧ StrAt s v.f1 v.f2) ∨ (v.f0 = 3 ∧ NumAt s v.f1 v.f2) ∨
        (v.f0 = 0 ∧ WordAt s v.f1 v.f2 [110, 117, 108, 108]) ∨ (v.f0 = 1 ∧ WordAt s v.f1 v.f2 [102, 97, 108, 115, 101]) ∨ (v.f0 = 2 ∧ WordAt s v.f1 v.f2 [116, 114, 117, 101]))))

theorem Mems.mono {s : ByteArray} {V V' : S25 → Prop} (hV : ∀ v, V v → V' v) {a e : Int} {ns : List S30} {ks : List S25} (h : Mems s V a e ns ks) : Mems s V' a e ns ks := by
  induction h with
  | last a n c d v hn hw1 hc hw2 hv hw3 hd => exact .last a n c d v hn hw1 hc hw2 (hV v hv) hw3 hd
  | more a n c d a2 e v ns ks hn hw1 hc hw2 hv hw3 hd hw4 _ ih => exact .more a n c d a2 e v ns ks hn hw1 hc hw2 (hV v hv) hw3 hd hw4 ih
theorem Elems.mono {s : ByteArray} {V V' : S25 → Prop} (hV : ∀ v, V v → V' v) {a e : Int} {ks : List S25} (h : Elems s V a e ks) : Elems s V' a e ks := by
  induction h with
  | last d v hv hw hd => exact .last d v (hV v hv) hw hd
  | more d a2 e v ks hv hw hd hw2 _ ih => exact .more d a2 e v ks (hV v hv) hw hd hw2 ih

theorem ValN.up {s : ByteArray} : ∀ (n : Nat) (v : S25), ValN s n v → ValN s (n + 1) v := by
  intro n
  induction n with
  | zero => intro v h; exact h.elim
  | succ n ih =>
    intro v h
    simp only [ValN] at h ⊢
    obtain ⟨h0, h⟩ := h
    refine ⟨h0, ?_⟩
    rcases h with ⟨hk, hb, a, hw, h⟩ | ⟨hk, h3, hb, a, hw, h⟩ | h
    · refine .inl ⟨hk, hb, a, hw, ?_⟩
      rcases h with h | h
      · exact .inl h
      · exact .inr (h.mono ih)
    · refine .inr (.inl ⟨hk, h3, hb, a, hw, ?_⟩)
      rcases h with h | h
      · exact .inl h
      · exact .inr (h.mono ih)
    · exact .inr (.inr h)
theorem ValN.le {s : ByteArray} {n m : Nat} (hnm : n ≤ m) {v : S25} (h : ValN s n v) : ValN s m v := by
  induction hnm with
  | refl => exact h
  | step _ ih => exact ValN.up _ _ ih

/-! ### The parts -/
theorem here_eq (s : ByteArray) (a : Int) (h : 0 ≤ a) : spec_reader_here.f s a = some (bt s a, s, a) := by
  unfold spec_reader_here.f
  by_cases h1 : a < (s.size : Int)
  · rw [if_pos h1, if_pos h]
  · rw [if_neg h1]
    have : bt s a = 0 := by unfold bt; rw [dif_neg (by omega)]
    rw [this]

theorem bt_end {s : ByteArray} {a : Int} (h : bt s a ≠ 0) : a < s.size := by
  by_cases h1 : a.toNat < s.size
  · omega
  · exact absurd (by unfold bt; rw [dif_neg h1]) h

theorem take_eq (s : ByteArray) (a c : Int) (h : 0 ≤ a) (hn : s.size ≤ 2147483647) (hc : c ≠ 0) : spec_reader_take.f s a c = some (decide (bt s a = c), s, if bt s a = c then a + 1 else a) := by
  unfold spec_reader_take.f
  by_cases h1 : a < (s.size : Int)
  · rw [if_pos h1, if_pos h, w64 (by omega) (by omega)]
    by_cases h2 : bt s a = c
    · rw [if_pos h2, if_pos h2]; simp [h2]
    · rw [if_neg h2, if_neg h2]; simp [h2]
  · rw [if_neg h1]
    have h2 : ¬ bt s a = c := fun e => h1 (bt_end (by rw [e]; exact hc))
    rw [if_neg h2]; simp [h2]

theorem blank_f (c : Int) : spec_Blank.f c = some (decide (blank c)) := by
  unfold spec_Blank.f blank
  by_cases h1 : c = 32
  · simp [h1]
  · by_cases h2 : c = 9
    · simp [h2]
    · by_cases h3 : c = 10
      · simp [h3]
      · rw [if_neg h1, if_neg h2, if_neg h3]; simp [h1, h2, h3]; rw [Bool.eq_iff_iff]; simp

theorem blanks_any (s : ByteArray) (hn : s.size ≤ 2147483647) (d : Nat) : ∀ a : Int, 0 ≤ a → a ≤ s.size → (s.size : Int) - a = d →
    EvP (fun k => spec_reader_blanks.l0 k s a) (fun r => ∃ b, r = (s, b) ∧ Ws s a b ∧ ¬ blank (bt s b)) := by
  induction d with
  | zero =>
    intro a h0 h1 hd
    refine EvP.succ ?_
    simp only [spec_reader_blanks.l0]
    refine EvP.neg (by omega) (EvP.ret _ ⟨a, rfl, ⟨by omega, by omega, fun i _ _ => by omega⟩, ?_⟩)
    intro hb
    have : a < s.size := bt_end (by rcases hb with h | h | h | h <;> omega)
    omega
  | succ d ih =>
    intro a h0 h1 hd
    refine EvP.succ ?_
    simp only [spec_reader_blanks.l0, blank_f, Option.bind_some]
    refine EvP.pos (by omega) (EvP.pos h0 ?_)
    refine EvP.ite (fun h => ?_) (fun h => ?_)
    · rw [w64 (by omega) (by omega)]
      refine (ih (a + 1) (by omega) (by omega) (by omega)).mono ?_
      rintro r ⟨b, rfl, ⟨hw1, hw2, hw3⟩, hb⟩
      refine ⟨b, rfl, ⟨by omega, hw2, fun i hi1 hi2 => ?_⟩, hb⟩
      by_cases e : i = a
      · rw [e]; exact of_decide_eq_true h
      · exact hw3 i (by omega) hi2
    · exact EvP.ret _ ⟨a, rfl, ⟨by omega, by omega, fun i _ _ => by omega⟩, fun hb => h (decide_eq_true hb)⟩

theorem blanks_f (s : ByteArray) (hn : s.size ≤ 2147483647) (a : Int) (h0 : 0 ≤ a) (h1 : a ≤ s.size) :
    EvP (fun k => spec_reader_blanks.f k s a) (fun r => ∃ b, r = (s, b) ∧ Ws s a b ∧ ¬ blank (bt s b)) :=
  blanks_any s hn ((s.size : Int) - a).toNat a h0 h1 (by omega)

theorem digits_any (s : ByteArray) (hn : s.size ≤ 2147483647) (b : Int) (d : Nat) : ∀ a : Int, 0 ≤ b → b ≤ a → a ≤ s.size → (s.size : Int) - a = d → (∀ i, b ≤ i → i < a → digit (bt s i)) →
    EvP (fun k => spec_reader_digits.l0 k b (bt s a) s a) (fun r => ∃ e, r = (decide (b < e), s, e) ∧ b ≤ e ∧ e ≤ s.size ∧ (∀ i, b ≤ i → i < e → digit (bt s i)) ∧ ¬ digit (bt s e)) := by
  induction d with
  | zero =>
    intro a h0 hba h1 hd hin
    have hnd : ¬ digit (bt s a) := fun h => by
      have : a < s.size := bt_end (by unfold digit at h; omega)
      omega
    have hend : ∀ k' : Nat, EvP (fun _ => some (decide (a > b), s, a)) (fun r => ∃ e, r = (decide (b < e), s, e) ∧ b ≤ e ∧ e ≤ s.size ∧ (∀ i, b ≤ i → i < e → digit (bt s i)) ∧ ¬ digit (bt s e)) := fun _ => EvP.ret _ ⟨a, rfl, hba, h1, hin, hnd⟩
    refine EvP.succ ?_
    simp only [spec_reader_digits.l0]
    refine EvP.ite (fun hx => EvP.neg (fun hy => hnd ⟨hx, hy⟩) (hend 0)) (fun _ => hend 0)
  | succ d ih =>
    intro a h0 hba h1 hd hin
    refine EvP.succ ?_
    simp only [spec_reader_digits.l0]
    rw [w64 (by omega) (by omega)]
    refine EvP.ite (fun hx => EvP.ite (fun hy => ?_) (fun hy => ?_)) (fun hx => ?_)
    · rw [here_eq s (a + 1) (by omega)]
      simp only [Option.bind_some]
      refine ih (a + 1) h0 (by omega) (by omega) (by omega) (fun i hi1 hi2 => ?_)
      by_cases e : i = a
      · rw [e]; exact ⟨hx, hy⟩
      · exact hin i hi1 (by omega)
    · exact EvP.ret _ ⟨a, rfl, hba, h1, hin, fun h => hy h.2⟩
    · exact EvP.ret _ ⟨a, rfl, hba, h1, hin, fun h => hx h.1⟩

theorem digits_f (s : ByteArray) (hn : s.size ≤ 2147483647) (a : Int) (h0 : 0 ≤ a) (h1 : a ≤ s.size) :
    EvP (fun k => spec_reader_digits.f k s a) (fun r => ∃ e, r = (decide (a < e), s, e) ∧ a ≤ e ∧ e ≤ s.size ∧ (∀ i, a ≤ i → i < e → digit (bt s i)) ∧ ¬ digit (bt s e)) := by
  unfold spec_reader_digits.f
  rw [here_eq s a h0]
  simp only [Option.bind_some]
  exact digits_any s hn a ((s.size : Int) - a).toNat a h0 (Int.le_refl _) h1 (by omega) (fun i _ _ => by omega)

theorem hex_f (c : Int) (h0 : 0 ≤ c) (h1 : c ≤ 255) : EvP (fun k => spec_hexDigit.f k c) (fun r => r.2 = decide (hexd c)) := by
  have hj1 : ∀ b : Bool, (b = decide (97 ≤ c ∧ c ≤ 102)) → ¬ (48 ≤ c ∧ c ≤ 57) → EvP (fun k => spec_hexDigit.j1 k c b) (fun r => r.2 = decide (hexd c)) := by
    intro b hb hn
    refine EvP.succ ?_
    simp only [spec_hexDigit.j1]
    refine EvP.ite (fun h => EvP.ret _ ?_) (fun h => EvP.ite (fun h2 => EvP.ite (fun h3 => EvP.ret _ ?_) (fun h3 => EvP.ret _ ?_)) (fun h2 => EvP.ret _ ?_))
    · rw [h] at hb; have := of_decide_eq_true hb.symm; exact (decide_eq_true (.inr (.inl this))).symm
    · exact (decide_eq_true (.inr (.inr ⟨h2, h3⟩))).symm
    · rw [Bool.not_eq_true] at h; rw [h] at hb; have := of_decide_eq_false hb.symm
      exact (decide_eq_false (by unfold hexd; omega)).symm
    · rw [Bool.not_eq_true] at h; rw [h] at hb; have := of_decide_eq_false hb.symm
      exact (decide_eq_false (by unfold hexd; omega)).symm
  have hj0 : ∀ b : Bool, (b = decide (48 ≤ c ∧ c ≤ 57)) → EvP (fun k => spec_hexDigit.j0 k c b) (fun r => r.2 = decide (hexd c)) := by
    intro b hb
    refine EvP.succ ?_
    simp only [spec_hexDigit.j0]
    refine EvP.ite (fun h => EvP.ret _ ?_) (fun h => ?_)
    · rw [h] at hb; have := of_decide_eq_true hb.symm; exact (decide_eq_true (.inl this)).symm
    · rw [Bool.not_eq_true] at h; rw [h] at hb; have hn := of_decide_eq_false hb.symm
      refine EvP.ite (fun h2 => hj1 _ ?_ hn) (fun h2 => hj1 _ ?_ hn)
      · rw [decide_eq_decide]; exact ⟨fun h => ⟨h2, h⟩, fun h => h.2⟩
      · exact (decide_eq_false (fun h => h2 h.1)).symm
  unfold spec_hexDigit.f
  refine EvP.ite (fun h2 => hj0 _ ?_) (fun h2 => hj0 _ ?_)
  · rw [decide_eq_decide]; exact ⟨fun h => ⟨h2, h⟩, fun h => h.2⟩
  · exact (decide_eq_false (fun h => h2 h.1)).symm

/-- The part behind a backslash: how far it goes, and whether it is an escape. -/
def EscTo (s : ByteArray) (a : Int) (ok : Bool) (b : Int) : Prop :=
  a ≤ b ∧ b ≤ s.size ∧ (ok = true → (short (bt s a) ∧ b = a + 1) ∨ (bt s a = 117 ∧ b = a + 5 ∧ ∀ i, a + 1 ≤ i → i < a + 5 → hexd (bt s i))) ∧ (ok = false → ¬ short (bt s a) ∧ ¬ (bt s a = 117 ∧ a + 4 < s.size ∧ ∀ i, a + 1 ≤ i → i < a + 5 → hexd (bt s i)))

theorem escape_hex (s : ByteArray) (hn : s.size ≤ 2147483647) (a : Int) (h0 : 0 ≤ a) (hu : bt s a = 117) (d : Nat) : ∀ x : Int, 0 ≤ x → x ≤ 4 → 4 - x = d → a + 1 + x ≤ s.size → (∀ i, a + 1 ≤ i → i < a + 1 + x → hexd (bt s i)) →
    EvP (fun k => spec_reader_escape.l0 k x s (a + 1 + x)) (fun r => ∃ ok b, r = (ok, s, b) ∧ EscTo s a ok b) := by
  have hns : ¬ short (bt s a) := by rw [hu]; unfold short; omega
  induction d with
  | zero =>
    intro x hx0 hx4 hd hsz hin
    obtain rfl : x = 4 := by omega
    refine EvP.succ ?_
    simp only [spec_reader_escape.l0]
    refine EvP.neg (by omega) (EvP.ret _ ⟨true, _, rfl, by omega, hsz, fun _ => .inr ⟨hu, by omega, fun i h1 h2 => hin i h1 (by omega)⟩, (fun h => by cases h)⟩)
  | succ d ih =>
    intro x hx0 hx4 hd hsz hin
    refine EvP.succ ?_
    simp only [spec_reader_escape.l0]
    rw [here_eq s (a + 1 + x) (by omega)]
    simp only [Option.bind_some]
    refine EvP.pos (by omega) ?_
    have hr := bt_range s (a + 1 + x)
    refine EvP.bind (hex_f (bt s (a + 1 + x)) hr.1 hr.2) ?_
    intro q hq
    rw [hq]
    refine EvP.ite (fun h => ?_) (fun h => ?_)
    · have hh : hexd (bt s (a + 1 + x)) := of_decide_eq_true h
      have hlt : a + 1 + x < s.size := bt_end (by unfold hexd at hh; omega)
      rw [w64 (x := x + 1) (by omega) (by omega), w64 (x := a + 1 + x + 1) (by omega) (by omega)]
      have := ih (x + 1) (by omega) (by omega) (by omega) (by omega) (fun i h1 h2 => by
        by_cases e : i = a + 1 + x
        · rw [e]; exact hh
        · exact hin i h1 (by omega))
      rw [show a + 1 + (x + 1) = a + 1 + x + 1 from by omega] at this
      exact this
    · refine EvP.ret _ ⟨false, _, rfl, by omega, hsz, (fun h => by cases h), fun _ => ⟨hns, fun h2 => ?_⟩⟩
      exact h (decide_eq_true (h2.2.2 _ (by omega) (by omega)))

theorem escape_f (s : ByteArray) (hn : s.size ≤ 2147483647) (a : Int) (h0 : 0 ≤ a) (h1 : a ≤ s.size) :
    EvP (fun k => spec_reader_escape.f k s a) (fun r => ∃ ok b, r = (ok, s, b) ∧ EscTo s a ok b) := by
  have hj : ∀ b : Bool, b = decide (short (bt s a)) → EvP (fun k => spec_reader_escape.j0 k (bt s a) b s a) (fun r => ∃ ok b, r = (ok, s, b) ∧ EscTo s a ok b) := by
    intro b hb
    refine EvP.succ ?_
    simp only [spec_reader_escape.j0]
    refine EvP.ite (fun h => ?_) (fun h => EvP.ite (fun h2 => ?_) (fun h2 => ?_))
    · rw [h] at hb
      have hs : short (bt s a) := of_decide_eq_true hb.symm
      have hlt : a < s.size := bt_end (by unfold short at hs; omega)
      rw [w64 (by omega) (by omega)]
      exact EvP.ret _ ⟨true, _, rfl, by omega, by omega, fun _ => .inl ⟨hs, rfl⟩, (fun h => by cases h)⟩
    · have hlt : a < s.size := bt_end (by omega)
      rw [w64 (by omega) (by omega)]
      have := escape_hex s hn a h0 h2 4 0 (by omega) (by omega) (by omega) (by omega) (fun i _ _ => by omega)
      rw [show a + 1 + (0 : Int) = a + 1 from by omega] at this
      exact this
    · rw [Bool.not_eq_true] at h; rw [h] at hb
      exact EvP.ret _ ⟨false, _, rfl, by omega, h1, (fun h => by cases h), fun _ => ⟨of_decide_eq_false hb.symm, fun h3 => h2 h3.1⟩⟩
  unfold spec_reader_escape.f
  rw [here_eq s a h0]
  simp only [Option.bind_some]
  refine EvP.ite (fun h => hj _ ?_) (fun n1 => EvP.ite (fun h => hj _ ?_) (fun n2 => EvP.ite (fun h => hj _ ?_) (fun n3 => EvP.ite (fun h => hj _ ?_) (fun n4 => EvP.ite (fun h => hj _ ?_) (fun n5 => EvP.ite (fun h => hj _ ?_) (fun n6 => EvP.ite (fun h => hj _ ?_) (fun n7 => hj _ ?_)))))))
  all_goals (rw [Bool.eq_iff_iff, beq_iff_eq, decide_eq_true_iff]; unfold short; omega)

theorem quoted_any (s : ByteArray) (hn : s.size ≤ 2147483647) (d : Nat) : ∀ a : Int, 0 ≤ a → a ≤ s.size → (s.size : Int) - a < d →
    EvP (fun k => spec_reader_quoted.l0 k s a) (fun r => ∃ ok e, r = (ok, s, e) ∧ a ≤ e ∧ e ≤ s.size ∧ (ok = true → Body s a e) ∧ (ok = false → ∀ e', ¬ Body s a e')) := by
  induction d with
  | zero => intro a h0 h1 hd; omega
  | succ d ih =>
    intro a h0 h1 hd
    refine EvP.succ ?_
    simp only [spec_reader_quoted.l0]
    refine EvP.ite (fun hlt => EvP.pos h0 ?_) (fun hlt => ?_)
    · rw [w64 (by omega) (by omega)]
      refine EvP.ite (fun hc => ?_) (fun hc => EvP.ite (fun hctl => ?_) (fun hctl => EvP.ite (fun hb => ?_) (fun hb => ?_)))
      · exact EvP.ret _ ⟨true, _, rfl, by omega, by omega, fun _ => .close a hlt hc, (fun h => by cases h)⟩
      · refine EvP.ret _ ⟨false, _, rfl, by omega, by omega, (fun h => by cases h), fun _ e' hB => ?_⟩
        cases hB <;> omega
      · refine EvP.bind (escape_f s hn (a + 1) (by omega) (by omega)) ?_
        rintro r ⟨ok, b, rfl, hb1, hb2, hok, hno⟩
        dsimp only
        refine EvP.ite (fun h => ?_) (fun h => ?_)
        · have hok := hok h
          refine (ih b (by omega) hb2 (by omega)).mono ?_
          rintro r ⟨ok2, e, rfl, he1, he2, hB, hnB⟩
          refine ⟨ok2, e, rfl, by omega, he2, fun h2 => ?_, fun h2 e' hB' => ?_⟩
          · rcases hok with ⟨hs, rfl⟩ | ⟨hu, rfl, hx⟩
            · have hlt2 : a + 1 < s.size := bt_end (by unfold short at hs; omega)
              exact .esc a e hlt2 hb hs (by rw [show a + 2 = a + 1 + 1 from by omega]; exact hB h2)
            · exact .uni a e (by omega) hb hu (fun i h3 h4 => hx i (by omega) (by omega)) (by rw [show a + 6 = a + 1 + 5 from by omega]; exact hB h2)
          · refine hnB h2 e' ?_
            rcases hok with ⟨hs, rfl⟩ | ⟨hu, rfl, hx⟩
            · cases hB' with
              | close => omega
              | plain => omega
              | esc _ _ _ _ _ ht => rw [show a + 1 + 1 = a + 2 from by omega]; exact ht
              | uni _ _ _ _ h2 _ _ => rw [h2] at hs; unfold short at hs; omega
            · cases hB' with
              | close => omega
              | plain => omega
              | esc _ _ _ _ h3 _ => rw [hu] at h3; unfold short at h3; omega
              | uni _ _ _ _ _ _ ht => rw [show a + 1 + 5 = a + 6 from by omega]; exact ht
        · rw [Bool.not_eq_true] at h
          obtain ⟨hn1, hn2⟩ := hno h
          refine EvP.ret _ ⟨false, _, rfl, by omega, hb2, (fun h => by cases h), fun _ e' hB => ?_⟩
          cases hB with
          | close => omega
          | plain => omega
          | esc _ _ _ _ h3 _ => exact hn1 h3
          | uni _ _ h5 _ h3 h4 _ => exact hn2 ⟨h3, by omega, fun i hi1 hi2 => h4 i (by omega) (by omega)⟩
      · refine (ih (a + 1) (by omega) (by omega) (by omega)).mono ?_
        rintro r ⟨ok, e, rfl, he1, he2, hB, hnB⟩
        refine ⟨ok, e, rfl, by omega, he2, fun h => .plain a e hlt hc hb (by omega) (hB h), fun h e' hB' => ?_⟩
        cases hB' with
        | close => omega
        | plain _ _ _ _ _ _ ht => exact hnB h e' ht
        | esc => omega
        | uni => omega
    · refine EvP.ret _ ⟨false, _, rfl, by omega, h1, (fun h => by cases h), fun _ e' hB => ?_⟩
      cases hB <;> omega

theorem quoted_f (s : ByteArray) (hn : s.size ≤ 2147483647) (a : Int) (h0 : 0 ≤ a) (h1 : a < s.size) (hq : bt s a = 34) :
    EvP (fun k => spec_reader_quoted.f k s a) (fun r => ∃ ok e, r = (ok, s, e) ∧ a < e ∧ e ≤ s.size ∧ (ok = true → StrAt s a e) ∧ (ok = false → ∀ e', ¬ StrAt s a e')) := by
  unfold spec_reader_quoted.f
  rw [w64 (by omega) (by omega)]
  refine (quoted_any s hn (s.size + 1) (a + 1) (by omega) (by omega) (by omega)).mono ?_
  rintro r ⟨ok, e, rfl, he1, he2, hB, hnB⟩
  exact ⟨ok, e, rfl, by omega, he2, fun h => ⟨h0, hq, hB h⟩, fun h e' hS => hnB h e' hS.2.2⟩


theorem Whole.range {s : ByteArray} {a b : Int} (h : Whole s a b) : a < b ∧ b ≤ s.size := by
  rcases h with ⟨h, rfl⟩ | ⟨_, h, _⟩
  · have : a < s.size := bt_end (by omega)
    omega
  · exact ⟨h.1, h.2.1⟩
theorem Frac.range {s : ByteArray} {a b : Int} (h : Frac s a b) (ha : a ≤ s.size) : a ≤ b ∧ b ≤ s.size := by
  rcases h with ⟨rfl, _⟩ | ⟨_, h, h2, _⟩ <;> omega
theorem Expo.range {s : ByteArray} {a b : Int} (h : Expo s a b) (ha : a ≤ s.size) : a ≤ b ∧ b ≤ s.size := by
  rcases h with ⟨rfl, _⟩ | ⟨_, ⟨_, h, h2, _⟩ | ⟨_, _, h, h2, _⟩, _⟩ <;> omega
theorem NumAt.range {s : ByteArray} {b e : Int} (h : NumAt s b e) : b < e ∧ e ≤ s.size := by
  obtain ⟨h0, he, i, f, hw, hf, _, hx⟩ := h
  have hi : b < i ∧ i ≤ s.size := by
    rcases hw with ⟨_, hw⟩ | ⟨_, hw⟩
    · have := hw.range; omega
    · exact hw.range
  have := hf.range hi.2
  have := hx.range this.2
  omega
theorem WordAt.range {s : ByteArray} {b e : Int} {w : List Int} (h : WordAt s b e w) : b + w.length = e ∧ e ≤ s.size := ⟨h.2.1.symm, h.2.2.1⟩

theorem number_j2 (s : ByteArray) (hn : s.size ≤ 2147483647) (a : Int) (h0 : 0 ≤ a) (h1 : a ≤ s.size) :
    EvP (fun k => spec_reader_number.j2 k true s a) (fun r => ∃ ok e, r = (ok, s, e) ∧ a ≤ e ∧ e ≤ s.size ∧ (ok = true → ((bt s a = 43 ∨ bt s a = 45) ∧ Digs s (a + 1) e ∨ bt s a ≠ 43 ∧ bt s a ≠ 45 ∧ Digs s a e) ∧ ¬ digit (bt s e))) := by
  refine EvP.succ ?_
  simp only [spec_reader_number.j2, take_eq s a 43 h0 hn (by omega), Option.bind_some, if_true]
  have hdig : ∀ b : Int, 0 ≤ b → b ≤ s.size → (bt s a = 43 ∨ bt s a = 45) ∧ b = a + 1 ∨ bt s a ≠ 43 ∧ bt s a ≠ 45 ∧ b = a →
      EvP (fun k => (spec_reader_digits.f k s b).bind fun bt143 => some (bt143.1, bt143.2.1, bt143.2.2)) (fun r => ∃ ok e, r = (ok, s, e) ∧ a ≤ e ∧ e ≤ s.size ∧ (ok = true → ((bt s a = 43 ∨ bt s a = 45) ∧ Digs s (a + 1) e ∨ bt s a ≠ 43 ∧ bt s a ≠ 45 ∧ Digs s a e) ∧ ¬ digit (bt s e))) := by
    intro b hb0 hb1 hb
    refine EvP.bind (digits_f s hn b hb0 hb1) ?_
    rintro r ⟨e, rfl, he1, he2, hd, hnd⟩
    refine EvP.ret _ ⟨_, e, rfl, by omega, he2, fun h => ⟨?_, hnd⟩⟩
    have hlt := of_decide_eq_true h
    rcases hb with ⟨h2, rfl⟩ | ⟨h2, h3, rfl⟩
    · exact .inl ⟨h2, hlt, he2, hd⟩
    · exact .inr ⟨h2, h3, hlt, he2, hd⟩
  refine EvP.ite (fun h => ?_) (fun h => ?_)
  · have h := of_decide_eq_true h
    have hlt : a < s.size := bt_end (by omega)
    rw [if_pos h]
    exact hdig (a + 1) (by omega) (by omega) (.inl ⟨.inl h, rfl⟩)
  · have h : ¬ bt s a = 43 := fun e => h (decide_eq_true e)
    rw [if_neg h, take_eq s a 45 h0 hn (by omega)]
    simp only [Option.bind_some]
    by_cases h2 : bt s a = 45
    · have hlt : a < s.size := bt_end (by omega)
      rw [if_pos h2]
      exact hdig (a + 1) (by omega) (by omega) (.inl ⟨.inr h2, rfl⟩)
    · rw [if_neg h2]
      exact hdig a h0 h1 (.inr ⟨h, h2, rfl⟩)

theorem number_j1 (s : ByteArray) (hn : s.size ≤ 2147483647) (a : Int) (h0 : 0 ≤ a) (h1 : a ≤ s.size) (bad : Bool) :
    EvP (fun k => spec_reader_number.j1 k bad s a) (fun r => ∃ ok e, r = (ok, s, e) ∧ a ≤ e ∧ e ≤ s.size ∧ (ok = true → bad = false ∧ Expo s a e)) := by
  refine EvP.succ ?_
  simp only [spec_reader_number.j1, take_eq s a 101 h0 hn (by omega), Option.bind_some]
  refine EvP.ite (fun _ => EvP.ret _ ⟨false, a, rfl, by omega, h1, (fun h => by cases h)⟩) (fun hb => ?_)
  have hb : bad = false := by simpa using hb
  have hin : ∀ c : Int, bt s a = c → (c = 101 ∨ c = 69) → EvP (fun k => spec_reader_number.j2 k true s (a + 1)) (fun r => ∃ ok e, r = (ok, s, e) ∧ a ≤ e ∧ e ≤ s.size ∧ (ok = true → bad = false ∧ Expo s a e)) := by
    intro c hc hc2
    have hlt : a < s.size := bt_end (by omega)
    refine (number_j2 s hn (a + 1) (by omega) (by omega)).mono ?_
    rintro r ⟨ok, e, rfl, he1, he2, hok⟩
    refine ⟨ok, e, rfl, by omega, he2, fun h => ⟨hb, .inr ⟨by omega, ?_, (hok h).2⟩⟩⟩
    rcases (hok h).1 with ⟨h3, h4⟩ | h3
    · exact .inl ⟨h3, by rw [show a + 2 = a + 1 + 1 from by omega]; exact h4⟩
    · exact .inr h3
  refine EvP.ite (fun h => ?_) (fun h => ?_)
  · have h := of_decide_eq_true h
    rw [if_pos h]
    exact hin 101 h (.inl rfl)
  · have h : ¬ bt s a = 101 := fun e => h (decide_eq_true e)
    rw [if_neg h, take_eq s a 69 h0 hn (by omega)]
    simp only [Option.bind_some]
    by_cases h2 : bt s a = 69
    · rw [if_pos h2, decide_eq_true h2]
      exact hin 69 h2 (.inr rfl)
    · rw [if_neg h2, decide_eq_false h2]
      refine EvP.succ ?_
      simp only [spec_reader_number.j2]
      exact EvP.neg (by simp) (EvP.ret _ ⟨true, a, rfl, by omega, h1, fun _ => ⟨hb, .inl ⟨rfl, h, h2⟩⟩⟩)

theorem number_j0 (s : ByteArray) (hn : s.size ≤ 2147483647) (a : Int) (h0 : 0 ≤ a) (h1 : a ≤ s.size) (bad : Bool) :
    EvP (fun k => spec_reader_number.j0 k bad s a) (fun r => ∃ ok e, r = (ok, s, e) ∧ a ≤ e ∧ e ≤ s.size ∧ (ok = true → bad = false ∧ ∃ f, Frac s a f ∧ (f = a ∨ ¬ digit (bt s f)) ∧ Expo s f e)) := by
  refine EvP.succ ?_
  simp only [spec_reader_number.j0, take_eq s a 46 h0 hn (by omega), Option.bind_some]
  refine EvP.ite (fun _ => EvP.ret _ ⟨false, a, rfl, by omega, h1, (fun h => by cases h)⟩) (fun hb => ?_)
  have hb : bad = false := by simpa using hb
  refine EvP.ite (fun h => ?_) (fun h => ?_)
  · have h := of_decide_eq_true h
    have hlt : a < s.size := bt_end (by omega)
    rw [if_pos h]
    refine EvP.bind (digits_f s hn (a + 1) (by omega) (by omega)) ?_
    rintro r ⟨f, rfl, hf1, hf2, hd, hnd⟩
    dsimp only
    refine (number_j1 s hn f (by omega) hf2 _).mono ?_
    rintro r ⟨ok, e, rfl, he1, he2, hok⟩
    refine ⟨ok, e, rfl, by omega, he2, fun h3 => ⟨hb, f, .inr ⟨h, ?_, hf2, hd⟩, .inr hnd, (hok h3).2⟩⟩
    have := (hok h3).1
    simpa using this
  · have h : ¬ bt s a = 46 := fun e => h (decide_eq_true e)
    rw [if_neg h]
    refine (number_j1 s hn a h0 h1 _).mono ?_
    rintro r ⟨ok, e, rfl, he1, he2, hok⟩
    exact ⟨ok, e, rfl, he1, he2, fun h3 => ⟨hb, a, .inl ⟨rfl, h⟩, .inl rfl, (hok h3).2⟩⟩

theorem number_f (s : ByteArray) (hn : s.size ≤ 2147483647) (a : Int) (h0 : 0 ≤ a) (h1 : a ≤ s.size) :
    EvP (fun k => spec_reader_number.f k s a) (fun r => ∃ ok e, r = (ok, s, e) ∧ a ≤ e ∧ e ≤ s.size ∧ (ok = true → NumAt s a e)) := by
  unfold spec_reader_number.f
  simp only [take_eq s a 45 h0 hn (by omega), Option.bind_some]
  have hgo : ∀ b : Int, 0 ≤ b → b ≤ s.size → (bt s a = 45 ∧ b = a + 1 ∨ bt s a ≠ 45 ∧ b = a) →
      EvP (fun k => (spec_reader_take.f s b 48).bind fun bt122 => (if bt122.1 = true then (spec_reader_number.j0 k false bt122.2.1 bt122.2.2) else ((spec_reader_digits.f k bt122.2.1 bt122.2.2).bind fun bt125 => (spec_reader_number.j0 k (!bt125.1) bt125.2.1 bt125.2.2)))) (fun r => ∃ ok e, r = (ok, s, e) ∧ a ≤ e ∧ e ≤ s.size ∧ (ok = true → NumAt s a e)) := by
    intro b hb0 hb1 hb
    simp only [take_eq s b 48 hb0 hn (by omega), Option.bind_some]
    have hwh : ∀ i f e : Int, Whole s b i → Frac s i f → (f = i ∨ ¬ digit (bt s f)) → Expo s f e → e ≤ s.size → NumAt s a e := by
      intro i f e hw hf hfi hx he
      refine ⟨h0, he, i, f, ?_, hf, hfi, hx⟩
      rcases hb with ⟨h, rfl⟩ | ⟨h, rfl⟩
      · exact .inl ⟨h, hw⟩
      · exact .inr ⟨h, hw⟩
    refine EvP.ite (fun h => ?_) (fun h => ?_)
    · have h := of_decide_eq_true h
      have hlt : b < s.size := bt_end (by omega)
      rw [if_pos h]
      refine (number_j0 s hn (b + 1) (by omega) (by omega) _).mono ?_
      rintro r ⟨ok, e, rfl, he1, he2, hok⟩
      refine ⟨ok, e, rfl, by omega, he2, fun h3 => ?_⟩
      obtain ⟨_, f, hf, hfi, hx⟩ := hok h3
      exact hwh (b + 1) f e (.inl ⟨h, rfl⟩) hf hfi hx he2
    · have h : ¬ bt s b = 48 := fun e => h (decide_eq_true e)
      rw [if_neg h]
      refine EvP.bind (digits_f s hn b hb0 hb1) ?_
      rintro r ⟨i, rfl, hi1, hi2, hd, hnd⟩
      dsimp only
      refine (number_j0 s hn i (by omega) hi2 _).mono ?_
      rintro r ⟨ok, e, rfl, he1, he2, hok⟩
      refine ⟨ok, e, rfl, by omega, he2, fun h3 => ?_⟩
      obtain ⟨hbad, f, hf, hfi, hx⟩ := hok h3
      have hlt : b < i := by simpa using hbad
      exact hwh i f e (.inr ⟨h, ⟨hlt, hi2, hd⟩, hnd⟩) hf hfi hx he2
  by_cases h : bt s a = 45
  · have hlt : a < s.size := bt_end (by omega)
    rw [if_pos h]
    exact hgo (a + 1) (by omega) (by omega) (.inl ⟨h, rfl⟩)
  · rw [if_neg h]
    exact hgo a h0 h1 (.inr ⟨h, rfl⟩)

theorem word_eq (s w : ByteArray) (a : Int) (h0 : 0 ≤ a) (h1 : a ≤ s.size) (hn : s.size ≤ 2147483647) (hw : w.size ≤ 100) :
    ∃ ok : Bool, spec_reader_word.f s a w = some (ok, s, if ok = true then a + w.size else a) ∧ (ok = true ↔ WordAt s a (a + w.size) (ints w)) := by
  unfold spec_reader_word.f
  rw [w64 (by omega) (by omega), w64 (by omega) (by omega)]
  by_cases h2 : (s.size : Int) - a < w.size
  · rw [if_pos h2]
    refine ⟨false, rfl, (fun h => by cases h), fun h => ?_⟩
    have := h.range
    omega
  · rw [if_neg h2, if_pos h0, if_pos (by omega), if_pos (by omega)]
    have he : ints (s.extract a.toNat (a + w.size).toNat) = ((ints s).drop a.toNat).take w.size := by
      rw [ints_extract]; congr 1; omega
    by_cases h3 : (s.extract a.toNat (a + w.size).toNat).toList = w.toList
    · rw [if_pos h3]
      refine ⟨true, rfl, fun _ => ⟨h0, by rw [ints_length], by omega, ?_⟩, fun _ => rfl⟩
      rw [toList_eq_iff, he] at h3
      rw [ints_length]; exact h3
    · rw [if_neg h3]
      refine ⟨false, rfl, (fun h => by cases h), fun h => ?_⟩
      refine absurd ?_ h3
      rw [toList_eq_iff, he]
      have := h.2.2.2
      rw [ints_length] at this; exact this

/-! ### Values -/
def ValE (s : ByteArray) (v : S25) : Prop := ∃ n, ValN s n v

theorem mems_level {s : ByteArray} {a e : Int} {ns : List S30} {ks : List S25} (h : Mems s (ValE s) a e ns ks) : ∃ n, Mems s (ValN s n) a e ns ks := by
  induction h with
  | last a n c d v hn hw1 hc hw2 hv hw3 hd => obtain ⟨m, hv⟩ := hv; exact ⟨m, .last a n c d v hn hw1 hc hw2 hv hw3 hd⟩
  | more a n c d a2 e v ns ks hn hw1 hc hw2 hv hw3 hd hw4 _ ih =>
    obtain ⟨m, hv⟩ := hv
    obtain ⟨m2, ih⟩ := ih
    exact ⟨max m m2, .more a n c d a2 e v ns ks hn hw1 hc hw2 (hv.le (by omega)) hw3 hd hw4 (ih.mono (fun v h => h.le (by omega)))⟩
theorem elems_level {s : ByteArray} {a e : Int} {ks : List S25} (h : Elems s (ValE s) a e ks) : ∃ n, Elems s (ValN s n) a e ks := by
  induction h with
  | last d v hv hw hd => obtain ⟨m, hv⟩ := hv; exact ⟨m, .last d v hv hw hd⟩
  | more d a2 e v ks hv hw hd hw2 _ ih =>
    obtain ⟨m, hv⟩ := hv
    obtain ⟨m2, ih⟩ := ih
    exact ⟨max m m2, .more d a2 e v ks (hv.le (by omega)) hw hd hw2 (ih.mono (fun v h => h.le (by omega)))⟩

theorem Mems.range {s : ByteArray} {V : S25 → Prop} (hV : ∀ v, V v → v.f1 < v.f2) {a e : Int} {ns : List S30} {ks : List S25} (h : Mems s V a e ns ks) : a < e ∧ e ≤ s.size := by
  induction h with
  | last a n c d v hn hw1 hc hw2 hv hw3 hd =>
    have := hn.range; have := hw1.1; have := hw2.1; have := hw3.1; have := hV v hv
    have : d < s.size := bt_end (by omega)
    omega
  | more a n c d a2 e v ns ks hn hw1 hc hw2 hv hw3 hd hw4 _ ih => have := hn.range; have := hw1.1; have := hw2.1; have := hw3.1; have := hV v hv; have := hw4.1; omega
theorem Elems.range {s : ByteArray} {V : S25 → Prop} (hV : ∀ v, V v → v.f1 < v.f2) {a e : Int} {ks : List S25} (h : Elems s V a e ks) : a < e ∧ e ≤ s.size := by
  induction h with
  | last d v hv hw hd =>
    have := hw.1; have := hV v hv
    have : d < s.size := bt_end (by omega)
    omega
  | more d a2 e v ks hv hw hd hw2 _ ih => have := hw.1; have := hV v hv; have := hw2.1; omega
theorem ValN.range {s : ByteArray} : ∀ (n : Nat) (v : S25), ValN s n v → 0 ≤ v.f1 ∧ v.f1 < v.f2 ∧ v.f2 ≤ s.size := by
  intro n
  induction n with
  | zero => intro v h; exact h.elim
  | succ n ih =>
    intro v h
    simp only [ValN] at h
    obtain ⟨h0, h⟩ := h
    refine ⟨h0, ?_⟩
    have hV : ∀ v, ValN s n v → v.f1 < v.f2 := fun v hv => (ih v hv).2.1
    rcases h with ⟨_, _, a, hw, h⟩ | ⟨_, _, _, a, hw, h⟩ | ⟨_, _, h⟩
    · have := hw.1
      rcases h with ⟨h1, h2, _⟩ | h
      · have : a < s.size := bt_end (by omega)
        omega
      · have := h.range hV; omega
    · have := hw.1
      rcases h with ⟨h1, h2, _⟩ | h
      · have : a < s.size := bt_end (by omega)
        omega
      · have := h.range hV; omega
    · rcases h with ⟨_, h⟩ | ⟨_, h⟩ | ⟨_, h⟩ | ⟨_, h⟩ | ⟨_, h⟩
      · have := h.range; omega
      · exact h.range
      · have := h.range; simp at this; omega
      · have := h.range; simp at this; omega
      · have := h.range; simp at this; omega

/-- What the reader tells of a value at a. -/
def VR (s : ByteArray) (a : Int) (r : Int × Int × Int × List S30 × List S25 × Bool × ByteArray × Int) : Prop :=
  ∃ kind e ns ks ok, r = (kind, a, e, ns, ks, ok, s, e) ∧ a ≤ e ∧ e ≤ s.size ∧ (ok = true → a < e ∧ ValE s ⟨kind, a, e, ns, ks⟩)
def MR (s : ByteArray) (a : Int) (r : List S30 × List S25 × Bool × ByteArray × Int) : Prop :=
  ∃ ns ks ok e, r = (ns, ks, ok, s, e) ∧ a ≤ e ∧ e ≤ s.size ∧ (ok = true → Obj s (ValE s) a e ns ks)
def ER (s : ByteArray) (a : Int) (r : List S25 × Bool × ByteArray × Int) : Prop :=
  ∃ ks ok e, r = (ks, ok, s, e) ∧ a ≤ e ∧ e ≤ s.size ∧ (ok = true → Arr s (ValE s) a e ks)

/-- The values from some place on. -/
def From (s : ByteArray) (a : Int) : Prop := ∀ b : Int, a ≤ b → b ≤ s.size → EvP (fun k => spec_reader_value.f k s b) (VR s b)

theorem elements_loop (s : ByteArray) (hn : s.size ≤ 2147483647) (d : Nat) : ∀ (a : Int) (ks0 : List S25), 0 ≤ a → a ≤ s.size → (s.size : Int) - a < d → ks0.length ≤ a.toNat → From s a →
    EvP (fun k => spec_reader_elements.l0 k ks0 s a) (fun r => ∃ ks ok e, r = (ks, ok, s, e) ∧ a ≤ e ∧ e ≤ s.size ∧ (ok = true → ∃ ks', ks = ks0 ++ ks' ∧ Elems s (ValE s) a e ks')) := by
  induction d with
  | zero => intro a ks0 h0 h1 hd; omega
  | succ d ih =>
    intro a ks0 h0 h1 hd hl hV
    refine EvP.succ ?_
    simp only [spec_reader_elements.l0]
    refine EvP.bind (hV a (Int.le_refl _) h1) ?_
    rintro r ⟨kind, e, ns, ks, ok, rfl, he1, he2, hok⟩
    dsimp only
    refine EvP.ite (fun h => ?_) (fun h => EvP.ret _ ⟨_, false, e, rfl, he1, he2, (fun h => by cases h)⟩)
    obtain ⟨hlt, hv⟩ := hok h
    refine EvP.pos (by omega) ?_
    simp only [Option.bind_some]
    refine EvP.bind (blanks_f s hn e (by omega) he2) ?_
    rintro r ⟨b, rfl, hw, hnb⟩
    have hbr := hw.1; have hbs := hw.2.1
    dsimp only
    simp only [take_eq s b 93 (by omega) hn (by omega), Option.bind_some]
    refine EvP.ite (fun h => ?_) (fun h => ?_)
    · have h := of_decide_eq_true h
      have hlt2 : b < s.size := bt_end (by omega)
      rw [if_pos h]
      exact EvP.ret _ ⟨_, true, b + 1, rfl, by omega, by omega, fun _ => ⟨[⟨kind, a, e, ns, ks⟩], rfl, .last b ⟨kind, a, e, ns, ks⟩ hv hw h⟩⟩
    · have h : ¬ bt s b = 93 := fun e => h (decide_eq_true e)
      rw [if_neg h]
      simp only [take_eq s b 44 (by omega) hn (by omega), Option.bind_some]
      refine EvP.ite (fun h2 => ?_) (fun h2 => ?_)
      · have h2 := of_decide_eq_true h2
        have hlt2 : b < s.size := bt_end (by omega)
        rw [if_pos h2]
        refine EvP.bind (blanks_f s hn (b + 1) (by omega) (by omega)) ?_
        rintro r ⟨a2, rfl, hw2, _⟩
        have ha2 := hw2.1; have ha3 := hw2.2.1
        dsimp only
        refine (ih a2 _ (by omega) (by omega) (by omega) (by simp; omega) (fun c hc hc2 => hV c (by omega) hc2)).mono ?_
        rintro r ⟨ks2, ok2, e2, rfl, h3, h4, hok2⟩
        refine ⟨ks2, ok2, e2, rfl, by omega, h4, fun h5 => ?_⟩
        obtain ⟨ks', rfl, hE⟩ := hok2 h5
        exact ⟨⟨kind, a, e, ns, ks⟩ :: ks', by simp, .more b a2 e2 ⟨kind, a, e, ns, ks⟩ ks' hv hw h2 hw2 hE⟩
      · have h2 : ¬ bt s b = 44 := fun e => h2 (decide_eq_true e)
        rw [if_neg h2]
        exact EvP.ret _ ⟨_, false, b, rfl, by omega, by omega, (fun h => by cases h)⟩

theorem elements_f (s : ByteArray) (hn : s.size ≤ 2147483647) (a : Int) (h0 : 0 ≤ a) (h1 : a < s.size) (hb : bt s a = 91) (hV : From s (a + 1)) : EvP (fun k => spec_reader_elements.f k s a) (ER s a) := by
  refine EvP.succ ?_
  simp only [spec_reader_elements.f]
  rw [w64 (by omega) (by omega)]
  refine EvP.bind (blanks_f s hn (a + 1) (by omega) (by omega)) ?_
  rintro r ⟨b, rfl, hw, hnb⟩
  have hbr := hw.1; have hbs := hw.2.1
  dsimp only
  simp only [take_eq s b 93 (by omega) hn (by omega), Option.bind_some]
  refine EvP.ite (fun h => ?_) (fun h => ?_)
  · have h := of_decide_eq_true h
    have hlt2 : b < s.size := bt_end (by omega)
    rw [if_pos h]
    exact EvP.ret _ ⟨_, true, b + 1, rfl, by omega, by omega, fun _ => ⟨hb, b, hw, .inl ⟨h, rfl, rfl⟩⟩⟩
  · have h : ¬ bt s b = 93 := fun e => h (decide_eq_true e)
    rw [if_neg h]
    refine (elements_loop s hn (s.size + 1) b [] (by omega) (by omega) (by omega) (by simp) (fun c hc hc2 => hV c (by omega) hc2)).mono ?_
    rintro r ⟨ks, ok, e, rfl, he1, he2, hok⟩
    refine ⟨ks, ok, e, rfl, by omega, he2, fun h3 => ?_⟩
    obtain ⟨ks', rfl, hE⟩ := hok h3
    exact ⟨hb, b, hw, .inr (by simpa using hE)⟩

theorem members_loop (s : ByteArray) (hn : s.size ≤ 2147483647) (d : Nat) : ∀ (a : Int) (ns0 : List S30) (ks0 : List S25), 0 ≤ a → a ≤ s.size → (s.size : Int) - a < d → ns0.length ≤ a.toNat → ks0.length ≤ a.toNat → From s a →
    EvP (fun k => spec_reader_members.l0 k ns0 ks0 s a) (fun r => ∃ ns ks ok e, r = (ns, ks, ok, s, e) ∧ a ≤ e ∧ e ≤ s.size ∧ (ok = true → ∃ ns' ks', ns = ns0 ++ ns' ∧ ks = ks0 ++ ks' ∧ Mems s (ValE s) a e ns' ks')) := by
  induction d with
  | zero => intro a ns0 ks0 h0 h1 hd; omega
  | succ d ih =>
    intro a ns0 ks0 h0 h1 hd hl1 hl2 hV
    refine EvP.succ ?_
    simp only [spec_reader_members.l0, here_eq s a h0, Option.bind_some]
    have hbad : ∀ e : Int, a ≤ e → e ≤ s.size → EvP (fun k => spec_reader_members.j1 k ns0 ks0 a true s e) (fun r => ∃ ns ks ok e, r = (ns, ks, ok, s, e) ∧ a ≤ e ∧ e ≤ s.size ∧ (ok = true → ∃ ns' ks', ns = ns0 ++ ns' ∧ ks = ks0 ++ ks' ∧ Mems s (ValE s) a e ns' ks')) := by
      intro e he1 he2
      refine EvP.succ ?_
      simp only [spec_reader_members.j1]
      exact EvP.pos trivial (EvP.ret _ ⟨_, _, false, e, rfl, he1, he2, (fun h => by cases h)⟩)
    refine EvP.ite (fun hq => ?_) (fun _ => hbad a (by omega) h1)
    have hlt : a < s.size := bt_end (by omega)
    refine EvP.bind (quoted_f s hn a h0 hlt hq) ?_
    rintro r ⟨okq, n, rfl, hn1, hn2, hokq, -⟩
    dsimp only
    cases okq with
    | false => exact hbad n (by omega) hn2
    | true =>
      have hS := hokq rfl
      refine EvP.succ ?_
      simp only [spec_reader_members.j1]
      refine EvP.neg (by simp) (EvP.pos (by omega) ?_)
      simp only [Option.bind_some]
      refine EvP.bind (blanks_f s hn n (by omega) hn2) ?_
      rintro r ⟨c, rfl, hw1, _⟩
      have hc1 := hw1.1; have hc2 := hw1.2.1
      dsimp only
      simp only [take_eq s c 58 (by omega) hn (by omega), Option.bind_some]
      refine EvP.ite (fun h => ?_) (fun h => ?_)
      · have hcol := of_decide_eq_true h
        have hltc : c < s.size := bt_end (by omega)
        rw [if_pos hcol]
        refine EvP.bind (blanks_f s hn (c + 1) (by omega) (by omega)) ?_
        rintro r ⟨p, rfl, hw2, _⟩
        have hp1 := hw2.1; have hp2 := hw2.2.1
        dsimp only
        refine EvP.bind (hV p (by omega) hp2) ?_
        rintro r ⟨kind, e, vns, vks, ok, rfl, he1, he2, hok⟩
        dsimp only
        refine EvP.ite (fun h => ?_) (fun h => EvP.ret _ ⟨_, _, false, e, rfl, by omega, he2, (fun h => by cases h)⟩)
        obtain ⟨hlt2, hv⟩ := hok h
        refine EvP.pos (by omega) ?_
        refine EvP.bind (blanks_f s hn e (by omega) he2) ?_
        rintro r ⟨b, rfl, hw3, _⟩
        have hb1 := hw3.1; have hb2 := hw3.2.1
        dsimp only
        simp only [take_eq s b 125 (by omega) hn (by omega), Option.bind_some]
        refine EvP.ite (fun h => ?_) (fun h => ?_)
        · have h := of_decide_eq_true h
          have hlt3 : b < s.size := bt_end (by omega)
          rw [if_pos h]
          exact EvP.ret _ ⟨_, _, true, b + 1, rfl, by omega, by omega, fun _ => ⟨[⟨a, n⟩], [⟨kind, p, e, vns, vks⟩], rfl, rfl, .last a n c b ⟨kind, p, e, vns, vks⟩ hS hw1 hcol hw2 hv hw3 h⟩⟩
        · have h : ¬ bt s b = 125 := fun e => h (decide_eq_true e)
          rw [if_neg h]
          simp only [take_eq s b 44 (by omega) hn (by omega), Option.bind_some]
          refine EvP.ite (fun h2 => ?_) (fun h2 => ?_)
          · have h2 := of_decide_eq_true h2
            have hlt3 : b < s.size := bt_end (by omega)
            rw [if_pos h2]
            refine EvP.bind (blanks_f s hn (b + 1) (by omega) (by omega)) ?_
            rintro r ⟨a2, rfl, hw4, _⟩
            have ha2 := hw4.1; have ha3 := hw4.2.1
            dsimp only
            refine (ih a2 _ _ (by omega) (by omega) (by omega) (by simp; omega) (by simp; omega) (fun c hc hc2 => hV c (by omega) hc2)).mono ?_
            rintro r ⟨ns2, ks2, ok2, e2, rfl, h3, h4, hok2⟩
            refine ⟨ns2, ks2, ok2, e2, rfl, by omega, h4, fun h5 => ?_⟩
            obtain ⟨ns', ks', rfl, rfl, hE⟩ := hok2 h5
            exact ⟨⟨a, n⟩ :: ns', ⟨kind, p, e, vns, vks⟩ :: ks', by simp, by simp, .more a n c b a2 e2 ⟨kind, p, e, vns, vks⟩ ns' ks' hS hw1 hcol hw2 hv hw3 h2 hw4 hE⟩
          · have h2 : ¬ bt s b = 44 := fun e => h2 (decide_eq_true e)
            rw [if_neg h2]
            exact EvP.ret _ ⟨_, _, false, b, rfl, by omega, by omega, (fun h => by cases h)⟩
      · have h : ¬ bt s c = 58 := fun e => h (decide_eq_true e)
        rw [if_neg h]
        exact EvP.ret _ ⟨_, _, false, c, rfl, by omega, by omega, (fun h => by cases h)⟩

theorem members_f (s : ByteArray) (hn : s.size ≤ 2147483647) (a : Int) (h0 : 0 ≤ a) (h1 : a < s.size) (hb : bt s a = 123) (hV : From s (a + 1)) : EvP (fun k => spec_reader_members.f k s a) (MR s a) := by
  refine EvP.succ ?_
  simp only [spec_reader_members.f]
  rw [w64 (by omega) (by omega)]
  refine EvP.bind (blanks_f s hn (a + 1) (by omega) (by omega)) ?_
  rintro r ⟨b, rfl, hw, hnb⟩
  have hbr := hw.1; have hbs := hw.2.1
  dsimp only
  simp only [take_eq s b 125 (by omega) hn (by omega), Option.bind_some]
  refine EvP.ite (fun h => ?_) (fun h => ?_)
  · have h := of_decide_eq_true h
    have hlt2 : b < s.size := bt_end (by omega)
    rw [if_pos h]
    exact EvP.ret _ ⟨_, _, true, b + 1, rfl, by omega, by omega, fun _ => ⟨hb, b, hw, .inl ⟨h, rfl, rfl, rfl⟩⟩⟩
  · have h : ¬ bt s b = 125 := fun e => h (decide_eq_true e)
    rw [if_neg h]
    refine (members_loop s hn (s.size + 1) b [] [] (by omega) (by omega) (by omega) (by simp) (by simp) (fun c hc hc2 => hV c (by omega) hc2)).mono ?_
    rintro r ⟨ns, ks, ok, e, rfl, he1, he2, hok⟩
    refine ⟨ns, ks, ok, e, rfl, by omega, he2, fun h3 => ?_⟩
    obtain ⟨ns', ks', rfl, rfl, hE⟩ := hok h3
    exact ⟨hb, b, hw, .inr (by simpa using hE)⟩

theorem ints_lit (l : List UInt8) : ints ⟨l.toArray⟩ = l.map (fun b => (b.toNat : Int)) := by simp [ints]

theorem value_j0 (s : ByteArray) (hn : s.size ≤ 2147483647) (a : Int) (b : Bool) (h0 : 0 ≤ a) (h1 : a ≤ s.size) : EvP (fun k => spec_reader_value.j0 k true b s a 0 a 0) (VR s a) := by
  refine EvP.succ ?_
  simp only [spec_reader_value.j0]
  refine EvP.ite (fun _ => ?_) (fun _ => ?_)
  · refine EvP.bind (number_f s hn a h0 h1) ?_
    rintro r ⟨ok, e, rfl, he1, he2, hok⟩
    refine EvP.ret _ ⟨3, e, [], [], ok, rfl, he1, he2, fun h => ⟨(hok h).range.1, 1, ?_⟩⟩
    simp only [ValN]
    exact ⟨h0, .inr (.inr ⟨trivial, trivial, .inr (.inl ⟨trivial, hok h⟩)⟩)⟩
  · obtain ⟨ok1, e1, hw1⟩ := word_eq s ⟨#[110, 117, 108, 108]⟩ a h0 h1 hn (by decide)
    obtain ⟨ok2, e2, hw2⟩ := word_eq s ⟨#[102, 97, 108, 115, 101]⟩ a h0 h1 hn (by decide)
    obtain ⟨ok3, e3, hw3⟩ := word_eq s ⟨#[116, 114, 117, 101]⟩ a h0 h1 hn (by decide)
    have t1 : ints ⟨#[110, 117, 108, 108]⟩ = [110, 117, 108, 108] := by decide
    have t2 : ints ⟨#[102, 97, 108, 115, 101]⟩ = [102, 97, 108, 115, 101] := by decide
    have t3 : ints ⟨#[116, 114, 117, 101]⟩ = [116, 114, 117, 101] := by decide
    rw [t1] at hw1
    rw [t2] at hw2
    rw [t3] at hw3
    rw [e1]
    simp only [Option.bind_some]
    refine EvP.ite (fun h => ?_) (fun h => ?_)
    · rw [if_pos h]
      have := (hw1.1 h)
      have hr := this.range
      refine EvP.ret _ ⟨0, _, [], [], true, rfl, by omega, hr.2, fun _ => ⟨by simp at hr; omega, 1, ?_⟩⟩
      simp only [ValN]
      exact ⟨h0, .inr (.inr ⟨trivial, trivial, .inr (.inr (.inl ⟨trivial, this⟩))⟩)⟩
    · rw [if_neg h, e2]
      simp only [Option.bind_some]
      refine EvP.ite (fun h => ?_) (fun h => ?_)
      · rw [if_pos h]
        have := (hw2.1 h)
        have hr := this.range
        refine EvP.ret _ ⟨1, _, [], [], true, rfl, by omega, hr.2, fun _ => ⟨by simp at hr; omega, 1, ?_⟩⟩
        simp only [ValN]
        exact ⟨h0, .inr (.inr ⟨trivial, trivial, .inr (.inr (.inr (.inl ⟨trivial, this⟩)))⟩)⟩
      · rw [if_neg h, e3]
        simp only [Option.bind_some]
        refine EvP.ite (fun h => ?_) (fun h => ?_)
        · rw [if_pos h]
          have := (hw3.1 h)
          have hr := this.range
          refine EvP.ret _ ⟨2, _, [], [], true, rfl, by omega, hr.2, fun _ => ⟨by simp at hr; omega, 1, ?_⟩⟩
          simp only [ValN]
          exact ⟨h0, .inr (.inr ⟨trivial, trivial, .inr (.inr (.inr (.inr ⟨trivial, this⟩)))⟩)⟩
        · rw [if_neg h]
          exact EvP.ret _ ⟨0, a, [], [], false, rfl, by omega, h1, (fun h => by cases h)⟩

theorem value_any (s : ByteArray) (hn : s.size ≤ 2147483647) (d : Nat) : ∀ a : Int, 0 ≤ a → a ≤ s.size → (s.size : Int) - a < d → EvP (fun k => spec_reader_value.f k s a) (VR s a) := by
  induction d with
  | zero => intro a h0 h1 hd; omega
  | succ d ih =>
    intro a h0 h1 hd
    have hV : From s (a + 1) := fun b hb hb2 => ih b (by omega) hb2 (by omega)
    refine EvP.succ ?_
    simp only [spec_reader_value.f, here_eq s a h0, Option.bind_some]
    refine EvP.ite (fun h => ?_) (fun _ => EvP.ite (fun h => ?_) (fun _ => EvP.ite (fun h => ?_) (fun _ => EvP.ite (fun h => ?_) (fun _ => EvP.ite (fun h => ?_) (fun h => ?_)))))
    · have hlt : a < s.size := bt_end (by omega)
      refine EvP.bind (members_f s hn a h0 hlt h hV) ?_
      rintro r ⟨ns, ks, ok, e, rfl, he1, he2, hok⟩
      refine EvP.ret _ ⟨6, e, ns, ks, ok, rfl, he1, he2, fun h3 => ?_⟩
      obtain ⟨hb, p, hw, hm⟩ := hok h3
      have hp := hw.1
      rcases hm with ⟨hc, rfl, rfl, rfl⟩ | hm
      · refine ⟨by omega, 1, ?_⟩
        simp only [ValN]
        exact ⟨h0, .inl ⟨trivial, hb, p, hw, .inl ⟨hc, rfl, rfl, rfl⟩⟩⟩
      · obtain ⟨m, hm⟩ := mems_level hm
        refine ⟨?_, m + 1, ?_⟩
        · have := hm.range (fun v hv => (ValN.range m v hv).2.1); omega
        · simp only [ValN]
          exact ⟨h0, .inl ⟨trivial, hb, p, hw, .inr hm⟩⟩
    · have hlt : a < s.size := bt_end (by omega)
      refine EvP.bind (elements_f s hn a h0 hlt h hV) ?_
      rintro r ⟨ks, ok, e, rfl, he1, he2, hok⟩
      refine EvP.ret _ ⟨5, e, [], ks, ok, rfl, he1, he2, fun h3 => ?_⟩
      obtain ⟨hb, p, hw, hm⟩ := hok h3
      have hp := hw.1
      rcases hm with ⟨hc, rfl, rfl⟩ | hm
      · refine ⟨by omega, 1, ?_⟩
        simp only [ValN]
        exact ⟨h0, .inr (.inl ⟨trivial, trivial, hb, p, hw, .inl ⟨hc, rfl, rfl⟩⟩)⟩
      · obtain ⟨m, hm⟩ := elems_level hm
        refine ⟨?_, m + 1, ?_⟩
        · have := hm.range (fun v hv => (ValN.range m v hv).2.1); omega
        · simp only [ValN]
          exact ⟨h0, .inr (.inl ⟨trivial, trivial, hb, p, hw, .inr hm⟩)⟩
    · have hlt : a < s.size := bt_end (by omega)
      refine EvP.bind (quoted_f s hn a h0 hlt h) ?_
      rintro r ⟨ok, e, rfl, he1, he2, hok, -⟩
      refine EvP.ret _ ⟨4, e, [], [], ok, rfl, by omega, he2, fun h3 => ⟨he1, 1, ?_⟩⟩
      simp only [ValN]
      exact ⟨h0, .inr (.inr ⟨trivial, trivial, .inl ⟨trivial, hok h3⟩⟩)⟩
    · exact value_j0 s hn a _ h0 h1
    · exact value_j0 s hn a _ h0 h1
    · exact value_j0 s hn a _ h0 h1

theorem places_f (s : ByteArray) (hn : s.size ≤ 2147483647) : EvP (fun k => spec_Places.f k s) (fun r => ∃ kind b e ns ks ok, r = (kind, b, e, ns, ks, ok) ∧ (ok = true → ValE s ⟨kind, b, e, ns, ks⟩ ∧ Ws s 0 b ∧ Ws s e s.size)) := by
  unfold spec_Places.f
  refine EvP.bind (blanks_f s hn 0 (by omega) (by omega)) ?_
  rintro r ⟨a, rfl, hw, _⟩
  have ha1 := hw.1; have ha2 := hw.2.1
  dsimp only
  refine EvP.bind (value_any s hn (s.size + 1) a (by omega) ha2 (by omega)) ?_
  rintro r ⟨kind, e, ns, ks, ok, rfl, he1, he2, hok⟩
  dsimp only
  refine EvP.ite (fun h => ?_) (fun h => EvP.ret _ ⟨_, _, _, _, _, false, rfl, (fun h => by cases h)⟩)
  obtain ⟨hlt, hv⟩ := hok h
  refine EvP.bind (blanks_f s hn e (by omega) he2) ?_
  rintro r ⟨b, rfl, hw2, _⟩
  dsimp only
  refine EvP.ite (fun h2 => EvP.ret _ ⟨_, _, _, _, _, true, rfl, fun _ => ⟨hv, hw, ?_⟩⟩) (fun h2 => EvP.ret _ ⟨_, _, _, _, _, false, rfl, (fun h => by cases h)⟩)
  rw [h2] at hw2
  exact hw2

/-! ### All values of a value -/
def allN : Nat → S25 → List S25
  | 0, _ => []
  | n + 1, v => v :: v.f4.flatMap (allN n)

theorem rd_drop {xs : List S25} {i : Int} {v : S25} {t : List S25} (h0 : 0 ≤ i) (h : xs.drop i.toNat = v :: t) : rd_T25 xs i = v ∧ i < (xs.length : Int) ∧ xs.drop (i + 1).toNat = t := by
  have hl : i.toNat < xs.length := by
    have := congrArg List.length h
    simp only [List.length_drop, List.length_cons] at this
    omega
  have e := List.drop_eq_getElem_cons hl
  rw [h] at e
  injection e with e1 e2
  refine ⟨?_, by omega, ?_⟩
  · unfold rd_T25
    rw [List.getD_eq_getElem?_getD, List.getElem?_eq_getElem hl, Option.getD_some]; exact e1.symm
  · rw [show (i + 1).toNat = i.toNat + 1 from by omega]; exact e2.symm

theorem rdS_drop {xs : List S30} {i : Int} {v : S30} {t : List S30} (h0 : 0 ≤ i) (h : xs.drop i.toNat = v :: t) : rd_T30 xs i = v ∧ i < (xs.length : Int) ∧ xs.drop (i + 1).toNat = t := by
  have hl : i.toNat < xs.length := by
    have := congrArg List.length h
    simp only [List.length_drop, List.length_cons] at this
    omega
  have e := List.drop_eq_getElem_cons hl
  rw [h] at e
  injection e with e1 e2
  refine ⟨?_, by omega, ?_⟩
  · unfold rd_T30
    rw [List.getD_eq_getElem?_getD, List.getElem?_eq_getElem hl, Option.getD_some]; exact e1.symm
  · rw [show (i + 1).toNat = i.toNat + 1 from by omega]; exact e2.symm

theorem drop_nil_len {α : Type} {xs : List α} {i : Int} (h0 : 0 ≤ i) (h : xs.drop i.toNat = []) : (xs.length : Int) ≤ i := by
  have := congrArg List.length h
  simp only [List.length_drop, List.length_nil] at this
  omega

theorem mems_sum {s : ByteArray} {V : S25 → Prop} (g : S25 → Nat) (hV : ∀ v, V v → (g v : Int) ≤ v.f2 - v.f1) {a e : Int} {ns : List S30} {ks : List S25} (h : Mems s V a e ns ks) : ((ks.map g).sum : Int) + ns.length ≤ e - a := by
  induction h with
  | last a n c d v hn hw1 hc hw2 hv hw3 hd =>
    have := hn.range; have := hw1.1; have := hw2.1; have := hw3.1; have := hV v hv
    simp; omega
  | more a n c d a2 e v ns ks hn hw1 hc hw2 hv hw3 hd hw4 _ ih =>
    have := hn.range; have := hw1.1; have := hw2.1; have := hw3.1; have := hV v hv; have := hw4.1
    simp; omega
theorem elems_sum {s : ByteArray} {V : S25 → Prop} (g : S25 → Nat) (hV : ∀ v, V v → (g v : Int) ≤ v.f2 - v.f1) {a e : Int} {ks : List S25} (h : Elems s V a e ks) : ((ks.map g).sum : Int) ≤ e - a := by
  induction h with
  | last d v hv hw hd => have := hw.1; have := hV v hv; simp; omega
  | more d a2 e v ks hv hw hd hw2 _ ih => have := hw.1; have := hV v hv; have := hw2.1; simp; omega

theorem mems_all {s : ByteArray} {V : S25 → Prop} {a e : Int} {ns : List S30} {ks : List S25} (h : Mems s V a e ns ks) : (∀ v ∈ ks, V v) ∧ (∀ q ∈ ns, StrAt s q.f0 q.f1) ∧ ns.length = ks.length := by
  induction h with
  | last a n c d v hn hw1 hc hw2 hv hw3 hd => simp [hv, hn]
  | more a n c d a2 e v ns ks hn hw1 hc hw2 hv hw3 hd hw4 _ ih => simp only [List.mem_cons, List.length_cons]; refine ⟨?_, ?_, by omega⟩ <;> rintro x (rfl | hx) <;> simp_all
theorem elems_all {s : ByteArray} {V : S25 → Prop} {a e : Int} {ks : List S25} (h : Elems s V a e ks) : ∀ v ∈ ks, V v := by
  induction h with
  | last d v hv hw hd => simp [hv]
  | more d a2 e v ks hv hw hd hw2 _ ih => simp only [List.mem_cons]; rintro x (rfl | hx) <;> simp_all

/-- What a value's parts are, however it was read. -/
theorem ValN.parts {s : ByteArray} {n : Nat} {v : S25} (h : ValN s (n + 1) v) : (∀ x ∈ v.f4, ValN s n x) ∧ (∀ q ∈ v.f3, StrAt s q.f0 q.f1) ∧ (v.f0 = 4 → StrAt s v.f1 v.f2) ∧ (∀ g : S25 → Nat, (∀ x, ValN s n x → (g x : Int) ≤ x.f2 - x.f1) → ((v.f4.map g).sum : Int) + v.f3.length + 1 ≤ v.f2 - v.f1) := by
  have hr := ValN.range _ _ h
  simp only [ValN] at h
  obtain ⟨h0, h⟩ := h
  rcases h with ⟨hk, _, a, hw, h⟩ | ⟨hk, h3, _, a, hw, h⟩ | ⟨h3, h4, h⟩
  · have hw1 := hw.1
    rcases h with ⟨h1, h2, h3, h4⟩ | h
    · rw [h3, h4]; refine ⟨by simp, by simp, by omega, fun g hg => ?_⟩; simp; omega
    · obtain ⟨p1, p2, _⟩ := mems_all h
      refine ⟨p1, p2, by omega, fun g hg => ?_⟩
      have := mems_sum g hg h
      omega
  · have hw1 := hw.1
    rw [h3]
    rcases h with ⟨h1, h2, h4⟩ | h
    · rw [h4]; refine ⟨by simp, by simp, by omega, fun g hg => ?_⟩; simp; omega
    · refine ⟨elems_all h, by simp, by omega, fun g hg => ?_⟩
      have := elems_sum g hg h
      simp; omega
  · rw [h3, h4]
    refine ⟨by simp, by simp, fun hk => ?_, fun g hg => by simp; omega⟩
    rcases h with ⟨_, h⟩ | ⟨_, _⟩ | ⟨_, _⟩ | ⟨_, _⟩ | ⟨_, _⟩
    · exact h
    all_goals omega

def wgt (q : S25) : Nat := q.f3.length + 1

theorem sum_flatMap (f : S25 → List S25) : ∀ l : List S25, ((l.flatMap f).map wgt).sum = (l.map fun x => ((f x).map wgt).sum).sum
  | [] => rfl
  | a :: t => by simp [sum_flatMap f t]

theorem allN_wgt {s : ByteArray} : ∀ (n : Nat) (v : S25), ValN s n v → (((allN n v).map wgt).sum : Int) ≤ v.f2 - v.f1 := by
  intro n
  induction n with
  | zero => intro v h; exact h.elim
  | succ n ih =>
    intro v h
    have := h.parts.2.2.2 (fun x => ((allN n x).map wgt).sum) (fun x hx => ih x hx)
    simp only [allN, List.map_cons, List.sum_cons, sum_flatMap, wgt]
    omega

theorem len_le_wgt : ∀ l : List S25, l.length ≤ (l.map wgt).sum
  | [] => by simp
  | a :: t => by have := len_le_wgt t; simp [wgt]; omega

theorem allN_mem {s : ByteArray} : ∀ (n : Nat) (v : S25), ValN s n v → ∀ q ∈ allN n v, ValE s q := by
  intro n
  induction n with
  | zero => intro v h; exact h.elim
  | succ n ih =>
    intro v h q hq
    simp only [allN, List.mem_cons, List.mem_flatMap] at hq
    rcases hq with rfl | ⟨x, hx, hq⟩
    · exact ⟨_, h⟩
    · exact ih x (h.parts.1 x hx) q hq

theorem sum_ones : ∀ l : List S25, (l.map fun _ => 1).sum = l.length
  | [] => rfl
  | _ :: t => by simp only [List.map_cons, List.sum_cons, List.length_cons, sum_ones t]; omega

end Go.Proofs.YtkdpkenhhcgnbaaDoor.PFnJpStringPlace.Rd
