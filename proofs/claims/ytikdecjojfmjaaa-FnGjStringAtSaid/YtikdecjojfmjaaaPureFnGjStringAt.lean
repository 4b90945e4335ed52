/- Behind the quotation mark of each string in a JSON text of at most 2^12 bytes (values and names), gjson reads the string to its end: the offset behind it, its text with both marks, whether it has a backslash. No condition beyond the statement's own guards. -/
import Derived.Test.YtikdecjojfmjaaaPFnGjStringAtx7
import Derived.Test.YtikdecjojfmjaaaStringAtRd
namespace Go.Proofs.Ytikdecjojfmjaaa.Pure
open Go.RowKit Go.Proofs.Ytikdecjojfmjaaa.PFnGjStringAt Go.Proofs.YtikdecjojfmjaaaW.PrintWords Go.Proofs.YtikdecjojfmjaaaW.PrintLast Go.Proofs.Ytikdecjojfmjaaa.EvL Go.Proofs.Ytikdecjojfmjaaa.StrL Go.Proofs.Ytikdecjojfmjaaa.PFnGjStringAt.Rd

namespace StringAt

/-- What parseString is to answer of the string whose inside begins at b and which ends at e. -/
def Ans (s : ByteArray) (b e : Int) (r : Int × ByteArray × Bool × Bool) : Prop :=
  ∃ esc : Bool, r = (e, s.extract (b - 1).toNat e.toNat, esc, true) ∧ (esc = true ↔ ∃ i, b ≤ i ∧ i < e ∧ bt s i = 92)

/-- n backslashes stand ahead of a, and no more (none ahead of lo). -/
def Run (s : ByteArray) (lo a : Int) (n : Nat) : Prop := lo ≤ a - n ∧ (∀ i, a - n ≤ i → i < a → bt s i = 92) ∧ bt s (a - n - 1) ≠ 92

theorem run_zero {s : ByteArray} {lo a : Int} (h : lo ≤ a) (hb : bt s (a - 1) ≠ 92) : Run s lo a 0 :=
  ⟨by omega, fun i h1 h2 => by omega, by simpa using hb⟩
theorem run_more {s : ByteArray} {lo a : Int} {n : Nat} (h : Run s lo a n) (hb : bt s a = 92) : Run s lo (a + 1) (n + 1) := by
  obtain ⟨h1, h2, h3⟩ := h
  refine ⟨by omega, fun i hi1 hi2 => ?_, ?_⟩
  · by_cases e : i = a
    · rw [e]; exact hb
    · exact h2 i (by omega) (by omega)
  · rw [show a + 1 - ((n + 1 : Nat) : Int) - 1 = a - n - 1 from by omega]; exact h3

variable (s : ByteArray) (hn : s.size ≤ 2147483647) (b e : Int) (hb : 1 ≤ b)

theorem end_any (hn : s.size ≤ 2147483647) (hb : 1 ≤ b) (x : Int) (hbx : b ≤ x) (hx : x < s.size) (esc : Bool) (he : esc = true ↔ ∃ i, b ≤ i ∧ i < x + 1 ∧ bt s i = 92) :
    EvP (fun _ => (if 0 ≤ (wrap64 (b - 1)) then (if (wrap64 (b - 1)) ≤ (wrap64 (x + 1)) then (if (wrap64 (x + 1)) ≤ (s.size : Int) then (some (wrap64 (x + 1), s.extract ((wrap64 (b - 1)) : Int).toNat ((wrap64 (x + 1)) : Int).toNat, esc, true)) else (none)) else (none)) else (none))) (Ans s b (x + 1)) := by
  rw [w64 (x := b - 1) (by omega) (by omega), w64 (x := x + 1) (by omega) (by omega)]
  exact EvP.pos (by omega) (EvP.pos (by omega) (EvP.pos (by omega) (EvP.ret _ ⟨esc, rfl, he⟩)))

/-- The count of backslashes ahead of a quotation mark at x: t of them are still to be seen. -/
theorem l2_any (hn : s.size ≤ 2147483647) (x : Int) (hx : x < s.size) (P : Int × ByteArray × Bool × Bool → Prop) (t : Nat) : ∀ (c : Int) (q : Int), 0 ≤ c → c + t ≤ 2147483647 → q < x → 0 ≤ q - t → (∀ i, q - t < i → i ≤ q → bt s i = 92) → bt s (q - t) ≠ 92 →
    ((c + t) % 2 = 0 → EvP (fun k => gjson_parseString.l1 k s (wrap64 (x + 1)) b) P) →
    ((c + t) % 2 ≠ 0 → EvP (fun _ => (if 0 ≤ (wrap64 (b - 1)) then (if (wrap64 (b - 1)) ≤ (wrap64 (x + 1)) then (if (wrap64 (x + 1)) ≤ (s.size : Int) then (some (wrap64 (x + 1), s.extract ((wrap64 (b - 1)) : Int).toNat ((wrap64 (x + 1)) : Int).toNat, true, true)) else (none)) else (none)) else (none))) P) →
    EvP (fun k => gjson_parseString.l2 k s x b c q) P := by
  induction t with
  | zero =>
    intro c q hc0 hc1 hq hqt hin hout h1 h2
    have ht : Int.tmod c 2 = c % 2 := Int.tmod_eq_emod_of_nonneg hc0
    refine EvP.succ ?_
    simp only [gjson_parseString.l2]
    have hd : EvP (fun k => (if (Int.tmod c 2) = 0 then (gjson_parseString.l1 k s (wrap64 (x + 1)) b) else (if 0 ≤ (wrap64 (b - 1)) then (if (wrap64 (b - 1)) ≤ (wrap64 (x + 1)) then (if (wrap64 (x + 1)) ≤ (s.size : Int) then (some (wrap64 (x + 1), s.extract ((wrap64 (b - 1)) : Int).toNat ((wrap64 (x + 1)) : Int).toNat, true, true)) else (none)) else (none)) else (none)))) P := by
      refine EvP.ite (fun h => h1 (by omega)) (fun h => h2 (by omega))
    refine EvP.ite (fun hp => EvP.pos (by omega) (EvP.pos (by omega) (EvP.neg (by simpa using hout) hd))) (fun _ => hd)
  | succ t ih =>
    intro c q hc0 hc1 hq hqt hin hout h1 h2
    refine EvP.succ ?_
    simp only [gjson_parseString.l2]
    rw [w64 (x := c + 1) (by omega) (by omega), w64 (x := q - 1) (by omega) (by omega)]
    refine EvP.pos (by omega) (EvP.pos (by omega) (EvP.pos (by omega) (EvP.pos (hin q (by omega) (by omega)) ?_)))
    refine ih (c + 1) (q - 1) (by omega) (by omega) (by omega) (by omega) (fun i hi1 hi2 => hin i (by omega) (by omega)) ?_ (fun h => h1 (by omega)) (fun h => h2 (by omega))
    rw [show q - 1 - (t : Int) = q - ((t + 1 : Nat) : Int) from by omega]; exact hout

/-- Behind the first backslash: a plain byte is gone over. -/
theorem l1_skip (hn : s.size ≤ 2147483647) (hb : 1 ≤ b) (a : Int) (hba : b ≤ a) (ha : a < s.size) (h34 : bt s a ≠ 34) (P : Int × ByteArray × Bool × Bool → Prop) (h : EvP (fun k => gjson_parseString.l1 k s (a + 1) b) P) : EvP (fun k => gjson_parseString.l1 k s a b) P := by
  refine EvP.succ ?_
  simp only [gjson_parseString.l1]
  rw [w64 (x := a + 1) (by omega) (by omega)]
  exact EvP.pos ha (EvP.pos (by omega) (EvP.ite (fun _ => h) (fun _ => EvP.neg h34 h)))

/-- A quotation mark behind n backslashes. -/
theorem l1_quote (hn : s.size ≤ 2147483647) (hb : 1 ≤ b) (a : Int) (hba : b ≤ a) (ha : a < s.size) (h34 : bt s a = 34) (n : Nat) (hr : Run s b a n) (P : Int × ByteArray × Bool × Bool → Prop)
    (h1 : n % 2 = 1 → EvP (fun k => gjson_parseString.l1 k s (wrap64 (a + 1)) b) P)
    (h2 : n % 2 = 0 → EvP (fun _ => (if 0 ≤ (wrap64 (b - 1)) then (if (wrap64 (b - 1)) ≤ (wrap64 (a + 1)) then (if (wrap64 (a + 1)) ≤ (s.size : Int) then (some (wrap64 (a + 1), s.extract ((wrap64 (b - 1)) : Int).toNat ((wrap64 (a + 1)) : Int).toNat, true, true)) else (none)) else (none)) else (none))) P) :
    EvP (fun k => gjson_parseString.l1 k s a b) P := by
  obtain ⟨r1, r2, r3⟩ := hr
  refine EvP.succ ?_
  simp only [gjson_parseString.l1]
  rw [w64 (x := a - 1) (by omega) (by omega), w64 (x := a - 2) (by omega) (by omega)]
  refine EvP.pos ha (EvP.pos (by omega) (EvP.neg (by omega) (EvP.pos h34 (EvP.pos (by omega) (EvP.pos (by omega) ?_)))))
  cases n with
  | zero => exact EvP.neg (by simpa using r3) (h2 rfl)
  | succ n =>
    refine EvP.pos (r2 _ (by omega) (by omega)) ?_
    refine l2_any s b hn a ha P n 0 (a - 2) (by omega) (by omega) (by omega) (by omega) (fun i hi1 hi2 => r2 i (by omega) (by omega)) ?_ (fun h => h1 (by omega)) (fun h => h2 (by omega))
    rw [show a - 2 - (n : Int) = a - ((n + 1 : Nat) : Int) - 1 from by omega]; exact r3

theorem l1_body (hn : s.size ≤ 2147483647) (hb : 1 ≤ b) (hex : ∃ i, b ≤ i ∧ bt s i = 92) {a e : Int} (hB : Body s a e) : b ≤ a → (∃ i, b ≤ i ∧ i < a ∧ bt s i = 92) → (∃ m, Run s b a (2 * m)) → EvP (fun k => gjson_parseString.l1 k s a b) (Ans s b e) := by
  induction hB with
  | close a h hc =>
    rintro hba ⟨i, hi1, hi2, hi3⟩ ⟨m, hr⟩
    refine l1_quote s b hn hb a hba h hc (2 * m) hr _ (fun h => by omega) (fun _ => ?_)
    exact end_any s b hn hb a hba h true ⟨fun _ => ⟨i, hi1, by omega, hi3⟩, fun _ => rfl⟩
  | plain a e h h1 h2 h3 ht ih =>
    rintro hba ⟨i, hi1, hi2, hi3⟩ _
    refine l1_skip s b hn hb a hba h h1 _ (ih (by omega) ⟨i, hi1, by omega, hi3⟩ ⟨0, run_zero (by omega) ?_⟩)
    rw [show a + 1 - 1 = a from by omega]; exact h2
  | esc a e h h1 h2 ht ih =>
    rintro hba ⟨i, hi1, hi2, hi3⟩ ⟨m, hr⟩
    refine l1_skip s b hn hb a hba (by omega) (by omega) _ ?_
    have hr1 := run_more hr h1
    by_cases hq : bt s (a + 1) = 34
    · refine l1_quote s b hn hb (a + 1) (by omega) h hq (2 * m + 1) hr1 _ (fun _ => ?_) (fun h => by omega)
      rw [w64 (by omega) (by omega), show a + 1 + 1 = a + 2 from by omega]
      refine ih (by omega) ⟨i, hi1, by omega, hi3⟩ ⟨0, run_zero (by omega) ?_⟩
      rw [show a + 2 - 1 = a + 1 from by omega]; omega
    · refine l1_skip s b hn hb (a + 1) (by omega) h hq _ ?_
      rw [show a + 1 + 1 = a + 2 from by omega]
      refine ih (by omega) ⟨i, hi1, by omega, hi3⟩ ?_
      by_cases hs : bt s (a + 1) = 92
      · have := run_more hr1 hs
        rw [show a + 1 + 1 = a + 2 from by omega] at this
        exact ⟨m + 1, this⟩
      · refine ⟨0, run_zero (by omega) ?_⟩
        rw [show a + 2 - 1 = a + 1 from by omega]; exact hs
  | uni a e h h1 h2 hx ht ih =>
    rintro hba ⟨i, hi1, hi2, hi3⟩ ⟨m, hr⟩
    have x1 := hx (a + 2) (by omega) (by omega)
    have x2 := hx (a + 3) (by omega) (by omega)
    have x3 := hx (a + 4) (by omega) (by omega)
    have x4 := hx (a + 5) (by omega) (by omega)
    unfold hexd at x1 x2 x3 x4
    refine l1_skip s b hn hb a hba (by omega) (by omega) _ (l1_skip s b hn hb (a + 1) (by omega) (by omega) (by omega) _ ?_)
    rw [show a + 1 + 1 = a + 2 from by omega]
    refine l1_skip s b hn hb (a + 2) (by omega) (by omega) (by omega) _ ?_
    rw [show a + 2 + 1 = a + 3 from by omega]
    refine l1_skip s b hn hb (a + 3) (by omega) (by omega) (by omega) _ ?_
    rw [show a + 3 + 1 = a + 4 from by omega]
    refine l1_skip s b hn hb (a + 4) (by omega) (by omega) (by omega) _ ?_
    rw [show a + 4 + 1 = a + 5 from by omega]
    refine l1_skip s b hn hb (a + 5) (by omega) (by omega) (by omega) _ ?_
    rw [show a + 5 + 1 = a + 6 from by omega]
    refine ih (by omega) ⟨i, hi1, by omega, hi3⟩ ⟨0, run_zero (by omega) ?_⟩
    rw [show a + 6 - 1 = a + 5 from by omega]; omega

theorem l0_body (hn : s.size ≤ 2147483647) (hb : 1 ≤ b) (hq : bt s (b - 1) = 34) {a e : Int} (hB : Body s a e) : b ≤ a → (∀ i, b ≤ i → i < a → bt s i ≠ 92) → EvP (fun k => gjson_parseString.l0 k s a b) (Ans s b e) := by
  induction hB with
  | close a h hc =>
    intro hba hno
    refine EvP.succ ?_
    simp only [gjson_parseString.l0]
    refine EvP.pos h (EvP.pos (by omega) (EvP.neg (by omega) (EvP.pos hc ?_)))
    refine end_any s b hn hb a hba h false ⟨(fun h => by cases h), ?_⟩
    rintro ⟨i, hi1, hi2, hi3⟩
    by_cases he : i = a
    · rw [he] at hi3; omega
    · exact absurd hi3 (hno i hi1 (by omega))
  | plain a e h h1 h2 h3 ht ih =>
    intro hba hno
    have hnx := ih (by omega) (fun i hi1 hi2 => by
      by_cases he : i = a
      · rw [he]; exact h2
      · exact hno i hi1 (by omega))
    refine EvP.succ ?_
    simp only [gjson_parseString.l0]
    rw [w64 (x := a + 1) (by omega) (by omega)]
    exact EvP.pos h (EvP.pos (by omega) (EvP.ite (fun _ => hnx) (fun _ => EvP.neg h1 (EvP.neg h2 hnx))))
  | esc a e h h1 h2 ht ih =>
    intro hba hno
    have hr : Run s b a 0 := run_zero hba (by
      by_cases he : a = b
      · rw [he, hq]; omega
      · exact hno _ (by omega) (by omega))
    have hr1 := run_more hr h1
    refine EvP.succ ?_
    simp only [gjson_parseString.l0]
    rw [w64 (x := a + 1) (by omega) (by omega)]
    refine EvP.pos (by omega) (EvP.pos (by omega) (EvP.neg (by omega) (EvP.neg (by omega) (EvP.pos h1 ?_))))
    by_cases hq2 : bt s (a + 1) = 34
    · refine l1_quote s b hn hb (a + 1) (by omega) h hq2 1 hr1 _ (fun _ => ?_) (fun h => by omega)
      rw [w64 (by omega) (by omega), show a + 1 + 1 = a + 2 from by omega]
      refine l1_body s b hn hb ⟨a, hba, h1⟩ ht (by omega) ⟨a, hba, by omega, h1⟩ ⟨0, run_zero (by omega) ?_⟩
      rw [show a + 2 - 1 = a + 1 from by omega]; omega
    · refine l1_skip s b hn hb (a + 1) (by omega) h hq2 _ ?_
      rw [show a + 1 + 1 = a + 2 from by omega]
      refine l1_body s b hn hb ⟨a, hba, h1⟩ ht (by omega) ⟨a, hba, by omega, h1⟩ ?_
      by_cases hs : bt s (a + 1) = 92
      · have := run_more hr1 hs
        rw [show a + 1 + 1 = a + 2 from by omega] at this
        exact ⟨1, this⟩
      · refine ⟨0, run_zero (by omega) ?_⟩
        rw [show a + 2 - 1 = a + 1 from by omega]; exact hs
  | uni a e h h1 h2 hx ht ih =>
    intro hba hno
    have x1 := hx (a + 2) (by omega) (by omega)
    have x2 := hx (a + 3) (by omega) (by omega)
    have x3 := hx (a + 4) (by omega) (by omega)
    have x4 := hx (a + 5) (by omega) (by omega)
    unfold hexd at x1 x2 x3 x4
    refine EvP.succ ?_
    simp only [gjson_parseString.l0]
    rw [w64 (x := a + 1) (by omega) (by omega)]
    refine EvP.pos (by omega) (EvP.pos (by omega) (EvP.neg (by omega) (EvP.neg (by omega) (EvP.pos h1 ?_))))
    refine l1_skip s b hn hb (a + 1) (by omega) (by omega) (by omega) _ ?_
    rw [show a + 1 + 1 = a + 2 from by omega]
    refine l1_skip s b hn hb (a + 2) (by omega) (by omega) (by omega) _ ?_
    rw [show a + 2 + 1 = a + 3 from by omega]
    refine l1_skip s b hn hb (a + 3) (by omega) (by omega) (by omega) _ ?_
    rw [show a + 3 + 1 = a + 4 from by omega]
    refine l1_skip s b hn hb (a + 4) (by omega) (by omega) (by omega) _ ?_
    rw [show a + 4 + 1 = a + 5 from by omega]
    refine l1_skip s b hn hb (a + 5) (by omega) (by omega) (by omega) _ ?_
    rw [show a + 5 + 1 = a + 6 from by omega]
    refine l1_body s b hn hb ⟨a, hba, h1⟩ ht (by omega) ⟨a, hba, by omega, h1⟩ ⟨0, run_zero (by omega) ?_⟩
    rw [show a + 6 - 1 = a + 5 from by omega]; omega

theorem impl_any (hn : s.size ≤ 2147483647) {b e : Int} (hS : StrAt s b e) : EvP (fun k => impl_GjStringAt.f k s (b + 1)) (Ans s (b + 1) e) := by
  obtain ⟨h0, hq, hB⟩ := hS
  unfold impl_GjStringAt.f gjson_DoorString.f gjson_parseString.f
  refine EvP.bind (EvP.bind (l0_body s (b + 1) hn (by omega) (by rw [show b + 1 - 1 = b from by omega]; exact hq) hB (by omega) (fun i _ _ => by omega)) (fun a ha => EvP.ret a ha)) (fun a ha => EvP.ret a ha)

theorem escaped_loop (t : ByteArray) (hn : t.size ≤ 2147483647) (d : Nat) : ∀ i : Int, 0 ≤ i → i ≤ t.size → (t.size : Int) - i = d → (∀ j, 0 ≤ j → j < i → bt t j ≠ 92) →
    EvP (fun k => spec_Escaped.l0 k t i) (fun r => r = true ↔ ∃ j, 0 ≤ j ∧ j < (t.size : Int) ∧ bt t j = 92) := by
  induction d with
  | zero =>
    intro i h0 h1 hd hno
    refine EvP.succ ?_
    simp only [spec_Escaped.l0]
    refine EvP.neg (by omega) (EvP.ret _ ⟨(fun h => by cases h), ?_⟩)
    rintro ⟨j, hj1, hj2, hj3⟩
    exact absurd hj3 (hno j hj1 (by omega))
  | succ d ih =>
    intro i h0 h1 hd hno
    refine EvP.succ ?_
    simp only [spec_Escaped.l0]
    refine EvP.pos (by omega) (EvP.pos h0 (EvP.ite (fun h => EvP.ret _ ⟨fun _ => ⟨i, h0, by omega, h⟩, fun _ => rfl⟩) (fun h => ?_)))
    rw [w64 (by omega) (by omega)]
    exact ih (i + 1) (by omega) (by omega) (by omega) (fun j hj1 hj2 => by
      by_cases he : j = i
      · rw [he]; exact h
      · exact hno j hj1 (by omega))

theorem bt_extract (s : ByteArray) (a e j : Int) (h0 : 0 ≤ a) (hae : a ≤ e) (hj : 0 ≤ j) (hje : j < e - a) : bt (s.extract a.toNat e.toNat) j = bt s (a + j) := by
  rw [bt_getD, bt_getD, ints_extract, List.getD_eq_getElem?_getD, List.getD_eq_getElem?_getD, List.getElem?_take, if_pos (by omega), List.getElem?_drop]
  congr 2
  omega

theorem escaped_any (s : ByteArray) (hn : s.size ≤ 2147483647) (a e : Int) (h0 : 0 ≤ a) (hae : a < e) (he : e ≤ s.size) (hq : bt s a ≠ 92) (esc : Bool) (hesc : esc = true ↔ ∃ i, a + 1 ≤ i ∧ i < e ∧ bt s i = 92) :
    EvP (fun k => spec_Escaped.f k (s.extract a.toNat e.toNat)) (fun r => r = esc) := by
  have hsz : ((s.extract a.toNat e.toNat).size : Int) = e - a := by simp only [ByteArray.size_extract]; omega
  unfold spec_Escaped.f
  refine (escaped_loop (s.extract a.toNat e.toNat) (by omega) (s.extract a.toNat e.toNat).size 0 (by omega) (by omega) (by omega) (fun j _ _ => by omega)).mono ?_
  intro r hr
  rw [Bool.eq_iff_iff, hr, hesc, hsz]
  constructor
  · rintro ⟨j, hj1, hj2, hj3⟩
    rw [bt_extract s a e j h0 (by omega) hj1 hj2] at hj3
    refine ⟨a + j, ?_, by omega, hj3⟩
    by_cases hz : j = 0
    · rw [hz, Int.add_zero] at hj3; exact absurd hj3 hq
    · omega
  · rintro ⟨i, hi1, hi2, hi3⟩
    refine ⟨i - a, by omega, by omega, ?_⟩
    rw [bt_extract s a e (i - a) h0 (by omega) (by omega) (by omega), show a + (i - a) = i from by omega]
    exact hi3

theorem law_l1 (hn : s.size ≤ 2147483647) (xs : List S37) (hlen : xs.length ≤ 2147483647) (hall : ∀ q ∈ xs, StrAt s q.f0 q.f1) : ∀ (rest : List S37) (i : Int), 0 ≤ i → xs.drop i.toNat = rest →
    EvP (fun k => laws_FnGjStringAt.l1 k s xs (xs.length : Int) i) (fun r => r = true) := by
  intro rest
  induction rest with
  | nil =>
    intro i h0 hd
    have := drop_nil_len h0 hd
    refine EvP.succ ?_
    simp only [laws_FnGjStringAt.l1]
    exact EvP.neg (by omega) (EvP.ret _ rfl)
  | cons v t ih =>
    intro i h0 hd
    obtain ⟨hr, hlt, hd2⟩ := rdS_drop h0 hd
    have hS := hall v (List.mem_of_mem_drop (by rw [hd]; exact List.mem_cons_self))
    have hrg := hS.range
    have h0b := hS.1
    refine EvP.succ ?_
    simp only [laws_FnGjStringAt.l1, hr]
    rw [w64 (x := v.f0 + 1) (by omega) (by omega), w64 (x := i + 1) (by omega) (by omega)]
    refine EvP.pos hlt (EvP.pos h0 (EvP.pos hlt ?_))
    refine EvP.bind (impl_any s hn hS) ?_
    rintro r ⟨esc, rfl, hesc⟩
    dsimp only
    refine EvP.pos rfl (EvP.pos rfl (EvP.pos h0b (EvP.pos (by omega) (EvP.pos (by omega) ?_))))
    rw [show v.f0 + 1 - 1 = v.f0 from by omega]
    refine EvP.pos rfl ?_
    refine EvP.bind (escaped_any s hn v.f0 v.f1 h0b (by omega) (by omega) (by rw [hS.2.1]; omega) esc hesc) ?_
    rintro r rfl
    refine EvP.neg (by simp) (ih (i + 1) (by omega) hd2)

def spans (q : S32) : List S37 := q.f3 ++ if q.f0 = 4 then [⟨q.f1, q.f2⟩] else []

theorem spans_len : ∀ l : List S32, (l.flatMap spans).length ≤ (l.map wgt).sum
  | [] => by simp
  | q :: t => by
    have h1 := spans_len t
    have h2 : (spans q).length ≤ wgt q := by
      unfold spans wgt
      rw [List.length_append]
      split <;> simp
    rw [List.flatMap_cons, List.length_append, List.map_cons, List.sum_cons]
    omega

theorem law_l0 (hn : s.size ≤ 2147483647) (xs : List S32) (hlen : xs.length ≤ 2147483647) (hall : ∀ q ∈ xs.flatMap spans, StrAt s q.f0 q.f1) (hw : (xs.flatMap spans).length ≤ 2147483647) : ∀ (rest : List S32) (acc : List S37) (i : Int), 0 ≤ i → xs.drop i.toNat = rest → acc ++ rest.flatMap spans = xs.flatMap spans →
    EvP (fun k => laws_FnGjStringAt.l0 k s acc xs (xs.length : Int) i) (fun r => r = true) := by
  intro rest
  induction rest with
  | nil =>
    intro acc i h0 hd hacc
    have := drop_nil_len h0 hd
    rw [List.flatMap_nil, List.append_nil] at hacc
    refine EvP.succ ?_
    simp only [laws_FnGjStringAt.l0]
    refine EvP.neg (by omega) ?_
    rw [hacc]
    exact law_l1 s hn _ hw hall _ 0 (by omega) rfl
  | cons v t ih =>
    intro acc i h0 hd hacc
    obtain ⟨hr, hlt, hd2⟩ := rd_drop h0 hd
    have hl := congrArg List.length hacc
    simp only [List.flatMap_cons, List.length_append] at hl
    have hv : spans v = v.f3 ++ if v.f0 = 4 then [⟨v.f1, v.f2⟩] else [] := rfl
    refine EvP.succ ?_
    simp only [laws_FnGjStringAt.l0, hr, Option.bind_some]
    rw [w64 (x := i + 1) (by omega) (by omega)]
    have hl3 : v.f3.length ≤ (spans v).length := by rw [hv]; simp
    refine EvP.pos hlt (EvP.pos h0 (EvP.pos hlt (EvP.pos (by omega) ?_)))
    refine EvP.ite (fun h4 => ?_) (fun h4 => ?_)
    · rw [if_pos h4] at hv
      have : (spans v).length = v.f3.length + 1 := by rw [hv]; simp
      refine EvP.pos (by simp only [List.length_append]; omega) (ih _ (i + 1) (by omega) hd2 ?_)
      rw [← hacc, List.flatMap_cons, hv]; simp
    · rw [if_neg h4] at hv
      refine ih _ (i + 1) (by omega) hd2 ?_
      rw [← hacc, List.flatMap_cons, hv]; simp

end StringAt

theorem FnGjStringAt : laws_FnGjStringAt.Pure := by
  intro s _
  apply EvP.told
  unfold laws_FnGjStringAt.f
  refine EvP.ite (fun _ => EvP.ret _ rfl) (fun hn => ?_)
  have hn' : s.size ≤ 2147483647 := by omega
  refine EvP.bind (places_f s hn') ?_
  rintro r ⟨kind, b, e, ns, ks, ok, rfl, hok⟩
  dsimp only
  have hj : ∀ big : Bool, (big = false → ok = true) → EvP (fun k => laws_FnGjStringAt.j0 k s big kind b e ns ks) (fun r => r = true) := by
    intro big hbig
    refine EvP.succ ?_
    simp only [laws_FnGjStringAt.j0]
    refine EvP.ite (fun _ => EvP.ret _ rfl) (fun h => ?_)
    obtain ⟨⟨n, hv⟩, _, _⟩ := hok (hbig (by simpa using h))
    refine EvP.bind (all_f s hn' n ⟨kind, b, e, ns, ks⟩ hv) ?_
    rintro r rfl
    have hrg := ValN.range _ _ hv
    have hw := allN_wgt _ _ hv
    have hl1 := len_le_wgt (allN n ⟨kind, b, e, ns, ks⟩)
    have hl2 := StringAt.spans_len (allN n ⟨kind, b, e, ns, ks⟩)
    have hm := allN_mem _ _ hv
    dsimp only at hrg hw
    refine StringAt.law_l0 s hn' _ (by omega) ?_ (by omega) _ [] 0 (by omega) rfl (by simp)
    intro q hq
    rw [List.mem_flatMap] at hq
    obtain ⟨v, hv1, hq⟩ := hq
    obtain ⟨m, hvm⟩ := hm v hv1
    cases m with
    | zero => exact hvm.elim
    | succ m =>
      obtain ⟨_, p2, p3, _⟩ := hvm.parts
      unfold StringAt.spans at hq
      rcases List.mem_append.1 hq with hq | hq
      · exact p2 q hq
      · split at hq
        · rename_i h4
          rw [List.mem_singleton] at hq
          rw [hq]; exact p3 h4
        · cases hq
  refine EvP.ite (fun h => hj _ (fun _ => h)) (fun h => hj _ (fun h => by cases h))

end Go.Proofs.Ytikdecjojfmjaaa.Pure
