/- For each string of a JSON text of at most 2^12 bytes (names, too) the inner search for a string's end, begun behind its first quotation mark in the whole text, ends where the string does. No condition beyond the statement's own guards. -/
import Derived.Test.YtkdpkenhhcgnbaaDoorStringPlaceRd
import Derived.Lib.EndianBits
set_option linter.unusedVariables false
namespace Go.Proofs.YtkdpkenhhcgnbaaDoor.Pure
open Go.RowKit Go.Proofs.YtkdpkenhhcgnbaaDoor.PFnJpStringPlace Go.Proofs.YtkdpkenhhcgnbaaDoorW.PrintWords Go.Proofs.YtkdpkenhhcgnbaaDoorW.PrintLast Go.Proofs.YtkdpkenhhcgnbaaDoor.EvL Go.Proofs.YtkdpkenhhcgnbaaDoor.StrL Go.Proofs.YtkdpkenhhcgnbaaDoor.PFnJpStringPlace.Rd

/-! ### eight bytes at a time -/
namespace Swar
theorem hit_at (b0 b1 b2 b3 b4 b5 b6 b7 : Nat) (h0 : b0 < 256) (h1 : b1 < 256) (h2 : b2 < 256) (h3 : b3 < 256) (h4 : b4 < 256) (h5 : b5 < 256) (h6 : b6 < 256) (h7 : b7 < 256)
    (h : b0 = 0 ∨ b1 = 0 ∨ b2 = 0 ∨ b3 = 0 ∨ b4 = 0 ∨ b5 = 0 ∨ b6 = 0 ∨ b7 = 0) (X Y : Nat) (hX : X = b0 + 256 * (b1 + 256 * (b2 + 256 * (b3 + 256 * (b4 + 256 * (b5 + 256 * (b6 + 256 * b7)))))))
    (hY : Y = (X + 18446744073709551616 - 72340172838076673) % 18446744073709551616) :
    ∃ j, j < 8 ∧ X / 2 ^ (8 * j + 7) % 2 = 0 ∧ Y / 2 ^ (8 * j + 7) % 2 = 1 := by
  by_cases e0 : b0 = 0
  · exact ⟨0, by omega, by simp; omega, by simp; omega⟩
  by_cases e1 : b1 = 0
  · exact ⟨1, by omega, by simp; omega, by simp; omega⟩
  by_cases e2 : b2 = 0
  · exact ⟨2, by omega, by simp; omega, by simp; omega⟩
  by_cases e3 : b3 = 0
  · exact ⟨3, by omega, by simp; omega, by simp; omega⟩
  by_cases e4 : b4 = 0
  · exact ⟨4, by omega, by simp; omega, by simp; omega⟩
  by_cases e5 : b5 = 0
  · exact ⟨5, by omega, by simp; omega, by simp; omega⟩
  by_cases e6 : b6 = 0
  · exact ⟨6, by omega, by simp; omega, by simp; omega⟩
  by_cases e7 : b7 = 0
  · exact ⟨7, by omega, by simp; omega, by simp; omega⟩
  omega

theorem byte_zero (W B n c : Nat) (hW : W / 2 ^ n % 2 ^ 8 = c) (hB : B / 2 ^ n % 2 ^ 8 = c) : (W ^^^ B) / 2 ^ n % 2 ^ 8 = 0 := by
  rw [Nat.xor_div_two_pow, Nat.xor_mod_two_pow, hW, hB, Nat.xor_self]

/-- A word with a zero byte is told. -/
theorem hit_word (X Y : Nat) (hX : X < 18446744073709551616) (hY : Y = (X + 18446744073709551616 - 72340172838076673) % 18446744073709551616) (i : Nat) (hi : i < 8) (hz : X / 2 ^ (8 * i) % 2 ^ 8 = 0) :
    ∃ j, j < 8 ∧ X / 2 ^ (8 * j + 7) % 2 = 0 ∧ Y / 2 ^ (8 * j + 7) % 2 = 1 := by
  refine hit_at (X % 256) (X / 256 % 256) (X / 65536 % 256) (X / 16777216 % 256) (X / 4294967296 % 256) (X / 1099511627776 % 256) (X / 281474976710656 % 256) (X / 72057594037927936 % 256) (by omega) (by omega) (by omega) (by omega) (by omega) (by omega) (by omega) (by omega) ?_ X Y (by omega) hY
  match i, hi, hz with
  | 0, _, hz => simp at hz; omega
  | 1, _, hz => simp at hz; omega
  | 2, _, hz => simp at hz; omega
  | 3, _, hz => simp at hz; omega
  | 4, _, hz => simp at hz; omega
  | 5, _, hz => simp at hz; omega
  | 6, _, hz => simp at hz; omega
  | 7, _, hz => simp at hz; omega

def hit (w b : Int) : Int := Go.bits .and .u64 (Go.bits .and .u64 (IntKind.u64.wrap ((Go.bits .xor .u64 w b) - 72340172838076673)) (Go.bits .xor .u64 IntKind.u64.max (Go.bits .xor .u64 w b))) 9259542123273814144

theorem ofInt_nat (n : Nat) (h : n < 18446744073709551616) : (BitVec.ofInt 64 (n : Int)).toNat = n := by
  rw [BitVec.toNat_ofInt]
  omega

theorem wrap_nat (b : BitVec 64) : IntKind.u64.wrap (b.toNat : Int) = b.toNat := by
  rw [IntKind.wrap_u64]; have := b.isLt; omega
theorem b_xor (x y : Int) : Go.bits .xor .u64 x y = ((BitVec.ofInt 64 x ^^^ BitVec.ofInt 64 y).toNat : Int) := wrap_nat _
theorem b_and (x y : Int) : Go.bits .and .u64 x y = ((BitVec.ofInt 64 x &&& BitVec.ofInt 64 y).toNat : Int) := wrap_nat _
theorem b_or (x y : Int) : Go.bits .or .u64 x y = ((BitVec.ofInt 64 x ||| BitVec.ofInt 64 y).toNat : Int) := wrap_nat _
theorem bits_xor_nat (W B : Nat) (hW : W < 18446744073709551616) (hB : B < 18446744073709551616) : Go.bits .xor .u64 (W : Int) (B : Int) = ((W ^^^ B : Nat) : Int) := by
  rw [b_xor]; simp only [BitVec.toNat_xor, ofInt_nat W hW, ofInt_nat B hB]
theorem bits_and_nat (W B : Nat) (hW : W < 18446744073709551616) (hB : B < 18446744073709551616) : Go.bits .and .u64 (W : Int) (B : Int) = ((W &&& B : Nat) : Int) := by
  rw [b_and]; simp only [BitVec.toNat_and, ofInt_nat W hW, ofInt_nat B hB]
theorem max_u64 : IntKind.u64.max = ((18446744073709551615 : Nat) : Int) := rfl
theorem sub_u64 (X : Nat) : IntKind.u64.wrap ((X : Int) - 72340172838076673) = (((X + 18446744073709551616 - 72340172838076673) % 18446744073709551616 : Nat) : Int) := by
  rw [IntKind.wrap_u64]; omega
theorem tb (m n : Nat) : Nat.testBit m n = decide (m / 2 ^ n % 2 = 1) := Nat.testBit_eq_decide_div_mod_eq
theorem max_bit (n : Nat) (h : n < 64) : Nat.testBit 18446744073709551615 n = true := by
  have : (18446744073709551615 : Nat) = 2 ^ 64 - 1 := by decide
  rw [this, Nat.testBit_two_pow_sub_one]
  simp [h]
theorem msb_bit (j : Nat) (h : j < 8) : Nat.testBit 9259542123273814144 (8 * j + 7) = true := by
  match j, h with
  | 0, _ => decide
  | 1, _ => decide
  | 2, _ => decide
  | 3, _ => decide
  | 4, _ => decide
  | 5, _ => decide
  | 6, _ => decide
  | 7, _ => decide
theorem hit_eq (W B : Nat) (hW : W < 18446744073709551616) (hB : B < 18446744073709551616) :
    hit W B = ((((((W ^^^ B) + 18446744073709551616 - 72340172838076673) % 18446744073709551616) &&& (18446744073709551615 ^^^ (W ^^^ B))) &&& 9259542123273814144 : Nat) : Int) := by
  have hX : W ^^^ B < 18446744073709551616 := Nat.xor_lt_two_pow (n := 64) hW hB
  unfold hit
  rw [bits_xor_nat W B hW hB, sub_u64, max_u64, bits_xor_nat _ _ (by decide) hX]
  have h1 : ((W ^^^ B) + 18446744073709551616 - 72340172838076673) % 18446744073709551616 < 18446744073709551616 := Nat.mod_lt _ (by decide)
  have h2 : 18446744073709551615 ^^^ (W ^^^ B) < 18446744073709551616 := Nat.xor_lt_two_pow (n := 64) (by decide) hX
  rw [bits_and_nat _ _ h1 h2]
  have h3 := Nat.and_lt_two_pow (n := 64) (((W ^^^ B) + 18446744073709551616 - 72340172838076673) % 18446744073709551616) h2
  exact bits_and_nat _ 9259542123273814144 h3 (by decide)
theorem hit_ne (W B : Nat) (hW : W < 18446744073709551616) (hB : B < 18446744073709551616) (i : Nat) (hi : i < 8) (hz : (W ^^^ B) / 2 ^ (8 * i) % 2 ^ 8 = 0) : hit W B ≠ 0 := by
  have hX : W ^^^ B < 18446744073709551616 := Nat.xor_lt_two_pow (n := 64) hW hB
  obtain ⟨j, hj, h1, h2⟩ := hit_word (W ^^^ B) _ hX rfl i hi hz
  rw [hit_eq W B hW hB]
  intro h
  generalize hXe : W ^^^ B = X at *
  generalize (X + 18446744073709551616 - 72340172838076673) % 18446744073709551616 = Y at *
  have h0 : (Y &&& (18446744073709551615 ^^^ X)) &&& 9259542123273814144 = 0 := Int.ofNat_eq_zero.mp h
  have hb := congrArg (fun v => Nat.testBit v (8 * j + 7)) h0
  simp only [Nat.testBit_and, Nat.testBit_xor, Nat.zero_testBit, msb_bit j hj, max_bit (8 * j + 7) (by omega)] at hb
  rw [tb X, tb Y, h1, h2] at hb
  simp at hb

theorem bytes8 (n0 n1 n2 n3 n4 n5 n6 n7 W : Nat) (g0 : n0 < 256) (g1 : n1 < 256) (g2 : n2 < 256) (g3 : n3 < 256) (g4 : n4 < 256) (g5 : n5 < 256) (g6 : n6 < 256) (g7 : n7 < 256)
    (h : W = n0 + 256 * (n1 + 256 * (n2 + 256 * (n3 + 256 * (n4 + 256 * (n5 + 256 * (n6 + 256 * n7))))))) :
    W < 18446744073709551616 ∧ W / 2 ^ (8 * 0) % 2 ^ 8 = n0 ∧ W / 2 ^ (8 * 1) % 2 ^ 8 = n1 ∧ W / 2 ^ (8 * 2) % 2 ^ 8 = n2 ∧ W / 2 ^ (8 * 3) % 2 ^ 8 = n3 ∧ W / 2 ^ (8 * 4) % 2 ^ 8 = n4 ∧ W / 2 ^ (8 * 5) % 2 ^ 8 = n5 ∧ W / 2 ^ (8 * 6) % 2 ^ 8 = n6 ∧ W / 2 ^ (8 * 7) % 2 ^ 8 = n7 := by
  simp only [Nat.reduceMul, Nat.reducePow, Nat.mul_zero, Nat.pow_zero, Nat.div_one]
  refine ⟨by omega, by omega, by omega, by omega, by omega, by omega, by omega, by omega, by omega⟩


theorem none_of (zs : List Int) (hl : zs.length = 8) (hz : ∀ z ∈ zs, 0 ≤ z ∧ z ≤ 255) (c : Nat) (B : Nat) (hB : B < 18446744073709551616) (hc : ∀ i, i < 8 → B / 2 ^ (8 * i) % 2 ^ 8 = c) (h : hit (Go.Lib.leZ zs) B = 0) : ∀ z ∈ zs, z ≠ (c : Int) := by
  obtain ⟨z0, z1, z2, z3, z4, z5, z6, z7, rfl⟩ : ∃ z0 z1 z2 z3 z4 z5 z6 z7, zs = [z0, z1, z2, z3, z4, z5, z6, z7] := by
    match zs, hl with
    | [z0, z1, z2, z3, z4, z5, z6, z7], _ => exact ⟨z0, z1, z2, z3, z4, z5, z6, z7, rfl⟩
  have nat : ∀ z ∈ [z0, z1, z2, z3, z4, z5, z6, z7], ∃ n : Nat, z = n ∧ n < 256 := fun z hm => ⟨z.toNat, by have := hz z hm; omega, by have := hz z hm; omega⟩
  clear hz hl
  obtain ⟨n0, rfl, g0⟩ := nat z0 (by simp)
  obtain ⟨n1, rfl, g1⟩ := nat z1 (by simp)
  obtain ⟨n2, rfl, g2⟩ := nat z2 (by simp)
  obtain ⟨n3, rfl, g3⟩ := nat z3 (by simp)
  obtain ⟨n4, rfl, g4⟩ := nat z4 (by simp)
  obtain ⟨n5, rfl, g5⟩ := nat z5 (by simp)
  obtain ⟨n6, rfl, g6⟩ := nat z6 (by simp)
  obtain ⟨n7, rfl, g7⟩ := nat z7 (by simp)
  clear nat
  obtain ⟨W, hWe⟩ : ∃ W : Nat, W = n0 + 256 * (n1 + 256 * (n2 + 256 * (n3 + 256 * (n4 + 256 * (n5 + 256 * (n6 + 256 * n7)))))) := ⟨_, rfl⟩
  have eW : Go.Lib.leZ [(n0 : Int), n1, n2, n3, n4, n5, n6, n7] = (W : Int) := by
    clear h hc g0 g1 g2 g3 g4 g5 g6 g7 hB
    simp only [Go.Lib.leZ]; omega
  rw [eW] at h
  obtain ⟨hW, q0, q1, q2, q3, q4, q5, q6, q7⟩ := bytes8 _ _ _ _ _ _ _ _ W g0 g1 g2 g3 g4 g5 g6 g7 hWe
  have key : ∀ i, i < 8 → W / 2 ^ (8 * i) % 2 ^ 8 ≠ c := fun i hi hc' => hit_ne W B hW hB i hi (byte_zero W B (8 * i) c hc' (hc i hi)) h
  intro z hzm he
  simp only [List.mem_cons, List.not_mem_nil, or_false] at hzm
  rcases hzm with e | e | e | e | e | e | e | e
  · exact key 0 (by decide) (q0.trans (Int.ofNat.inj (e.symm.trans he)))
  · exact key 1 (by decide) (q1.trans (Int.ofNat.inj (e.symm.trans he)))
  · exact key 2 (by decide) (q2.trans (Int.ofNat.inj (e.symm.trans he)))
  · exact key 3 (by decide) (q3.trans (Int.ofNat.inj (e.symm.trans he)))
  · exact key 4 (by decide) (q4.trans (Int.ofNat.inj (e.symm.trans he)))
  · exact key 5 (by decide) (q5.trans (Int.ofNat.inj (e.symm.trans he)))
  · exact key 6 (by decide) (q6.trans (Int.ofNat.inj (e.symm.trans he)))
  · exact key 7 (by decide) (q7.trans (Int.ofNat.inj (e.symm.trans he)))

theorem bits_or_zero (A B : Int) (hA : ∃ a : Nat, A = a ∧ a < 18446744073709551616) (hB : ∃ b : Nat, B = b ∧ b < 18446744073709551616) (h : Go.bits .or .u64 A B = 0) : A = 0 ∧ B = 0 := by
  obtain ⟨a, rfl, ha⟩ := hA
  obtain ⟨b, rfl, hb⟩ := hB
  rw [b_or] at h
  simp only [BitVec.toNat_or, ofInt_nat a ha, ofInt_nat b hb] at h
  have h' : a ||| b = 0 := Int.ofNat_eq_zero.mp h
  rw [Nat.or_eq_zero_iff] at h'
  exact ⟨by rw [h'.1]; rfl, by rw [h'.2]; rfl⟩
theorem hit_nat (w b : Int) : ∃ a : Nat, hit w b = a ∧ a < 18446744073709551616 := by
  unfold hit
  rw [b_and]
  exact ⟨_, rfl, BitVec.isLt _⟩
end Swar

namespace StringPlace

/-- n backslashes stand ahead of a, and no more (none ahead of lo). -/
def Run (s : ByteArray) (lo a : Int) (n : Nat) : Prop := lo ≤ a - n ∧ (∀ i, a - n ≤ i → i < a → bt s i = 92) ∧ (lo ≤ a - n - 1 → bt s (a - n - 1) ≠ 92)

theorem run_zero {s : ByteArray} {lo a : Int} (h : lo ≤ a) (hb : lo ≤ a - 1 → bt s (a - 1) ≠ 92) : Run s lo a 0 :=
  ⟨by omega, fun i h1 h2 => by omega, by simpa using hb⟩
theorem run_more {s : ByteArray} {lo a : Int} {n : Nat} (h : Run s lo a n) (hb : bt s a = 92) : Run s lo (a + 1) (n + 1) := by
  obtain ⟨h1, h2, h3⟩ := h
  refine ⟨by omega, fun i hi1 hi2 => ?_, ?_⟩
  · by_cases e : i = a
    · rw [e]; exact hb
    · exact h2 i (by omega) (by omega)
  · rw [show a + 1 - ((n + 1 : Nat) : Int) - 1 = a - n - 1 from by omega]; exact h3

/-- The bytes from b on. -/
def from_ (s : ByteArray) (b : Int) : List Int := ints (s.extract b.toNat s.size)
theorem from_len (s : ByteArray) (b : Int) (h0 : 0 ≤ b) (h1 : b ≤ s.size) : ((from_ s b).length : Int) = s.size - b := by
  unfold from_; rw [ints_length, ByteArray.size_extract]; omega
theorem from_rd (s : ByteArray) (b i : Int) (h0 : 0 ≤ b) (hi : 0 ≤ i) (h1 : b + i < s.size) : rd (from_ s b) i = bt s (b + i) := by
  unfold from_ rd
  rw [bt_getD, ints_extract, List.getD_eq_getElem?_getD, List.getD_eq_getElem?_getD, List.getElem?_take, if_pos (by omega), List.getElem?_drop]
  congr 2
  omega
theorem from_bytes (s : ByteArray) (b : Int) : ∀ z ∈ from_ s b, 0 ≤ z ∧ z ≤ 255 := ints_bytes _

section scan
variable (L : List Int) (hL : L.length ≤ 2147483647)

theorem j4_stop (x10 : Int) (h0 : 0 ≤ x10) (hx : x10 < L.length) (hL : L.length ≤ 2147483647) (x17 : Bool) (q : Int) (P : Int × Bool → Prop) (h : P (x10 + 1, true)) :
    EvP (fun k => jsonparser_stringEndConfig.j4 k L 34 x10 (L.length : Int) x17 q true) P := by
  refine EvP.succ ?_
  simp only [jsonparser_stringEndConfig.j4]
  rw [w64 (x := x10 + 1) (by omega) (by omega)]
  first | exact EvP.pos rfl (EvP.ret _ h) | exact EvP.pos trivial (EvP.ret _ h)

/-- The count of backslashes ahead of a quotation mark at x10: t of them from q on. -/
theorem l2_any (x10 : Int) (h0 : 0 ≤ x10) (hx : x10 < L.length) (hL : L.length ≤ 2147483647) (x17 : Bool) (P : Int × Bool → Prop) : ∀ (t : Nat) (q : Int), q < x10 → -1 ≤ q - t → (∀ r, q - t < r → r ≤ q → rd L r = 92) → (0 ≤ q - t → rd L (q - t) ≠ 92) →
    (t % 2 = 0 → P (x10 + 1, true)) → (t % 2 = 1 → EvP (fun k => jsonparser_stringEndConfig.l1 k L 34 (x10 + 1) (L.length : Int) x17) P) →
    EvP (fun k => jsonparser_stringEndConfig.l2 k L 34 x10 (L.length : Int) x17 q) P
  | 0, q, hq, hqt, hin, hout, h1, h2 => by
    refine EvP.succ ?_
    simp only [jsonparser_stringEndConfig.l2]
    refine EvP.ite (fun _ => j4_stop L x10 h0 hx hL x17 q P (h1 rfl)) (fun hn => ?_)
    refine EvP.pos (by omega) (EvP.pos (by omega) ?_)
    have : (rd L q != 92) = true := by
      have := hout (by omega)
      simpa using this
    rw [this]
    exact j4_stop L x10 h0 hx hL x17 q P (h1 rfl)
  | 1, q, hq, hqt, hin, hout, h1, h2 => by
    have hr : rd L q = 92 := hin q (by omega) (by omega)
    refine EvP.succ ?_
    simp only [jsonparser_stringEndConfig.l2]
    refine EvP.neg (by omega) (EvP.pos (by omega) (EvP.pos (by omega) ?_))
    have e : (rd L q != 92) = false := by rw [hr]; rfl
    rw [e]
    refine EvP.succ ?_
    simp only [jsonparser_stringEndConfig.j4]
    rw [w64 (x := x10 + 1) (by omega) (by omega), w64 (x := q - 1) (by omega) (by omega)]
    refine EvP.neg (by simp) (EvP.ite (fun _ => h2 rfl) (fun hn => ?_))
    refine EvP.pos (by omega) (EvP.pos (by omega) (EvP.neg ?_ (h2 rfl)))
    exact hout (by omega)
  | t + 2, q, hq, hqt, hin, hout, h1, h2 => by
    have hr : rd L q = 92 := hin q (by omega) (by omega)
    have hr1 : rd L (q - 1) = 92 := hin (q - 1) (by omega) (by omega)
    refine EvP.succ ?_
    simp only [jsonparser_stringEndConfig.l2]
    refine EvP.neg (by omega) (EvP.pos (by omega) (EvP.pos (by omega) ?_))
    have e : (rd L q != 92) = false := by rw [hr]; rfl
    rw [e]
    refine EvP.succ ?_
    simp only [jsonparser_stringEndConfig.j4]
    rw [w64 (x := q - 1) (by omega) (by omega), w64 (x := q - 1 - 1) (by omega) (by omega)]
    refine EvP.neg (by simp) (EvP.neg (by omega) (EvP.pos (by omega) (EvP.pos (by omega) (EvP.pos hr1 ?_))))
    refine l2_any x10 h0 hx hL x17 P t (q - 1 - 1) (by omega) (by omega) (fun r hr1 hr2 => hin r (by omega) (by omega)) ?_ (fun h => h1 (by omega)) (fun h => h2 (by omega))
    rw [show q - 1 - 1 - (t : Int) = q - ((t + 2 : Nat) : Int) from by omega]; exact hout

theorem l1_skip (hL : L.length ≤ 2147483647) (i : Int) (h0 : 0 ≤ i) (hi : i < L.length) (h34 : rd L i ≠ 34) (h92 : rd L i ≠ 92) (esc : Bool) (P : Int × Bool → Prop) (h : EvP (fun k => jsonparser_stringEndConfig.l1 k L 34 (i + 1) (L.length : Int) esc) P) :
    EvP (fun k => jsonparser_stringEndConfig.l1 k L 34 i (L.length : Int) esc) P := by
  refine EvP.succ ?_
  simp only [jsonparser_stringEndConfig.l1]
  rw [w64 (x := i + 1) (by omega) (by omega)]
  exact EvP.pos hi (EvP.pos h0 (EvP.pos hi (EvP.ite (fun _ => h) (fun _ => EvP.neg h34 (EvP.neg h92 h)))))

theorem l1_bs (hL : L.length ≤ 2147483647) (i : Int) (h0 : 0 ≤ i) (hi : i < L.length) (h92 : rd L i = 92) (esc : Bool) (P : Int × Bool → Prop) (h : EvP (fun k => jsonparser_stringEndConfig.l1 k L 34 (i + 1) (L.length : Int) true) P) :
    EvP (fun k => jsonparser_stringEndConfig.l1 k L 34 i (L.length : Int) esc) P := by
  refine EvP.succ ?_
  simp only [jsonparser_stringEndConfig.l1]
  rw [w64 (x := i + 1) (by omega) (by omega)]
  exact EvP.pos hi (EvP.pos h0 (EvP.pos hi (EvP.neg (by omega) (EvP.neg (by omega) (EvP.pos h92 h)))))

theorem l1_quote0 (hL : L.length ≤ 2147483647) (i : Int) (h0 : 0 ≤ i) (hi : i < L.length) (h34 : rd L i = 34) (P : Int × Bool → Prop) (h : P (i + 1, false)) :
    EvP (fun k => jsonparser_stringEndConfig.l1 k L 34 i (L.length : Int) false) P := by
  refine EvP.succ ?_
  simp only [jsonparser_stringEndConfig.l1]
  rw [w64 (x := i + 1) (by omega) (by omega)]
  exact EvP.pos hi (EvP.pos h0 (EvP.pos hi (EvP.neg (by omega) (EvP.pos h34 (EvP.neg (by simp) (EvP.ret _ h))))))

theorem l1_quote (hL : L.length ≤ 2147483647) (i : Int) (h0 : 0 ≤ i) (hi : i < L.length) (h34 : rd L i = 34) (n : Nat) (hn : -1 ≤ i - 1 - n) (hin : ∀ r, i - 1 - n < r → r ≤ i - 1 → rd L r = 92) (hout : 0 ≤ i - 1 - n → rd L (i - 1 - n) ≠ 92) (P : Int × Bool → Prop)
    (h1 : n % 2 = 0 → P (i + 1, true)) (h2 : n % 2 = 1 → EvP (fun k => jsonparser_stringEndConfig.l1 k L 34 (i + 1) (L.length : Int) true) P) :
    EvP (fun k => jsonparser_stringEndConfig.l1 k L 34 i (L.length : Int) true) P := by
  refine EvP.succ ?_
  simp only [jsonparser_stringEndConfig.l1]
  rw [w64 (x := i + 1) (by omega) (by omega), w64 (x := i - 1) (by omega) (by omega)]
  have hl := l2_any L i h0 hi hL true P n (i - 1) (by omega) hn hin hout h1 h2
  refine EvP.pos hi (EvP.pos h0 (EvP.pos hi (EvP.neg (by omega) (EvP.pos h34 ?_))))
  first | exact EvP.pos rfl hl | exact EvP.pos trivial hl | exact hl

/-- The steps of eight bytes: none of the bytes gone over is a quotation mark or a backslash. -/
theorem l0_any (hL : L.length ≤ 2147483647) (hB : ∀ z ∈ L, 0 ≤ z ∧ z ≤ 255) (P : Int × Bool → Prop)
    (h : ∀ i : Int, 0 ≤ i → i ≤ L.length → (∀ j, 0 ≤ j → j < i → rd L j ≠ 34 ∧ rd L j ≠ 92) → EvP (fun k => jsonparser_stringEndConfig.l1 k L 34 i (L.length : Int) false) P) : ∀ (m : Nat) (i : Int), 0 ≤ i → i ≤ L.length → (L.length : Int) - i ≤ m → (∀ j, 0 ≤ j → j < i → rd L j ≠ 34 ∧ rd L j ≠ 92) →
    EvP (fun k => jsonparser_stringEndConfig.l0 k L 34 2459565876494606882 6655295901103053916 i (L.length : Int)) P := by
  intro m
  induction m using Nat.strongRecOn with
  | _ m ih =>
  intro i h0 hi hm hno
  have hj1 : EvP (fun k => jsonparser_stringEndConfig.j1 k L 34 i (L.length : Int)) P := by
    refine EvP.succ ?_
    simp only [jsonparser_stringEndConfig.j1]
    exact h i h0 hi hno
  refine EvP.succ ?_
  simp only [jsonparser_stringEndConfig.l0]
  rw [w64 (x := i + 8) (by omega) (by omega)]
  refine EvP.ite (fun h8 => EvP.pos h0 (EvP.pos hi ?_)) (fun _ => hj1)
  have hd : (L.drop i.toNat).length = L.length - i.toNat := List.length_drop
  have hf : binary_littleEndian_Uint64.f () (L.drop i.toNat) = some (Go.Lib.leZ ((L.drop i.toNat).take 8)) := by
    unfold binary_littleEndian_Uint64.f
    exact if_pos ⟨by omega, fun z hz => hB z (List.mem_of_mem_drop (List.mem_of_mem_take hz))⟩
  rw [hf]
  simp only [Option.bind_some]
  refine EvP.ite (fun hh => ?_) (fun _ => hj1)
  have hz := Swar.bits_or_zero _ _ (Swar.hit_nat (Go.Lib.leZ ((L.drop i.toNat).take 8)) 2459565876494606882) (Swar.hit_nat (Go.Lib.leZ ((L.drop i.toNat).take 8)) 6655295901103053916) hh
  have hl8 : ((L.drop i.toNat).take 8).length = 8 := by rw [List.length_take]; omega
  have hb8 : ∀ z ∈ (L.drop i.toNat).take 8, 0 ≤ z ∧ z ≤ 255 := fun z hz => hB z (List.mem_of_mem_drop (List.mem_of_mem_take hz))
  have n1 := Swar.none_of _ hl8 hb8 34 2459565876494606882 (by decide) (by decide) hz.1
  have n2 := Swar.none_of _ hl8 hb8 92 6655295901103053916 (by decide) (by decide) hz.2
  refine ih (m - 8) (by omega) (i + 8) (by omega) (by omega) (by omega) (fun j hj1 hj2 => ?_)
  by_cases hji : j < i
  · exact hno j hj1 hji
  · have hmem : rd L j ∈ (L.drop i.toNat).take 8 := by
      unfold rd
      have hjl : j.toNat < L.length := by omega
      rw [List.getD_eq_getElem?_getD, List.getElem?_eq_getElem hjl, Option.getD_some]
      refine List.mem_iff_getElem?.2 ⟨j.toNat - i.toNat, ?_⟩
      rw [List.getElem?_take, if_pos (by omega), List.getElem?_drop, show i.toNat + (j.toNat - i.toNat) = j.toNat from by omega]
      exact List.getElem?_eq_getElem hjl
    exact ⟨n1 _ hmem, n2 _ hmem⟩
end scan

theorem body_skip {s : ByteArray} : ∀ (k : Nat) (a e : Int), Body s a e → (∀ j, a ≤ j → j < a + k → bt s j ≠ 34 ∧ bt s j ≠ 92) → Body s (a + k) e
  | 0, a, e, h, _ => by simpa using h
  | k + 1, a, e, h, hno => by
    have h0 := hno a (by omega) (by omega)
    cases h with
    | close _ _ hc => exact absurd hc h0.1
    | plain _ _ _ _ _ _ ht =>
      have := body_skip k (a + 1) e ht (fun j h1 h2 => hno j (by omega) (by omega))
      rw [show a + ((k + 1 : Nat) : Int) = a + 1 + k from by omega]; exact this
    | esc _ _ _ hc _ _ => exact absurd hc h0.2
    | uni _ _ _ hc _ _ _ => exact absurd hc h0.2

/-- What is to be told of the string whose inside begins at b and which ends at e. -/
def Ans (s : ByteArray) (b e : Int) (r : Int × Bool) : Prop := ∃ esc : Bool, r = (e - b, esc) ∧ (esc = true ↔ ∃ i, b ≤ i ∧ i < e ∧ bt s i = 92)

section walk
variable (s : ByteArray) (hn : s.size ≤ 2147483647) (b : Int) (hb : 0 ≤ b) (hbs : b ≤ s.size)

theorem quote_run (hn : s.size ≤ 2147483647) (hb : 0 ≤ b) (hbs : b ≤ s.size) (a : Int) (hba : b ≤ a) (ha : a < s.size) (h34 : bt s a = 34) (n : Nat) (hr : Run s b a n) (P : Int × Bool → Prop)
    (h1 : n % 2 = 0 → P (a - b + 1, true)) (h2 : n % 2 = 1 → EvP (fun k => jsonparser_stringEndConfig.l1 k (from_ s b) 34 (a - b + 1) ((from_ s b).length : Int) true) P) :
    EvP (fun k => jsonparser_stringEndConfig.l1 k (from_ s b) 34 (a - b) ((from_ s b).length : Int) true) P := by
  have hlen := from_len s b hb hbs
  obtain ⟨r1, r2, r3⟩ := hr
  refine l1_quote (from_ s b) (by omega) (a - b) (by omega) (by omega) ?_ n (by omega) (fun r h1 h2 => ?_) (fun h => ?_) P h1 h2
  · rw [from_rd s b _ hb (by omega) (by omega), show b + (a - b) = a from by omega]; exact h34
  · rw [from_rd s b _ hb (by omega) (by omega)]; exact r2 _ (by omega) (by omega)
  · rw [from_rd s b _ hb (by omega) (by omega), show b + (a - b - 1 - n) = a - n - 1 from by omega]; exact r3 (by omega)

theorem skip (hn : s.size ≤ 2147483647) (hb : 0 ≤ b) (hbs : b ≤ s.size) (a : Int) (hba : b ≤ a) (ha : a < s.size) (h34 : bt s a ≠ 34) (h92 : bt s a ≠ 92) (esc : Bool) (P : Int × Bool → Prop) (h : EvP (fun k => jsonparser_stringEndConfig.l1 k (from_ s b) 34 (a + 1 - b) ((from_ s b).length : Int) esc) P) :
    EvP (fun k => jsonparser_stringEndConfig.l1 k (from_ s b) 34 (a - b) ((from_ s b).length : Int) esc) P := by
  have hlen := from_len s b hb hbs
  have hr : rd (from_ s b) (a - b) = bt s a := by rw [from_rd s b _ hb (by omega) (by omega), show b + (a - b) = a from by omega]
  refine l1_skip (from_ s b) (by omega) (a - b) (by omega) (by omega) (by rw [hr]; exact h34) (by rw [hr]; exact h92) esc P ?_
  rw [show a - b + 1 = a + 1 - b from by omega]; exact h

theorem bslash (hn : s.size ≤ 2147483647) (hb : 0 ≤ b) (hbs : b ≤ s.size) (a : Int) (hba : b ≤ a) (ha : a < s.size) (h92 : bt s a = 92) (esc : Bool) (P : Int × Bool → Prop) (h : EvP (fun k => jsonparser_stringEndConfig.l1 k (from_ s b) 34 (a + 1 - b) ((from_ s b).length : Int) true) P) :
    EvP (fun k => jsonparser_stringEndConfig.l1 k (from_ s b) 34 (a - b) ((from_ s b).length : Int) esc) P := by
  have hlen := from_len s b hb hbs
  have hr : rd (from_ s b) (a - b) = bt s a := by rw [from_rd s b _ hb (by omega) (by omega), show b + (a - b) = a from by omega]
  refine l1_bs (from_ s b) (by omega) (a - b) (by omega) (by omega) (by rw [hr]; exact h92) esc P ?_
  rw [show a - b + 1 = a + 1 - b from by omega]; exact h

theorem l1_body (hn : s.size ≤ 2147483647) (hb : 0 ≤ b) (hbs : b ≤ s.size) {a e : Int} (hB : Body s a e) : b ≤ a → ∀ esc : Bool, (esc = true ↔ ∃ i, b ≤ i ∧ i < a ∧ bt s i = 92) → (∃ m, Run s b a (2 * m)) →
    EvP (fun k => jsonparser_stringEndConfig.l1 k (from_ s b) 34 (a - b) ((from_ s b).length : Int) esc) (Ans s b e) := by
  have hlen := from_len s b hb hbs
  induction hB with
  | close a h hc =>
    rintro hba esc hesc ⟨m, hr⟩
    have hr0 : rd (from_ s b) (a - b) = bt s a := by rw [from_rd s b _ hb (by omega) (by omega), show b + (a - b) = a from by omega]
    have hE : esc = true ↔ ∃ i, b ≤ i ∧ i < a + 1 ∧ bt s i = 92 := by
      rw [hesc]
      constructor
      · rintro ⟨i, h1, h2, h3⟩; exact ⟨i, h1, by omega, h3⟩
      · rintro ⟨i, h1, h2, h3⟩
        by_cases hi : i = a
        · rw [hi, hc] at h3; cases h3
        · exact ⟨i, h1, by omega, h3⟩
    cases esc with
    | false => exact l1_quote0 (from_ s b) (by omega) (a - b) (by omega) (by omega) (hr0.trans hc) _ ⟨false, by rw [show a - b + 1 = a + 1 - b from by omega], hE⟩
    | true =>
      refine quote_run s b hn hb hbs a hba h hc (2 * m) hr _ (fun _ => ?_) (fun h => by omega)
      exact ⟨true, by rw [show a - b + 1 = a + 1 - b from by omega], hE⟩
  | plain a e h h1 h2 h3 ht ih =>
    rintro hba esc hesc _
    refine skip s b hn hb hbs a hba h h1 h2 esc _ (ih (by omega) esc ?_ ⟨0, run_zero (by omega) (fun _ => ?_)⟩)
    · rw [hesc]
      constructor
      · rintro ⟨i, g1, g2, g3⟩; exact ⟨i, g1, by omega, g3⟩
      · rintro ⟨i, g1, g2, g3⟩
        by_cases hi : i = a
        · rw [hi] at g3; exact absurd g3 h2
        · exact ⟨i, g1, by omega, g3⟩
    · rw [show a + 1 - 1 = a from by omega]; exact h2
  | esc a e h h1 h2 ht ih =>
    rintro hba esc hesc ⟨m, hr⟩
    refine bslash s b hn hb hbs a hba (by omega) h1 esc _ ?_
    have hr1 := run_more hr h1
    have hT : ∀ c : Int, a < c → (true = true ↔ ∃ i, b ≤ i ∧ i < c ∧ bt s i = 92) := fun c hc => ⟨fun _ => ⟨a, hba, hc, h1⟩, fun _ => rfl⟩
    by_cases hq : bt s (a + 1) = 34
    · refine quote_run s b hn hb hbs (a + 1) (by omega) h hq (2 * m + 1) hr1 _ (fun h => by omega) (fun _ => ?_)
      rw [show a + 1 - b + 1 = a + 2 - b from by omega]
      refine ih (by omega) true (hT _ (by omega)) ⟨0, run_zero (by omega) (fun _ => ?_)⟩
      rw [show a + 2 - 1 = a + 1 from by omega]; omega
    · by_cases hs : bt s (a + 1) = 92
      · refine bslash s b hn hb hbs (a + 1) (by omega) h hs true _ ?_
        rw [show a + 1 + 1 = a + 2 from by omega]
        have := run_more hr1 hs
        rw [show a + 1 + 1 = a + 2 from by omega] at this
        exact ih (by omega) true (hT _ (by omega)) ⟨m + 1, this⟩
      · refine skip s b hn hb hbs (a + 1) (by omega) h hq hs true _ ?_
        rw [show a + 1 + 1 = a + 2 from by omega]
        refine ih (by omega) true (hT _ (by omega)) ⟨0, run_zero (by omega) (fun _ => ?_)⟩
        rw [show a + 2 - 1 = a + 1 from by omega]; exact hs
  | uni a e h h1 h2 hx ht ih =>
    rintro hba esc hesc ⟨m, hr⟩
    have x1 := hx (a + 2) (by omega) (by omega)
    have x2 := hx (a + 3) (by omega) (by omega)
    have x3 := hx (a + 4) (by omega) (by omega)
    have x4 := hx (a + 5) (by omega) (by omega)
    unfold hexd at x1 x2 x3 x4
    refine bslash s b hn hb hbs a hba (by omega) h1 esc _ ?_
    refine skip s b hn hb hbs (a + 1) (by omega) (by omega) (by omega) (by omega) true _ ?_
    rw [show a + 1 + 1 = a + 2 from by omega]
    refine skip s b hn hb hbs (a + 2) (by omega) (by omega) (by omega) (by omega) true _ ?_
    rw [show a + 2 + 1 = a + 3 from by omega]
    refine skip s b hn hb hbs (a + 3) (by omega) (by omega) (by omega) (by omega) true _ ?_
    rw [show a + 3 + 1 = a + 4 from by omega]
    refine skip s b hn hb hbs (a + 4) (by omega) (by omega) (by omega) (by omega) true _ ?_
    rw [show a + 4 + 1 = a + 5 from by omega]
    refine skip s b hn hb hbs (a + 5) (by omega) (by omega) (by omega) (by omega) true _ ?_
    rw [show a + 5 + 1 = a + 6 from by omega]
    refine ih (by omega) true ⟨fun _ => ⟨a, hba, by omega, h1⟩, fun _ => rfl⟩ ⟨0, run_zero (by omega) (fun _ => ?_)⟩
    rw [show a + 6 - 1 = a + 5 from by omega]; omega

end walk

theorem impl_any (s : ByteArray) (hn : s.size ≤ 2147483647) {q e : Int} (hS : StrAt s q e) : EvP (fun k => impl_JpStringEnd.f k (s.extract (q + 1).toNat s.size)) (Ans s (q + 1) e) := by
  have hrg := hS.range
  obtain ⟨h0, hq, hB⟩ := hS
  have hlen := from_len s (q + 1) (by omega) (by omega)
  have hmain : EvP (fun k => jsonparser_stringEnd.f k (bytesOf (s.extract (q + 1).toNat s.size))) (Ans s (q + 1) e) := by
    unfold jsonparser_stringEnd.f jsonparser_stringEndConfig.f
    rw [bytesOf_ints]
    refine EvP.bind (Q := Ans s (q + 1) e) ?_ (fun a ha => EvP.ret _ ha)
    have e8 : IntKind.u64.wrap ((IntKind.u64.wrap (34)) * 72340172838076673) = 2459565876494606882 := by rw [IntKind.wrap_u64, IntKind.wrap_u64]; decide
    rw [e8]
    refine l0_any (from_ s (q + 1)) (by omega) (from_bytes s (q + 1)) _ (fun i hi0 hi1 hno => ?_) (from_ s (q + 1)).length 0 (by omega) (by omega) (by omega) (fun j _ _ => by omega)
    have hB' : Body s (q + 1 + (i.toNat : Int)) e := body_skip i.toNat (q + 1) e hB (fun j h1 h2 => by
      have h3 := hno (j - (q + 1)) (by omega) (by omega)
      rw [from_rd s (q + 1) _ (by omega) (by omega) (by omega), show q + 1 + (j - (q + 1)) = j from by omega] at h3
      exact h3)
    have hnone : ∀ j, q + 1 ≤ j → j < q + 1 + (i.toNat : Int) → bt s j ≠ 92 := fun j h1 h2 => by
      have h3 := (hno (j - (q + 1)) (by omega) (by omega)).2
      rw [from_rd s (q + 1) _ (by omega) (by omega) (by omega), show q + 1 + (j - (q + 1)) = j from by omega] at h3
      exact h3
    have hl1 := l1_body s (q + 1) hn (by omega) (by omega) hB' (by omega) false ⟨(fun h => by cases h), fun ⟨j, h1, h2, h3⟩ => absurd h3 (hnone j h1 h2)⟩ ⟨0, run_zero (by omega) (fun h => hnone _ h (by omega))⟩
    rw [show q + 1 + (i.toNat : Int) - (q + 1) = i from by omega] at hl1
    exact hl1
  unfold impl_JpStringEnd.f jsonparser_DoorStringEnd.f
  have hsz : (s.extract (q + 1).toNat s.size).size ≤ 140737488355328 := by rw [ByteArray.size_extract]; omega
  refine EvP.bind (EvP.pos hsz (EvP.bind hmain (fun a ha => EvP.ret a ha))) (fun a ha => EvP.ret a ha)

theorem escaped_loop (t : ByteArray) (hn : t.size ≤ 2147483647) (d : Nat) : ∀ i : Int, 0 ≤ i → i ≤ t.size → (t.size : Int) - i = d → (∀ j, 0 ≤ j → j < i → bt t j ≠ 92) →
    EvP (fun k => spec_Escaped.l0 k t i) (fun r => r = true ↔ ∃ j, 0 ≤ j ∧ j < (t.size : Int) ∧ bt t j = 92) := by
  induction d with
  | zero =>
    intro i h0 h1 hd hno
    refine EvP.succ ?_
    simp only [spec_Escaped.l0]
    refine EvP.neg (by omega) (EvP.ret _ ⟨(fun h => by cases h), ?_⟩)
    rintro ⟨j, hj1, hj2, hj3⟩
    exact absurd hj3 (hno j hj1 (by omega))
  | succ d ih =>
    intro i h0 h1 hd hno
    refine EvP.succ ?_
    simp only [spec_Escaped.l0]
    refine EvP.pos (by omega) (EvP.pos h0 (EvP.ite (fun h => EvP.ret _ ⟨fun _ => ⟨i, h0, by omega, h⟩, fun _ => rfl⟩) (fun h => ?_)))
    rw [w64 (by omega) (by omega)]
    exact ih (i + 1) (by omega) (by omega) (by omega) (fun j hj1 hj2 => by
      by_cases he : j = i
      · rw [he]; exact h
      · exact hno j hj1 (by omega))

theorem bt_extract (s : ByteArray) (a e j : Int) (h0 : 0 ≤ a) (hae : a ≤ e) (hj : 0 ≤ j) (hje : j < e - a) : bt (s.extract a.toNat e.toNat) j = bt s (a + j) := by
  rw [bt_getD, bt_getD, ints_extract, List.getD_eq_getElem?_getD, List.getD_eq_getElem?_getD, List.getElem?_take, if_pos (by omega), List.getElem?_drop]
  congr 2
  omega

theorem escaped_any (s : ByteArray) (hn : s.size ≤ 2147483647) (a e : Int) (h0 : 0 ≤ a) (hae : a < e) (he : e ≤ s.size) (hq : bt s a ≠ 92) (esc : Bool) (hesc : esc = true ↔ ∃ i, a + 1 ≤ i ∧ i < e ∧ bt s i = 92) :
    EvP (fun k => spec_Escaped.f k (s.extract a.toNat e.toNat)) (fun r => r = esc) := by
  have hsz : ((s.extract a.toNat e.toNat).size : Int) = e - a := by simp only [ByteArray.size_extract]; omega
  unfold spec_Escaped.f
  refine (escaped_loop (s.extract a.toNat e.toNat) (by omega) (s.extract a.toNat e.toNat).size 0 (by omega) (by omega) (by omega) (fun j _ _ => by omega)).mono ?_
  intro r hr
  rw [Bool.eq_iff_iff, hr, hesc, hsz]
  constructor
  · rintro ⟨j, hj1, hj2, hj3⟩
    rw [bt_extract s a e j h0 (by omega) hj1 hj2] at hj3
    refine ⟨a + j, ?_, by omega, hj3⟩
    by_cases hz : j = 0
    · rw [hz, Int.add_zero] at hj3; exact absurd hj3 hq
    · omega
  · rintro ⟨i, hi1, hi2, hi3⟩
    refine ⟨i - a, by omega, by omega, ?_⟩
    rw [bt_extract s a e (i - a) h0 (by omega) (by omega) (by omega), show a + (i - a) = i from by omega]
    exact hi3


/-- The strings of a value alone: itself, and its names. -/
def spans (q : S25) : List S30 := (if q.f0 = 4 then [⟨q.f1, q.f2⟩] else []) ++ q.f3

theorem spans_len : ∀ l : List S25, (l.flatMap spans).length ≤ (l.map wgt).sum
  | [] => by simp
  | q :: t => by
    have h1 := spans_len t
    have h2 : (spans q).length ≤ wgt q := by
      unfold spans wgt
      rw [List.length_append]
      split <;> simp <;> omega
    rw [List.flatMap_cons, List.length_append, List.map_cons, List.sum_cons]
    omega

/-- The strings of a tree, in order. -/
def strN (n : Nat) (v : S25) : List S30 := (allN n v).flatMap spans
theorem strN_succ (n : Nat) (v : S25) : strN (n + 1) v = spans v ++ v.f4.flatMap (strN n) := by
  unfold strN
  rw [allN, List.flatMap_cons, List.flatMap_assoc]

theorem str_loop (n : Nat) (xs : List S25) (hlen : xs.length ≤ 2147483647) (hf : ∀ v ∈ xs, EvP (fun k => laws_jpStrings.f k v.f0 v.f1 v.f2 v.f3 v.f4) (fun r => r = strN n v)) : ∀ (rest : List S25) (acc : List S30) (i : Int), 0 ≤ i → xs.drop i.toNat = rest → acc.length + (rest.flatMap (strN n)).length ≤ 4294967296 →
    EvP (fun k => laws_jpStrings.l0 k acc xs (xs.length : Int) i) (fun r => r = acc ++ rest.flatMap (strN n)) := by
  intro rest
  induction rest with
  | nil =>
    intro acc i h0 hd hl
    have := drop_nil_len h0 hd
    refine EvP.succ ?_
    simp only [laws_jpStrings.l0]
    exact EvP.neg (by omega) (EvP.ret _ (by simp))
  | cons v t ih =>
    intro acc i h0 hd hl
    obtain ⟨hr, hlt, hd2⟩ := rd_drop h0 hd
    have hmem : v ∈ xs := List.mem_of_mem_drop (by rw [hd]; exact List.mem_cons_self)
    simp only [List.flatMap_cons, List.length_append] at hl
    refine EvP.succ ?_
    simp only [laws_jpStrings.l0, hr]
    refine EvP.pos hlt (EvP.pos h0 (EvP.pos hlt ?_))
    refine EvP.bind (hf v hmem) ?_
    rintro r rfl
    refine EvP.pos (by omega) ?_
    rw [w64 (by omega) (by omega)]
    refine (ih _ (i + 1) (by omega) hd2 (by simp only [List.length_append]; omega)).mono ?_
    rintro r rfl
    simp

theorem str_f (s : ByteArray) (hn : s.size ≤ 2147483647) : ∀ (n : Nat) (v : S25), ValN s n v → EvP (fun k => laws_jpStrings.f k v.f0 v.f1 v.f2 v.f3 v.f4) (fun r => r = strN n v) := by
  intro n
  induction n with
  | zero => intro v h; exact h.elim
  | succ n ih =>
    intro v h
    obtain ⟨p1, p2, _, p4⟩ := h.parts
    have hr := ValN.range _ _ h
    have hw := allN_wgt _ _ h
    have hl := spans_len (allN (n + 1) v)
    have hx : v.f4.length ≤ 2147483647 := by
      have h1 := p4 (fun _ => 1) (fun x hx => by have := ValN.range _ _ hx; omega)
      have h2 : (v.f4.map fun _ => 1).sum = v.f4.length := sum_ones v.f4
      rw [h2] at h1
      omega
    have hl' : (strN (n + 1) v).length ≤ ((allN (n + 1) v).map wgt).sum := hl
    rw [strN_succ, List.length_append] at hl'
    have hs3 : (spans v).length = (if v.f0 = 4 then 1 else 0) + v.f3.length := by
      unfold spans; rw [List.length_append]; split <;> simp
    have hj : ∀ acc : List S30, acc ++ v.f3 = spans v → EvP (fun k => laws_jpStrings.j0 k acc v.f0 v.f1 v.f2 v.f3 v.f4) (fun r => r = strN (n + 1) v) := by
      intro acc hacc
      have hal := congrArg List.length hacc
      rw [List.length_append] at hal
      refine EvP.succ ?_
      simp only [laws_jpStrings.j0]
      refine EvP.pos (by omega) ?_
      rw [hacc]
      refine (str_loop n v.f4 hx (fun x hx => ih x (p1 x hx)) v.f4 (spans v) 0 (by omega) (by simp) (by omega)).mono ?_
      rintro r rfl
      rw [strN_succ]
    refine EvP.succ ?_
    simp only [laws_jpStrings.f]
    refine EvP.ite (fun h4 => EvP.pos (by simp) (hj _ ?_)) (fun h4 => hj _ ?_)
    · unfold spans; rw [if_pos h4]; rfl
    · unfold spans; rw [if_neg h4]

theorem law_l0 (s : ByteArray) (hn : s.size ≤ 2147483647) (xs : List S30) (hlen : xs.length ≤ 2147483647) (hall : ∀ q ∈ xs, StrAt s q.f0 q.f1) : ∀ (rest : List S30) (i : Int), 0 ≤ i → xs.drop i.toNat = rest →
    EvP (fun k => laws_FnJpStringPlace.l0 k s xs (xs.length : Int) i) (fun r => r = true) := by
  intro rest
  induction rest with
  | nil =>
    intro i h0 hd
    have := drop_nil_len h0 hd
    refine EvP.succ ?_
    simp only [laws_FnJpStringPlace.l0]
    exact EvP.neg (by omega) (EvP.ret _ rfl)
  | cons v t ih =>
    intro i h0 hd
    obtain ⟨hr, hlt, hd2⟩ := rdS_drop h0 hd
    have hS := hall v (List.mem_of_mem_drop (by rw [hd]; exact List.mem_cons_self))
    have hrg := hS.range
    have h0b := hS.1
    refine EvP.succ ?_
    simp only [laws_FnJpStringPlace.l0, hr]
    rw [w64 (x := v.f0 + 1) (by omega) (by omega), w64 (x := v.f1 - v.f0) (by omega) (by omega), w64 (x := v.f1 - v.f0 - 1) (by omega) (by omega), w64 (x := i + 1) (by omega) (by omega)]
    refine EvP.pos hlt (EvP.pos h0 (EvP.pos hlt (EvP.pos (by omega) (EvP.pos (by omega) ?_))))
    refine EvP.bind (impl_any s hn hS) ?_
    rintro r ⟨esc, rfl, hesc⟩
    dsimp only
    refine EvP.pos (by omega) (EvP.pos h0b (EvP.pos (by omega) (EvP.pos (by omega) ?_)))
    refine EvP.bind (escaped_any s hn v.f0 v.f1 h0b (by omega) (by omega) (by rw [hS.2.1]; omega) esc hesc) ?_
    rintro r rfl
    exact EvP.neg (by simp) (ih (i + 1) (by omega) hd2)

end StringPlace

theorem FnJpStringPlace : laws_FnJpStringPlace.Pure := by
  intro s _
  apply EvP.told
  unfold laws_FnJpStringPlace.f
  refine EvP.ite (fun _ => EvP.ret _ rfl) (fun hn => EvP.ite (fun _ => EvP.ret _ rfl) (fun hn4 => ?_))
  have hn' : s.size ≤ 2147483647 := by omega
  refine EvP.bind (places_f s hn') ?_
  rintro r ⟨kind, b, e, ns, ks, ok, rfl, hok⟩
  dsimp only
  refine EvP.ite (fun h => ?_) (fun _ => EvP.ret _ rfl)
  obtain ⟨⟨n, hv⟩, _, _⟩ := hok h
  refine EvP.bind (StringPlace.str_f s hn' n ⟨kind, b, e, ns, ks⟩ hv) ?_
  rintro r rfl
  have hrg := ValN.range _ _ hv
  have hw := allN_wgt _ _ hv
  have hl2 := StringPlace.spans_len (allN n ⟨kind, b, e, ns, ks⟩)
  have hm := allN_mem _ _ hv
  dsimp only at hrg hw
  refine StringPlace.law_l0 s hn' _ (by unfold StringPlace.strN; omega) ?_ _ 0 (by omega) rfl
  intro q hq
  unfold StringPlace.strN at hq
  rw [List.mem_flatMap] at hq
  obtain ⟨v, hv1, hq⟩ := hq
  obtain ⟨m, hvm⟩ := hm v hv1
  cases m with
  | zero => exact hvm.elim
  | succ m =>
    obtain ⟨_, p2, p3, _⟩ := hvm.parts
    unfold StringPlace.spans at hq
    rcases List.mem_append.1 hq with hq | hq
    · split at hq
      · rename_i h4
        rw [List.mem_singleton] at hq
        rw [hq]; exact p3 h4
      · cases hq
    · exact p2 q hq

end Go.Proofs.YtkdpkenhhcgnbaaDoor.Pure
