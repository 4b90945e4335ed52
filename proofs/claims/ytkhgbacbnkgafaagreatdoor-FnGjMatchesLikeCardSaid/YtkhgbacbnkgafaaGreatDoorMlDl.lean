/- Plain law of unicode/utf8's reader of a text's last character (law PFnGjMatchesLike): behind any bytes, the one character of UTF-8 that ends the text. -/
import Derived.Test.YtkhgbacbnkgafaaGreatDoorMlFi
import Derived.Test.YtkhgbacbnkgafaaGreatDoorUtf8L
import Derived.Lib.DecodeN
import Derived.Lib.SpaceU
set_option linter.unusedVariables false
namespace Go.Proofs.YtkhgbacbnkgafaaGreatDoor.PFnGjMatchesLike.Gb
open Go.RowKit Go.Proofs.YtkhgbacbnkgafaaGreatDoor.PFnGjMatchesLike Go.Proofs.YtkhgbacbnkgafaaGreatDoor.PFnGjMatchesLike.Uc Go.Proofs.YtkhgbacbnkgafaaGreatDoorW.PrintWords Go.Proofs.YtkhgbacbnkgafaaGreatDoorW.PrintLast Go.Proofs.YtkhgbacbnkgafaaGreatDoor.EvL Go.Proofs.YtkhgbacbnkgafaaGreatDoor.StrL

theorem decL2 (a b : UInt8) : Lib.decodeL [a, b] = Lib.decodeN 2 a.toNat b.toNat 0 0 := by unfold Lib.decodeL; rw [Lib.decode_at]; rfl
theorem decL3 (a b c : UInt8) : Lib.decodeL [a, b, c] = Lib.decodeN 3 a.toNat b.toNat c.toNat 0 := by unfold Lib.decodeL; rw [Lib.decode_at]; rfl
theorem decL4 (a b c d : UInt8) : Lib.decodeL [a, b, c, d] = Lib.decodeN 4 a.toNat b.toNat c.toNat d.toNat := by unfold Lib.decodeL; rw [Lib.decode_at]; rfl

theorem getD_back (p x : List UInt8) (k : Nat) (h : 1 ≤ k) (hk : k ≤ x.length) : (p ++ x).getD ((p ++ x).length - k) 0 = x.getD (x.length - k) 0 := by
  rw [List.length_append, List.getD_eq_getElem?_getD, List.getElem?_append_right (by omega), ← List.getD_eq_getElem?_getD]
  congr 1; omega

theorem start_of (b : UInt8) (h : 192 ≤ b.toNat) : Lib.runeStartB b = true := by unfold Lib.runeStartB; have := b.toNat_lt; simp; omega
theorem cont_of (b : UInt8) (h : 128 ≤ b.toNat) (h2 : b.toNat ≤ 191) : Lib.runeStartB b = false := by unfold Lib.runeStartB; simp; omega

theorem last2 (p : List UInt8) (a b : UInt8) (c : Int) (h0 : 194 ≤ a.toNat ∧ a.toNat ≤ 223) (h1 : 128 ≤ b.toNat ∧ b.toNat ≤ 191) (hc : c = ((a.toNat : Int) - 192) * 64 + (b.toNat : Int) - 128) :
    (((Lib.decodeLastL (p ++ [a, b])).1 : Int), ((Lib.decodeLastL (p ++ [a, b])).2 : Int)) = (c, 2) := by
  have g1 := getD_back p [a, b] 1 (by simp) (by simp)
  have g2 := getD_back p [a, b] 2 (by simp) (by simp)
  simp only [List.length_cons, List.length_nil, Nat.reduceAdd, Nat.reduceSub, List.getD_cons_succ, List.getD_cons_zero] at g1 g2
  have hs : Lib.lastStart (p ++ [a, b]) = p.length := by
    unfold Lib.lastStart
    dsimp only
    rw [if_neg (by simp), if_pos (by rw [g2]; exact start_of a (by omega))]; simp
  unfold Lib.decodeLastL
  rw [if_neg (by simp), g1, if_neg (by omega), hs]
  simp only [List.drop_left]
  rw [decL2]
  have hd : Lib.decodeN 2 a.toNat b.toNat 0 0 = (a.toNat % 32 * 64 + b.toNat % 64, 2) := by
    unfold Lib.decodeN
    rw [if_neg (by omega), if_pos (by omega), if_pos (by omega)]
  rw [hd, if_pos (by simp)]
  simp only [Prod.mk.injEq]
  omega

theorem last3 (p : List UInt8) (a b d : UInt8) (c : Int) (h0 : 224 ≤ a.toNat ∧ a.toNat ≤ 239) (h1 : 128 ≤ b.toNat ∧ b.toNat ≤ 191) (h2 : 128 ≤ d.toNat ∧ d.toNat ≤ 191) (hc : c = (((a.toNat : Int) - 224) * 64 + (b.toNat : Int) - 128) * 64 + (d.toNat : Int) - 128) (hl : 2048 ≤ c) (hs : ¬ (55296 ≤ c ∧ c ≤ 57343)) :
    (((Lib.decodeLastL (p ++ [a, b, d])).1 : Int), ((Lib.decodeLastL (p ++ [a, b, d])).2 : Int)) = (c, 3) := by
  have g1 := getD_back p [a, b, d] 1 (by simp) (by simp)
  have g2 := getD_back p [a, b, d] 2 (by simp) (by simp)
  have g3 := getD_back p [a, b, d] 3 (by simp) (by simp)
  simp only [List.length_cons, List.length_nil, Nat.reduceAdd, Nat.reduceSub, List.getD_cons_succ, List.getD_cons_zero] at g1 g2 g3
  have hs : Lib.lastStart (p ++ [a, b, d]) = p.length := by
    unfold Lib.lastStart
    dsimp only
    rw [if_neg (by simp), if_neg (by rw [g2, cont_of b (by omega) (by omega)]; simp), if_neg (by simp), if_pos (by rw [g3]; exact start_of a (by omega))]; simp
  unfold Lib.decodeLastL
  rw [if_neg (by simp), g1, if_neg (by omega), hs]
  simp only [List.drop_left]
  rw [decL3]
  have hd : Lib.decodeN 3 a.toNat b.toNat d.toNat 0 = (a.toNat % 16 * 4096 + b.toNat % 64 * 64 + d.toNat % 64, 3) := by
    unfold Lib.decodeN
    rw [if_neg (by omega), if_neg (by omega), if_pos (by omega), if_pos (by omega)]
  rw [hd, if_pos (by simp)]
  simp only [Prod.mk.injEq]
  omega

theorem last4 (p : List UInt8) (a b d f : UInt8) (c : Int) (h0 : 240 ≤ a.toNat ∧ a.toNat ≤ 244) (h1 : 128 ≤ b.toNat ∧ b.toNat ≤ 191) (h2 : 128 ≤ d.toNat ∧ d.toNat ≤ 191) (h3 : 128 ≤ f.toNat ∧ f.toNat ≤ 191) (hc : c = ((((a.toNat : Int) - 240) * 64 + (b.toNat : Int) - 128) * 64 + (d.toNat : Int) - 128) * 64 + (f.toNat : Int) - 128) (hl : 65536 ≤ c) (hm : c ≤ 1114111) :
    (((Lib.decodeLastL (p ++ [a, b, d, f])).1 : Int), ((Lib.decodeLastL (p ++ [a, b, d, f])).2 : Int)) = (c, 4) := by
  have g1 := getD_back p [a, b, d, f] 1 (by simp) (by simp)
  have g2 := getD_back p [a, b, d, f] 2 (by simp) (by simp)
  have g3 := getD_back p [a, b, d, f] 3 (by simp) (by simp)
  have g4 := getD_back p [a, b, d, f] 4 (by simp) (by simp)
  simp only [List.length_cons, List.length_nil, Nat.reduceAdd, Nat.reduceSub, List.getD_cons_succ, List.getD_cons_zero] at g1 g2 g3 g4
  have hs : Lib.lastStart (p ++ [a, b, d, f]) = p.length := by
    unfold Lib.lastStart
    dsimp only
    rw [if_neg (by simp), if_neg (by rw [g2, cont_of d (by omega) (by omega)]; simp), if_neg (by simp), if_neg (by rw [g3, cont_of b (by omega) (by omega)]; simp), if_neg (by simp), if_pos (by rw [g4]; exact start_of a (by omega))]; simp
  unfold Lib.decodeLastL
  rw [if_neg (by simp), g1, if_neg (by omega), hs]
  simp only [List.drop_left]
  rw [decL4]
  have hd : Lib.decodeN 4 a.toNat b.toNat d.toNat f.toNat = (a.toNat % 8 * 262144 + b.toNat % 64 * 4096 + d.toNat % 64 * 64 + f.toNat % 64, 4) := by
    unfold Lib.decodeN
    rw [if_neg (by omega), if_neg (by omega), if_neg (by omega), if_pos (by omega), if_pos (by omega)]
  rw [hd, if_pos (by simp)]
  simp only [Prod.mk.injEq]
  omega

theorem last1 (p : List UInt8) (a : UInt8) (h0 : a.toNat < 128) : (((Lib.decodeLastL (p ++ [a])).1 : Int), ((Lib.decodeLastL (p ++ [a])).2 : Int)) = ((a.toNat : Int), 1) := by
  have g1 := getD_back p [a] 1 (by simp) (by simp)
  simp only [List.length_cons, List.length_nil, Nat.reduceAdd, Nat.reduceSub, List.getD_cons_zero] at g1
  unfold Lib.decodeLastL
  rw [if_neg (by simp), g1, if_pos h0]; rfl

theorem declast {s : ByteArray} {p x : List Int} {c : Int} (hn : s.size ≤ 2147483647) (h : ints s = p ++ x) (hx : Ch x c) : utf8_DecodeLastRuneInString.f s = some (c, (x.length : Int)) := by
  unfold utf8_DecodeLastRuneInString.f
  rw [if_pos (by omega)]
  unfold ints at h
  obtain ⟨up, ux, hu, _, hx2⟩ := List.map_eq_append_iff.1 h
  rw [hu]
  congr 1
  cases hx with
  | one b h0 h1 =>
    match ux, hx2 with
    | [a], hx2 =>
      simp only [List.map_cons, List.map_nil, List.cons.injEq, and_true] at hx2
      subst hx2
      exact last1 up a (by omega)
  | two b0 b1 c h0 h1 hc =>
    match ux, hx2 with
    | [a, b], hx2 =>
      simp only [List.map_cons, List.map_nil, List.cons.injEq, and_true] at hx2
      obtain ⟨rfl, rfl⟩ := hx2
      exact last2 up a b c (by omega) (by omega) hc
  | three b0 b1 b2 c h0 h1 h2 hc hl hs =>
    match ux, hx2 with
    | [a, b, d], hx2 =>
      simp only [List.map_cons, List.map_nil, List.cons.injEq, and_true] at hx2
      obtain ⟨rfl, rfl, rfl⟩ := hx2
      exact last3 up a b d c (by omega) (by omega) (by omega) hc hl hs
  | four b0 b1 b2 b3 c h0 h1 h2 h3 hc hl hm =>
    match ux, hx2 with
    | [a, b, d, f], hx2 =>
      simp only [List.map_cons, List.map_nil, List.cons.injEq, and_true] at hx2
      obtain ⟨rfl, rfl, rfl, rfl⟩ := hx2
      exact last4 up a b d f c (by omega) (by omega) (by omega) (by omega) hc hl hm

end Go.Proofs.YtkhgbacbnkgafaaGreatDoor.PFnGjMatchesLike.Gb
