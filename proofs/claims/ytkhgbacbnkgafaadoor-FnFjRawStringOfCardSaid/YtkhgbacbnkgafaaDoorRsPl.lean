/- Plain law of a dressed string: characters and their pieces (as themselves, as short escapes, as \u escapes); what the readers make of them. -/
import Derived.Test.YtkhgbacbnkgafaaDoorRsCh
import Derived.Test.YtkhgbacbnkgafaaDoorRsLx
import Derived.Test.YtkhgbacbnkgafaaDoorJTree
set_option linter.unusedVariables false
namespace Go.Proofs.YtkhgbacbnkgafaaDoor.Rs
open Go.RowKit Go.Proofs.YtkhgbacbnkgafaaDoor.U8 Go.Proofs.YtkhgbacbnkgafaaDoor.U8.Uc Go.Proofs.YtkhgbacbnkgafaaDoor.Lx Go.Proofs.YtkhgbacbnkgafaaDoor.JTr Go.Proofs.YtkhgbacbnkgafaaDoorW.PrintWords Go.Proofs.YtkhgbacbnkgafaaDoorW.PrintLast Go.Proofs.YtkhgbacbnkgafaaDoor.EvL Go.Proofs.YtkhgbacbnkgafaaDoor.StrL

theorem Ch.len {x : List Int} {c : Int} (h : Ch x c) : 1 ≤ x.length ∧ x.length ≤ 4 := by cases h <;> simp

inductive Txt : List Int → List Int → Prop
  | nil : Txt [] []
  | cons {x t : List Int} {c : Int} {cs : List Int} (hx : Ch x c) (ht : Txt t cs) : Txt (x ++ t) (c :: cs)

theorem utf8_l0 {s : ByteArray} (hn : s.size ≤ 2147483647) : ∀ (d : Nat) (i : Int) (l : List Int), 0 ≤ i → i ≤ s.size → (ints s).drop i.toNat = l → l.length ≤ d →
    EvP (fun k => spec_UTF8.l0 k s i) (fun r => r = true → ∃ cs, Txt l cs)
  | 0, i, l, h0, h1, hl, hd => by
    obtain rfl : l = [] := List.eq_nil_of_length_eq_zero (by omega)
    have := size_of_drop h0 h1 hl
    refine EvP.succ ?_
    simp only [spec_UTF8.l0]
    exact EvP.neg (by simp at this; omega) (EvP.ret _ (fun _ => ⟨[], .nil⟩))
  | d + 1, i, l, h0, h1, hl, hd => by
    have hsz := size_of_drop h0 h1 hl
    refine EvP.succ ?_
    simp only [spec_UTF8.l0]
    by_cases he : l = []
    · subst he
      exact EvP.neg (by simp at hsz; omega) (EvP.ret _ (fun _ => ⟨[], .nil⟩))
    · have hpos : 0 < l.length := List.length_pos_iff.2 he
      refine EvP.pos (by omega) (EvP.bind (char_f s hn i l h0 hl he) (fun r hr => ?_))
      subst hr
      unfold tell
      cases hdec : dec l with
      | none => simp only; exact EvP.neg (by simp) (EvP.ret _ (fun h => by cases h))
      | some p =>
        obtain ⟨c, n⟩ := p
        obtain ⟨x, t, e, hx, hxn⟩ := of_dec (fun b hb => (ints_bytes s b (by rw [← hl] at hb; exact List.mem_of_mem_drop hb)).1) hdec
        have hlen := Ch.len hx
        have hll := congrArg List.length e
        rw [List.length_append] at hll
        simp only
        refine EvP.pos trivial ?_
        rw [w64 (x := i + (n : Int)) (by omega) (by omega)]
        refine (utf8_l0 hn d (i + (n : Int)) t (by omega) (by omega) ?_ (by omega)).mono (fun r hr h => ?_)
        · rw [show (i + (n : Int)).toNat = i.toNat + n from by omega, ← List.drop_drop, hl, e, ← hxn, List.drop_left]
        · obtain ⟨cs, hcs⟩ := hr h
          exact ⟨c :: cs, by rw [e]; exact .cons hx hcs⟩
theorem utf8_f {s : ByteArray} (hn : s.size ≤ 2147483647) : EvP (fun k => spec_UTF8.f k s) (fun r => r = true → ∃ cs, Txt (ints s) cs) := by
  unfold spec_UTF8.f
  exact utf8_l0 hn s.size 0 (ints s) (Int.le_refl _) (by omega) (by simp) (by rw [ints_length]; omega)

/-! ### pieces -/
/-- A hexadecimal digit, small or great. -/
def hd (d : Int) (g : Bool) : Int := if d < 10 then 48 + d else if g = true then 55 + d else 87 + d
def u4 (n : Int) (g : Nat → Bool) : List Int := [92, 117, hd (n / 4096 % 16) (g 0), hd (n / 256 % 16) (g 1), hd (n / 16 % 16) (g 2), hd (n % 16) (g 3)]
def Sh (c l : Int) : Prop := (c = 8 ∧ l = 98) ∨ (c = 12 ∧ l = 102) ∨ (c = 10 ∧ l = 110) ∨ (c = 13 ∧ l = 114) ∨ (c = 9 ∧ l = 116) ∨ (c = 34 ∧ l = 34) ∨ (c = 92 ∧ l = 92) ∨ (c = 47 ∧ l = 47)

/-- How a character stands in a text. -/
inductive Pc : List Int → Int → List Int → Prop
  | self {x : List Int} {c : Int} (h1 : 32 ≤ c) (h2 : c ≠ 34) (h3 : c ≠ 92) : Pc x c x
  | short {x : List Int} {c l : Int} (h : Sh c l) : Pc x c [92, l]
  | uni {x : List Int} {c : Int} {g : Nat → Bool} (h : c < 65536) : Pc x c (u4 c g)
  | pair {x : List Int} {c : Int} {g g' : Nat → Bool} (h : 65536 ≤ c) : Pc x c (u4 (55296 + (c - 65536) / 1024) g ++ u4 (56320 + (c - 65536) % 1024) g')
/-- A text's characters, each as a piece. -/
inductive Dr : List Int → List Int → Prop
  | nil : Dr [] []
  | cons {x t y b : List Int} {c : Int} (hx : Ch x c) (hp : Pc x c y) (h : Dr t b) : Dr (x ++ t) (y ++ b)

theorem Dr.push {x y : List Int} {c : Int} (hx : Ch x c) (hp : Pc x c y) : ∀ {l b : List Int}, Dr l b → Dr (l ++ x) (b ++ y)
  | _, _, .nil => by have := Dr.cons hx hp .nil; simpa using this
  | _, _, .cons hx' hp' h => by
    rw [List.append_assoc, List.append_assoc]
    exact .cons hx' hp' (Dr.push hx hp h)

/-- Bytes that end no string: none below 32, no mark, no backslash. -/
def Plain (l : List Int) : Prop := ∀ b ∈ l, 32 ≤ b ∧ b ≠ 34 ∧ b ≠ 92
theorem ch_plain {x : List Int} {c : Int} (h : Ch x c) (h1 : 32 ≤ c) (h2 : c ≠ 34) (h3 : c ≠ 92) : Plain x := by
  intro b hb
  cases h with
  | one b0 => simp only [List.mem_singleton] at hb; subst hb; exact ⟨h1, h2, h3⟩
  | two b0 b1 c g0 g1 hc => simp only [List.mem_cons, List.not_mem_nil, or_false] at hb; rcases hb with rfl | rfl <;> omega
  | three b0 b1 b2 c g0 g1 g2 hc hl hs => simp only [List.mem_cons, List.not_mem_nil, or_false] at hb; rcases hb with rfl | rfl | rfl <;> omega
  | four b0 b1 b2 b3 c g0 g1 g2 g3 hc hl hm => simp only [List.mem_cons, List.not_mem_nil, or_false] at hb; rcases hb with rfl | rfl | rfl | rfl <;> omega
theorem ch_range {x : List Int} {c : Int} (h : Ch x c) : 0 ≤ c ∧ c ≤ 1114111 ∧ ¬ (55296 ≤ c ∧ c ≤ 57343) := by
  cases h <;> omega
theorem hd_hex {d : Int} (g : Bool) (h0 : 0 ≤ d) (h1 : d ≤ 15) : isHex (hd d g) = true := by
  unfold isHex hd
  apply decide_eq_true
  split
  · omega
  · cases g
    · simp only [Bool.false_eq_true, if_false]; omega
    · simp only [if_true]; omega
theorem sh_short {c l : Int} (h : Sh c l) : isShort l = true := by
  unfold Sh at h
  unfold isShort
  apply decide_eq_true
  omega

/-- Piece by piece what follows can be reached. -/
theorem plain_str {l r t : List Int} : ∀ {k : Nat}, Plain l → str k t = some r → str (k + l.length) (l ++ t) = some r := by
  induction l with
  | nil => intro k _ h; simpa using h
  | cons b l ih =>
    intro k hp h
    obtain ⟨h1, h2, h3⟩ := hp b List.mem_cons_self
    rw [show k + (b :: l).length = (k + l.length) + 1 from by simp; omega, List.cons_append]
    simp only [str]
    rw [if_neg h2, if_neg (by omega), if_neg h3]
    exact ih (fun x hx => hp x (List.mem_cons_of_mem _ hx)) h
theorem short_str {l : Int} {k : Nat} {r t : List Int} (h : isShort l = true) (ht : str k t = some r) : str (k + 1) ([92, l] ++ t) = some r := by
  simp only [List.cons_append, List.nil_append, str]
  rw [if_neg (by omega), if_neg (by omega), if_pos trivial, if_pos h]
  exact ht
theorem u4_str {n : Int} {g : Nat → Bool} {k : Nat} {r t : List Int} (h0 : 0 ≤ n) (ht : str k t = some r) : str (k + 1) (u4 n g ++ t) = some r := by
  have e0 := hd_hex (d := n / 4096 % 16) (g 0) (by omega) (by omega)
  have e1 := hd_hex (d := n / 256 % 16) (g 1) (by omega) (by omega)
  have e2 := hd_hex (d := n / 16 % 16) (g 2) (by omega) (by omega)
  have e3 := hd_hex (d := n % 16) (g 3) (by omega) (by omega)
  simp only [u4, List.cons_append, List.nil_append, str]
  rw [if_neg (by omega), if_neg (by omega), if_pos trivial, if_neg (by decide), if_pos trivial]
  simp only [hexs]
  rw [if_pos e0, if_pos e1, if_pos e2, if_pos e3]
  exact ht
theorem str_more : ∀ {k m : Nat} {l r : List Int}, str k l = some r → k ≤ m → str m l = some r
  | 0, _, l, r, h, _ => by cases l <;> simp [str] at h
  | k + 1, 0, l, r, h, hm => by omega
  | k + 1, m + 1, [], r, h, _ => by simp [str] at h
  | k + 1, m + 1, c :: t, r, h, hm => by
    simp only [str] at h ⊢
    split at h
    · rename_i h1; rw [if_pos h1]; exact h
    · rename_i h1
      rw [if_neg h1]
      split at h
      · cases h
      · rename_i h2
        rw [if_neg h2]
        split at h
        · rename_i h3
          rw [if_pos h3]
          cases t with
          | nil => cases h
          | cons d t' =>
            simp only at h ⊢
            split at h
            · rename_i h4; rw [if_pos h4]; exact str_more h (by omega)
            · rename_i h4
              rw [if_neg h4]
              split at h
              · rename_i h5
                rw [if_pos h5]
                obtain ⟨u, hu, hu2⟩ := Option.bind_eq_some_iff.1 h
                exact Option.bind_eq_some_iff.2 ⟨u, hu, str_more hu2 (by omega)⟩
              · cases h
        · rename_i h3
          rw [if_neg h3]
          exact str_more h (by omega)
theorem pc_str {x y : List Int} {c : Int} (hx : Ch x c) (hp : Pc x c y) {k : Nat} {r t : List Int} (ht : str k t = some r) : str (k + y.length) (y ++ t) = some r := by
  have hr := ch_range hx
  cases hp with
  | self h1 h2 h3 => exact plain_str (ch_plain hx h1 h2 h3) ht
  | short h => exact str_more (short_str (sh_short h) ht) (by simp)
  | uni h => exact str_more (u4_str (by omega) ht) (by simp [u4])
  | pair h =>
    rw [List.append_assoc]
    exact str_more (u4_str (by omega) (u4_str (by omega) ht)) (by simp [u4])
theorem dr_str {l b : List Int} (h : Dr l b) : ∀ (rest : List Int), str (b.length + 1) (b ++ 34 :: rest) = some rest := by
  induction h with
  | nil => intro rest; simp [str]
  | cons hx hp h ih =>
    intro rest
    rw [List.append_assoc, List.length_append]
    exact str_more (pc_str hx hp (ih rest)) (by omega)

theorem raw_plain {l : List Int} (h : Plain l) : Raw l := Raw.of_plain l (fun hm => (h 34 hm).2.1 rfl) (fun hm => (h 92 hm).2.2 rfl)
theorem raw_u4 {n : Int} {g : Nat → Bool} (h0 : 0 ≤ n) : Raw (u4 n g) := by
  have e : ∀ d : Int, ∀ g : Bool, 0 ≤ d → d ≤ 15 → hd d g ≠ 34 ∧ hd d g ≠ 92 := by
    intro d g h0 h1
    unfold hd
    split
    · omega
    · cases g
      · simp only [Bool.false_eq_true, if_false]; omega
      · simp only [if_true]; omega
  have e0 := e (n / 4096 % 16) (g 0) (by omega) (by omega)
  have e1 := e (n / 256 % 16) (g 1) (by omega) (by omega)
  have e2 := e (n / 16 % 16) (g 2) (by omega) (by omega)
  have e3 := e (n % 16) (g 3) (by omega) (by omega)
  exact .esc (.plain e0.1 e0.2 (.plain e1.1 e1.2 (.plain e2.1 e2.2 (.plain e3.1 e3.2 .nil))))
theorem raw_pc {x y : List Int} {c : Int} (hx : Ch x c) (hp : Pc x c y) : Raw y := by
  have hr := ch_range hx
  cases hp with
  | self h1 h2 h3 => exact raw_plain (ch_plain hx h1 h2 h3)
  | short h => exact .esc .nil
  | uni h => exact raw_u4 (by omega)
  | pair h => exact (raw_u4 (by omega)).append (raw_u4 (by omega))
theorem raw_dr {l b : List Int} (h : Dr l b) : Raw b := by
  induction h with
  | nil => exact .nil
  | cons hx hp h ih => exact (raw_pc hx hp).append ih

end Go.Proofs.YtkhgbacbnkgafaaDoor.Rs
