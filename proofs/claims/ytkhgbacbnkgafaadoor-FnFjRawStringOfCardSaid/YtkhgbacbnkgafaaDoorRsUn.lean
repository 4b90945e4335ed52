/- Plain law: a dressed string's inside, taken for its characters, is the string. -/
import Derived.Test.YtkhgbacbnkgafaaDoorRsPl
import Derived.Test.YtkhgbacbnkgafaaDoorUnEs
import Derived.Laws.BitsLemmas
set_option linter.unusedVariables false
set_option linter.unusedSimpArgs false
namespace Go.Proofs.YtkhgbacbnkgafaaDoor.Rs
open Go Go.RowKit Go.Proofs.YtkhgbacbnkgafaaDoor.U8 Go.Proofs.YtkhgbacbnkgafaaDoor.U8.Uc Go.Proofs.YtkhgbacbnkgafaaDoor.Un Go.Proofs.YtkhgbacbnkgafaaDoor.U16 Go.Proofs.YtkhgbacbnkgafaaDoor.PFnFjReadBytes Go.Proofs.YtkhgbacbnkgafaaDoorW.PrintWords Go.Proofs.YtkhgbacbnkgafaaDoorW.PrintLast Go.Proofs.YtkhgbacbnkgafaaDoor.EvL Go.Proofs.YtkhgbacbnkgafaaDoor.StrL

theorem ext_b (s : ByteArray) (i j : Nat) : bytesOf (s.extract i j) = ((bytesOf s).drop i).take (j - i) := ints_extract s i j
theorem ext_e (s : ByteArray) (i : Nat) : bytesOf (s.extract i s.size) = (bytesOf s).drop i := by
  rw [ext_b, List.take_of_length_le (by rw [List.length_drop, bytesOf_length]; omega)]

/-! ### where the first backslash stands -/
theorem ix_l (u : UInt8) (hu : u.toNat = 92) : ∀ (l : List UInt8), (92 ∉ l.map (fun b => (b.toNat : Int)) → Lib.indexByte l u = -1) ∧
    ∀ (a t : List Int), l.map (fun b => (b.toNat : Int)) = a ++ 92 :: t → 92 ∉ a → Lib.indexByte l u = (a.length : Int)
  | [] => ⟨fun _ => rfl, fun a t h _ => by cases a <;> simp at h⟩
  | b :: l => by
    obtain ⟨ih1, ih2⟩ := ix_l u hu l
    have hbe : b = u ↔ (b.toNat : Int) = 92 := by
      constructor
      · intro h; rw [h, hu]; rfl
      · intro h
        apply UInt8.toNat_inj.1
        omega
    constructor
    · intro h
      simp only [List.map_cons, List.mem_cons, not_or] at h
      have hb : (b == u) = false := beq_eq_false_iff_ne.mpr (fun e => h.1 (hbe.1 e).symm)
      simp [Lib.indexByte, hb, ih1 h.2]
    · intro a t h ha
      cases a with
      | nil =>
        simp only [List.map_cons, List.nil_append, List.cons.injEq] at h
        have hb : (b == u) = true := beq_iff_eq.mpr (hbe.2 h.1)
        simp only [Lib.indexByte, hb, if_true]
        rfl
      | cons y a =>
        simp only [List.map_cons, List.cons_append, List.cons.injEq] at h
        simp only [List.mem_cons, not_or] at ha
        have hb : (b == u) = false := beq_eq_false_iff_ne.mpr (fun e => ha.1 ((hbe.1 e).symm.trans h.1))
        have h2 := ih2 a t h.2 ha.2
        have h3 : ¬ ((a.length : Int) = -1) := by omega
        simp [Lib.indexByte, hb, h2, h3]
theorem ix_none {s : ByteArray} (h : 92 ∉ bytesOf s) : ix s = -1 := (ix_l _ rfl s.data.toList).1 h
theorem ix_at {s : ByteArray} {a t : List Int} (h : bytesOf s = a ++ 92 :: t) (ha : 92 ∉ a) : ix s = (a.length : Int) := (ix_l _ rfl s.data.toList).2 a t h ha

/-! ### a text with escapes, and what it is taken for -/
inductive Ue : List Int → List Int → Prop
  | nil : Ue [] []
  | byte {b : Int} {l r : List Int} (hb : b ≠ 92) (h : Ue l r) : Ue (b :: l) (b :: r)
  | step {c : Int} {l ys l' r : List Int} (hs : ∀ s1 : ByteArray, bytesOf s1 = l → ∃ s', uStep c s1 = (ys, s') ∧ bytesOf s' = l') (hl : l'.length ≤ l.length) (h : Ue l' r) : Ue (92 :: c :: l) (ys ++ r)

theorem Ue.split {l r : List Int} (h : Ue l r) : (92 ∉ l ∧ r = l) ∨ ∃ a c l2 ys l' r2, l = a ++ 92 :: c :: l2 ∧ 92 ∉ a ∧ r = a ++ (ys ++ r2) ∧ (∀ s1 : ByteArray, bytesOf s1 = l2 → ∃ s', uStep c s1 = (ys, s') ∧ bytesOf s' = l') ∧ l'.length ≤ l2.length ∧ Ue l' r2 := by
  induction h with
  | nil => exact .inl ⟨by simp, rfl⟩
  | @byte b l r hb h ih =>
    rcases ih with ⟨h1, h2⟩ | ⟨a, c, l2, ys, l', r2, rfl, h2, rfl, h4, h5, h6⟩
    · exact .inl ⟨by simp only [List.mem_cons, not_or]; exact ⟨fun e => hb e.symm, h1⟩, by rw [h2]⟩
    · exact .inr ⟨b :: a, c, l2, ys, l', r2, rfl, by simp only [List.mem_cons, not_or]; exact ⟨fun e => hb e.symm, h2⟩, rfl, h4, h5, h6⟩
  | @step c l ys l' r hs hl h ih => exact .inr ⟨[], c, l, ys, l', r, rfl, by simp, rfl, hs, hl, h⟩

theorem uL_ue : ∀ (n k : Nat) (s : ByteArray) (xs : List Int) (c : Int) (l ys l' r : List Int), l.length ≤ n → n < k → bytesOf s = c :: l → (∀ s1 : ByteArray, bytesOf s1 = l → ∃ s', uStep c s1 = (ys, s') ∧ bytesOf s' = l') → l'.length ≤ l.length → Ue l' r →
    uL k s xs = xs ++ ys ++ r := by
  intro n
  induction n using Nat.strongRecOn with
  | _ n ih =>
    intro k s xs c l ys l' r hn hk hb hs hl h
    obtain ⟨k, rfl⟩ : ∃ j, k = j + 1 := ⟨k - 1, by omega⟩
    have hsz : s.size = l.length + 1 := by rw [← bytesOf_length, hb]; rfl
    have hbt : bt s 0 = c := by
      have h2 := bt_of_drop (s := s) (i := 0) (c := c) (t := l) (by omega) (by rw [show ints s = bytesOf s from rfl, hb]; rfl)
      exact h2.1
    have he : bytesOf (s.extract 1 s.size) = l := by rw [ext_e, hb]; rfl
    obtain ⟨s', h1, h2⟩ := hs _ he
    rcases h.split with ⟨g1, g2⟩ | ⟨a, c2, l2, ys2, l3, r2, g1, g2, g3, g4, g5, g6⟩
    · have hd := uL_done (k := k) (s := s) (sT := s') (xs := xs) (ys := ys) (by omega) rfl (by rw [hbt]; exact h1) (ix_none (by rw [h2]; exact g1))
      rw [hd, h2, g2]
    · have hi := ix_at (s := s') (a := a) (t := c2 :: l2) (by rw [h2, g1]) g2
      have hd := uL_more (k := k) (s := s) (sT := s') (xs := xs) (ys := ys) (by omega) rfl (by rw [hbt]; exact h1) hi
      rw [hd]
      have e1 : bytesOf (s'.extract 0 a.length) = a := by rw [ext_b, h2, g1, List.drop_zero, Nat.sub_zero, List.take_left]
      have e2 : bytesOf (s'.extract (a.length + 1) s'.size) = c2 :: l2 := by
        rw [ext_e, h2, g1, ← List.drop_drop, List.drop_left]; rfl
      have hl2 := congrArg List.length g1
      rw [List.length_append, List.length_cons, List.length_cons] at hl2
      rw [ih l2.length (by omega) k _ _ c2 l2 ys2 l3 r2 (Nat.le_refl _) (by omega) e2 g4 g5 g6, e1, g3]
      simp [List.append_assoc]
theorem unF_ue {s : ByteArray} {r : List Int} (h : Ue (bytesOf s) r) (hr : Bytes r) : bytesOf (unF s) = r := by
  unfold unF
  rcases h.split with ⟨g1, g2⟩ | ⟨a, c2, l2, ys2, l3, r2, g1, g2, g3, g4, g5, g6⟩
  · rw [if_pos (by rw [ix_none g1]; omega), g2]
  · have hi := ix_at g1 g2
    rw [if_neg (by rw [hi]; omega), hi]
    have e2 : bytesOf (s.extract (a.length + 1) s.size) = c2 :: l2 := by
      rw [ext_e, g1, ← List.drop_drop, List.drop_left]; rfl
    have hl2 := congrArg List.length g1
    rw [bytesOf_length, List.length_append, List.length_cons, List.length_cons] at hl2
    have e3 : ((bytesOf s).take ((a.length : Int)).toNat) = a := by rw [Int.toNat_natCast, g1, List.take_left]
    rw [e3, show ((a.length : Int)).toNat + 1 = a.length + 1 from by simp, uL_ue l2.length (s.size + 1) _ a c2 l2 ys2 l3 r2 (Nat.le_refl _) (by omega) e2 g4 g5 g6]
    have : a ++ ys2 ++ r2 = r := by rw [g3, List.append_assoc]
    rw [this]
    exact ints_strOfNums hr

/-! ### the pieces -/
theorem enc_ch {x : List Int} {c : Int} (h : Ch x c) : bytesOf (Utf8.encode c) = x := by
  have hr := ch_range h
  have hv : Utf8.valid c = true := by
    unfold Utf8.valid
    simp; omega
  unfold Utf8.encode
  rw [if_pos hv]
  cases h with
  | one b h0 h1 =>
    rw [if_pos (by omega)]
    simp only [bytesOf, List.map_cons, List.map_nil, UInt8.toNat_ofNat', List.cons.injEq, and_true]
    omega
  | two b0 b1 c h0 h1 hc =>
    rw [if_neg (by omega), if_pos (by omega)]
    simp only [bytesOf, List.map_cons, List.map_nil, UInt8.toNat_ofNat', List.cons.injEq, and_true]
    omega
  | three b0 b1 b2 c h0 h1 h2 hc hl hs =>
    rw [if_neg (by omega), if_neg (by omega), if_pos (by omega)]
    simp only [bytesOf, List.map_cons, List.map_nil, UInt8.toNat_ofNat', List.cons.injEq, and_true]
    omega
  | four b0 b1 b2 b3 c h0 h1 h2 h3 hc hl hm =>
    rw [if_neg (by omega), if_neg (by omega), if_neg (by omega)]
    simp only [bytesOf, List.map_cons, List.map_nil, UInt8.toNat_ofNat', List.cons.injEq, and_true]
    omega

def hexI : Int → List Int → Option Int
  | a, [] => some a
  | a, c :: t => match dgt c with
    | some d => hexI (a * 16 + d) t
    | none => none
theorem hexF_I : ∀ (l : List UInt8) (a : Int), hexF a l = hexI a (l.map fun b => (b.toNat : Int))
  | [], a => rfl
  | c :: t, a => by
    simp only [hexF, hexI, List.map_cons]
    cases dgt (c.toNat : Int) with
    | none => rfl
    | some d => exact hexF_I t _
theorem dgt_hd {d : Int} (g : Bool) (h0 : 0 ≤ d) (h1 : d ≤ 15) : dgt (hd d g) = some d := by
  unfold dgt hd
  split
  · rw [if_pos (by omega)]; congr 1; omega
  · cases g
    · simp only [Bool.false_eq_true, if_false]
      rw [if_neg (by omega), if_pos (by omega)]; congr 1; omega
    · simp only [if_true]
      rw [if_neg (by omega), if_neg (by omega), if_pos (by omega)]; congr 1; omega
def h4 (n : Int) (g : Nat → Bool) : List Int := [hd (n / 4096 % 16) (g 0), hd (n / 256 % 16) (g 1), hd (n / 16 % 16) (g 2), hd (n % 16) (g 3)]
theorem u4_eq (n : Int) (g : Nat → Bool) : u4 n g = 92 :: 117 :: h4 n g := rfl
theorem hex_h4 {s : ByteArray} {n : Int} {g : Nat → Bool} (h : bytesOf s = h4 n g) (h0 : 0 ≤ n) (h1 : n < 65536) : hexF 0 s.data.toList = some n := by
  rw [hexF_I, show (s.data.toList.map fun b => (b.toNat : Int)) = h4 n g from h]
  simp only [h4, hexI, dgt_hd (g 0) (show 0 ≤ n / 4096 % 16 by omega) (by omega), dgt_hd (g 1) (show 0 ≤ n / 256 % 16 by omega) (by omega), dgt_hd (g 2) (show 0 ≤ n / 16 % 16 by omega) (by omega), dgt_hd (g 3) (show 0 ≤ n % 16 by omega) (by omega)]
  congr 1
  omega

theorem step_short {c l : Int} (h : Sh c l) (s1 : ByteArray) : uStep l s1 = ([c], s1) := by
  rcases h with ⟨rfl, rfl⟩ | ⟨rfl, rfl⟩ | ⟨rfl, rfl⟩ | ⟨rfl, rfl⟩ | ⟨rfl, rfl⟩ | ⟨rfl, rfl⟩ | ⟨rfl, rfl⟩ | ⟨rfl, rfl⟩ <;> simp [uStep]

theorem step_hex {s1 : ByteArray} {n : Int} {g : Nat → Bool} {t : List Int} (h : bytesOf s1 = h4 n g ++ t) (h0 : 0 ≤ n) (h1 : n < 65536) : uStep 117 s1 = uSur n (s1.extract 0 4) (s1.extract 4 s1.size) ∧ bytesOf (s1.extract 4 s1.size) = t := by
  have hl := congrArg List.length h
  rw [bytesOf_length, List.length_append] at hl
  have h4l : (h4 n g).length = 4 := rfl
  have e1 : bytesOf (s1.extract 0 4) = h4 n g := by rw [ext_b, h, List.drop_zero]; rfl
  refine ⟨?_, by rw [ext_e, h]; rfl⟩
  have hx := hex_h4 e1 h0 h1
  simp only [uStep]
  rw [if_neg (by omega), if_neg (by omega), if_neg (by omega), if_neg (by omega), if_neg (by omega), if_neg (by omega), if_neg (by omega), if_neg (by omega), if_pos trivial]
  unfold uHex
  rw [if_neg (by omega), hx]
theorem step_uni {x t : List Int} {c : Int} {g : Nat → Bool} (hx : Ch x c) (hc : c < 65536) (s1 : ByteArray) (h : bytesOf s1 = h4 c g ++ t) : ∃ s', uStep 117 s1 = (x, s') ∧ bytesOf s' = t := by
  have hr := ch_range hx
  obtain ⟨h1, h2⟩ := step_hex h hr.1 hc
  refine ⟨_, ?_, h2⟩
  rw [h1]
  unfold uSur
  rw [if_pos (by omega), enc_ch hx]
theorem i32_or10 {x y : Int} (hx₀ : 0 ≤ x) (hx : x % 1024 = 0) (hx₁ : x < 2147483648) (h₀ : 0 ≤ y) (h₁ : y < 1024) : Go.bits .or .i32 x y = x + y :=
  bits_join .i32 31 (by decide) wraps_i32 10 x y hx₀ hx hx₁ h₀ h₁ (by omega)
theorem dec_pair {c : Int} (h0 : 65536 ≤ c) (h1 : c ≤ 1114111) : decR (55296 + (c - 65536) / 1024) (56320 + (c - 65536) % 1024) = c := by
  unfold decR utf16_DecodeRune.f
  have e1 : wrap32 (55296 + (c - 65536) / 1024 - 55296) = (c - 65536) / 1024 := by unfold wrap32; omega
  have e2 : wrap32 ((c - 65536) / 1024 * 1024) = (c - 65536) / 1024 * 1024 := by unfold wrap32; omega
  have e3 : wrap32 (56320 + (c - 65536) % 1024 - 56320) = (c - 65536) % 1024 := by unfold wrap32; omega
  rw [if_pos (by omega), if_pos (by omega), if_pos (by omega), if_pos (by omega), e1, e2, e3, i32_or10 (by omega) (by omega) (by omega) (by omega) (by omega)]
  simp only [Option.getD_some]
  unfold wrap32
  omega
theorem step_pair {x t : List Int} {c : Int} {g g' : Nat → Bool} (hx : Ch x c) (hc : 65536 ≤ c) (s1 : ByteArray) (h : bytesOf s1 = h4 (55296 + (c - 65536) / 1024) g ++ (u4 (56320 + (c - 65536) % 1024) g' ++ t)) : ∃ s', uStep 117 s1 = (x, s') ∧ bytesOf s' = t := by
  have hr := ch_range hx
  obtain ⟨h1, h2⟩ := step_hex h (by omega) (by omega)
  generalize hs2 : s1.extract 4 s1.size = s2 at h1 h2
  rw [u4_eq] at h2
  have hl := congrArg List.length h2
  simp only [bytesOf_length, List.cons_append, List.length_cons, List.length_append] at hl
  have h4l : (h4 (56320 + (c - 65536) % 1024) g').length = 4 := rfl
  have b0 : bt s2 0 = 92 := (bt_of_drop (s := s2) (i := 0) (t := 117 :: (h4 (56320 + (c - 65536) % 1024) g' ++ t)) (by omega) (by rw [show ints s2 = bytesOf s2 from rfl, h2]; rfl)).1
  have b1 : bt s2 1 = 117 := (bt_of_drop (s := s2) (i := 1) (t := h4 (56320 + (c - 65536) % 1024) g' ++ t) (by omega) (by rw [show ints s2 = _ from h2]; rfl)).1
  have e1 : bytesOf (s2.extract 2 6) = h4 (56320 + (c - 65536) % 1024) g' := by rw [ext_b, h2]; rfl
  have hx2 := hex_h4 e1 (by omega) (by omega)
  refine ⟨s2.extract 6 s2.size, ?_, by rw [ext_e, h2]; rfl⟩
  rw [h1]
  unfold uSur
  rw [if_neg (by omega), if_neg (by rw [b0, b1]; omega), hx2]
  simp only
  rw [dec_pair hc hr.2.1, enc_ch hx]

theorem ue_plain : ∀ {l b r : List Int}, Plain l → Ue b r → Ue (l ++ b) (l ++ r)
  | [], _, _, _, h => h
  | x :: l, _, _, hp, h => .byte (hp x List.mem_cons_self).2.2 (ue_plain (fun y hy => hp y (List.mem_cons_of_mem _ hy)) h)
theorem ch_inv {x : List Int} {c : Int} (h : Ch x c) (hc : c < 128) : x = [c] := by
  cases h with
  | one => rfl
  | two b0 b1 c h0 h1 e => omega
  | three b0 b1 b2 c h0 h1 h2 e hl hs => omega
  | four b0 b1 b2 b3 c h0 h1 h2 h3 e hl hm => omega
theorem dr_ue {l b : List Int} (h : Dr l b) : Ue b l := by
  induction h with
  | nil => exact .nil
  | @cons x t y b c hx hp h ih =>
    cases hp with
    | self h1 h2 h3 => exact ue_plain (ch_plain hx h1 h2 h3) ih
    | short hsh =>
      have hxc : x = [c] := ch_inv hx (by unfold Sh at hsh; omega)
      rw [hxc]
      exact .step (fun s1 hs => ⟨s1, step_short hsh s1, hs⟩) (Nat.le_refl _) ih
    | uni hc =>
      rename_i g
      have e : u4 c g ++ b = 92 :: 117 :: (h4 c g ++ b) := rfl
      rw [e]
      exact .step (fun s1 hs => step_uni hx hc s1 hs) (by rw [List.length_append]; omega) ih
    | pair hc =>
      rename_i g g'
      have e : u4 (55296 + (c - 65536) / 1024) g ++ u4 (56320 + (c - 65536) % 1024) g' ++ b = 92 :: 117 :: (h4 (55296 + (c - 65536) / 1024) g ++ (u4 (56320 + (c - 65536) % 1024) g' ++ b)) := rfl
      rw [e]
      exact .step (fun s1 hs => step_pair hx hc s1 hs) (by rw [List.length_append, List.length_append]; omega) ih
/-- The inside of a dressed string is taken for the string. -/
theorem unF_dr {s0 raw : ByteArray} (h : Dr (bytesOf s0) (bytesOf raw)) : unF raw = s0 :=
  ints_inj (unF_ue (dr_ue h) (ints_bytes s0))

end Go.Proofs.YtkhgbacbnkgafaaDoor.Rs
