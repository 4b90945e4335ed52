/- Plain law of spec.Character (law U8): what it tells of a place of a text is the one character of UTF-8 that begins there, or that there is none. -/
import Derived.Test.YtkhgbacbnkgafaaDoorRsU
import Derived.Test.YtkhgbacbnkgafaaDoorStr
set_option linter.unusedVariables false
namespace Go.Proofs.YtkhgbacbnkgafaaDoor.U8.Uc
open Go.RowKit Go.Proofs.YtkhgbacbnkgafaaDoor.U8 Go.Proofs.YtkhgbacbnkgafaaDoorW.PrintWords Go.Proofs.YtkhgbacbnkgafaaDoorW.PrintLast Go.Proofs.YtkhgbacbnkgafaaDoor.EvL Go.Proofs.YtkhgbacbnkgafaaDoor.StrL

/-- The bytes of one character. -/
inductive Ch : List Int → Int → Prop
  | one (b : Int) (h0 : 0 ≤ b) (h1 : b < 128) : Ch [b] b
  | two (b0 b1 c : Int) (h0 : 194 ≤ b0 ∧ b0 ≤ 223) (h1 : 128 ≤ b1 ∧ b1 ≤ 191) (hc : c = (b0 - 192) * 64 + b1 - 128) : Ch [b0, b1] c
  | three (b0 b1 b2 c : Int) (h0 : 224 ≤ b0 ∧ b0 ≤ 239) (h1 : 128 ≤ b1 ∧ b1 ≤ 191) (h2 : 128 ≤ b2 ∧ b2 ≤ 191) (hc : c = ((b0 - 224) * 64 + b1 - 128) * 64 + b2 - 128) (hl : 2048 ≤ c) (hs : ¬ (55296 ≤ c ∧ c ≤ 57343)) : Ch [b0, b1, b2] c
  | four (b0 b1 b2 b3 c : Int) (h0 : 240 ≤ b0 ∧ b0 ≤ 244) (h1 : 128 ≤ b1 ∧ b1 ≤ 191) (h2 : 128 ≤ b2 ∧ b2 ≤ 191) (h3 : 128 ≤ b3 ∧ b3 ≤ 191) (hc : c = (((b0 - 240) * 64 + b1 - 128) * 64 + b2 - 128) * 64 + b3 - 128) (hl : 65536 ≤ c) (hm : c ≤ 1114111) : Ch [b0, b1, b2, b3] c

def cont (b : Int) : Prop := 128 ≤ b ∧ b ≤ 191
instance (b : Int) : Decidable (cont b) := by unfold cont; infer_instance

/-- The character at the head of bytes, and how many bytes it has. -/
def dec : List Int → Option (Int × Nat)
  | [] => none
  | b0 :: t =>
    if b0 < 128 then some (b0, 1)
    else if 194 ≤ b0 ∧ b0 ≤ 223 then (match t with
      | b1 :: _ => if cont b1 then some ((b0 - 192) * 64 + b1 - 128, 2) else none
      | _ => none)
    else if 224 ≤ b0 ∧ b0 ≤ 239 then (match t with
      | b1 :: b2 :: _ => if cont b1 ∧ cont b2 then (if 2048 ≤ ((b0 - 224) * 64 + b1 - 128) * 64 + b2 - 128 ∧ ¬ (55296 ≤ ((b0 - 224) * 64 + b1 - 128) * 64 + b2 - 128 ∧ ((b0 - 224) * 64 + b1 - 128) * 64 + b2 - 128 ≤ 57343) then some (((b0 - 224) * 64 + b1 - 128) * 64 + b2 - 128, 3) else none) else none
      | _ => none)
    else if 240 ≤ b0 ∧ b0 ≤ 244 then (match t with
      | b1 :: b2 :: b3 :: _ => if cont b1 ∧ cont b2 ∧ cont b3 then (if 65536 ≤ (((b0 - 240) * 64 + b1 - 128) * 64 + b2 - 128) * 64 + b3 - 128 ∧ (((b0 - 240) * 64 + b1 - 128) * 64 + b2 - 128) * 64 + b3 - 128 ≤ 1114111 then some ((((b0 - 240) * 64 + b1 - 128) * 64 + b2 - 128) * 64 + b3 - 128, 4) else none) else none
      | _ => none)
    else none

theorem dec_of {x t : List Int} {c : Int} (h : Ch x c) : dec (x ++ t) = some (c, x.length) := by
  cases h with
  | one b h0 h1 => simp [dec, h1]
  | two b0 b1 c h0 h1 hc =>
    simp only [List.cons_append, List.nil_append, dec]
    rw [if_neg (by omega), if_pos h0, if_pos (show cont b1 from h1), hc]; rfl
  | three b0 b1 b2 c h0 h1 h2 hc hl hs =>
    simp only [List.cons_append, List.nil_append, dec]
    rw [if_neg (by omega), if_neg (by omega), if_pos h0, if_pos (show cont b1 ∧ cont b2 from ⟨h1, h2⟩), ← hc, if_pos ⟨hl, hs⟩]; rfl
  | four b0 b1 b2 b3 c h0 h1 h2 h3 hc hl hm =>
    simp only [List.cons_append, List.nil_append, dec]
    rw [if_neg (by omega), if_neg (by omega), if_neg (by omega), if_pos h0, if_pos (show cont b1 ∧ cont b2 ∧ cont b3 from ⟨h1, h2, h3⟩), ← hc, if_pos ⟨hl, hm⟩]; rfl

theorem of_dec {l : List Int} {c : Int} {n : Nat} (hb : ∀ b ∈ l, 0 ≤ b) (h : dec l = some (c, n)) : ∃ x t, l = x ++ t ∧ Ch x c ∧ x.length = n := by
  cases l with
  | nil => simp [dec] at h
  | cons b0 t =>
    simp only [dec] at h
    split at h
    · rename_i hlt
      simp only [Option.some.injEq, Prod.mk.injEq] at h
      exact ⟨[b0], t, rfl, by rw [← h.1]; exact .one b0 (hb b0 (by simp)) hlt, h.2⟩
    · split at h
      · rename_i h2
        split at h
        · rename_i b1 t1
          split at h
          · rename_i h3
            simp only [Option.some.injEq, Prod.mk.injEq] at h
            exact ⟨[b0, b1], t1, rfl, .two b0 b1 c h2 h3 h.1.symm, h.2⟩
          · cases h
        · cases h
      · split at h
        · rename_i h2
          split at h
          · rename_i b1 b2 t1
            split at h
            · rename_i h3
              split at h
              · rename_i h4
                simp only [Option.some.injEq, Prod.mk.injEq] at h
                exact ⟨[b0, b1, b2], t1, rfl, .three b0 b1 b2 c h2 h3.1 h3.2 h.1.symm (by rw [← h.1]; exact h4.1) (by rw [← h.1]; exact h4.2), h.2⟩
              · cases h
            · cases h
          · cases h
        · split at h
          · rename_i h2
            split at h
            · rename_i b1 b2 b3 t1
              split at h
              · rename_i h3
                split at h
                · rename_i h4
                  simp only [Option.some.injEq, Prod.mk.injEq] at h
                  exact ⟨[b0, b1, b2, b3], t1, rfl, .four b0 b1 b2 b3 c h2 h3.1 h3.2.1 h3.2.2 h.1.symm (by rw [← h.1]; exact h4.1) (by rw [← h.1]; exact h4.2), h.2⟩
                · cases h
              · cases h
            · cases h
          · cases h

/-- What spec.Character tells. -/
def tell (l : List Int) : Int × Int × Bool := match dec l with
  | some (c, n) => (c, (n : Int), true)
  | none => (65533, 1, false)

theorem high_f (c : Int) : spec_high.f c = some (decide (55296 ≤ c ∧ c ≤ 56319)) := by
  unfold spec_high.f
  split
  · rename_i h; simp [h]
  · rename_i h; simp [h]
theorem low_f (c : Int) : spec_low.f c = some (decide (56320 ≤ c ∧ c ≤ 57343)) := by
  unfold spec_low.f
  split
  · rename_i h; simp [h]
  · rename_i h; simp [h]

section
variable (s : ByteArray) (hn : s.size ≤ 2147483647)

theorem l0_end (a m least x7 : Int) (hm : 1 ≤ m ∧ m ≤ 3) (P : Int × Int × Bool → Prop) (hbad : ¬ (least ≤ x7 ∧ x7 ≤ 1114111 ∧ ¬ (55296 ≤ x7 ∧ x7 ≤ 57343)) → P (65533, 1, false)) (hgood : least ≤ x7 ∧ x7 ≤ 1114111 ∧ ¬ (55296 ≤ x7 ∧ x7 ≤ 57343) → P (x7, m + 1, true)) :
    EvP (fun k => spec_Character.l0 k s a x7 m least (m + 1)) P := by
  refine EvP.succ ?_
  simp only [spec_Character.l0, high_f, low_f, Option.bind_some]
  rw [w64 (x := m + 1) (by omega) (by omega)]
  refine EvP.neg (by omega) (EvP.ite (fun h => EvP.ret _ (hbad (by omega))) (fun h1 => EvP.ite (fun h => EvP.ret _ (hbad (by omega))) (fun h2 => EvP.ite (fun h => EvP.ret _ (hbad (by simp at h; omega))) (fun h3 => EvP.ite (fun h => EvP.ret _ (hbad (by simp at h; omega))) (fun h4 => EvP.ret _ (hgood ?_))))))
  simp at h3 h4
  omega

theorem l0_step (hn : s.size ≤ 2147483647) (a m least x7 i : Int) (h0 : 0 ≤ a) (hi : 1 ≤ i ∧ i ≤ m ∧ m ≤ 3) (hin : a + m < s.size) (hx : 0 ≤ x7 ∧ x7 ≤ 1000000000) (P : Int × Int × Bool → Prop) (hbad : ¬ cont (bt s (a + i)) → P (65533, 1, false))
    (hgood : cont (bt s (a + i)) → EvP (fun k => spec_Character.l0 k s a (x7 * 64 + bt s (a + i) - 128) m least (i + 1)) P) : EvP (fun k => spec_Character.l0 k s a x7 m least i) P := by
  have hb := bt_range s (a + i)
  refine EvP.succ ?_
  simp only [spec_Character.l0]
  rw [w64 (x := a + i) (by omega) (by omega), w64 (x := i + 1) (by omega) (by omega), w64 (x := bt s (a + i)) (by omega) (by omega), w64 (x := x7 * 64) (by omega) (by omega), w64 (x := x7 * 64 + bt s (a + i)) (by omega) (by omega), w64 (x := x7 * 64 + bt s (a + i) - 128) (by omega) (by omega)]
  refine EvP.pos (by omega) (EvP.pos (by omega) (EvP.pos (by omega) (EvP.ite (fun h => EvP.ret _ (hbad (by unfold cont; omega))) (fun h1 => EvP.ite (fun h => EvP.ret _ (hbad (by unfold cont; omega))) (fun h2 => hgood (by unfold cont; omega))))))

theorem char_f (hn : s.size ≤ 2147483647) (a : Int) (l : List Int) (h0 : 0 ≤ a) (hl : (ints s).drop a.toNat = l) (hne : l ≠ []) : EvP (fun k => spec_Character.f k s a) (fun r => r = tell l) := by
  cases l with
  | nil => exact absurd rfl hne
  | cons b0 t =>
  obtain ⟨hb0, ha, ht⟩ := bt_of_drop h0 hl
  have hr := bt_range s a
  rw [hb0] at hr
  have hlen := size_of_drop (by omega) (by omega) ht
  unfold spec_Character.f
  rw [w64 (x := bt s a) (by omega) (by omega), hb0]
  have hno : dec (b0 :: t) = none → EvP (fun _ => some ((65533, 1, false) : Int × Int × Bool)) (fun r => r = tell (b0 :: t)) := fun h => EvP.ret _ (by unfold tell; rw [h])
  have hj2 : ∀ (m least x7 : Int), 1 ≤ m ∧ m ≤ 3 → ((t.length : Int) < m → tell (b0 :: t) = (65533, 1, false)) → (m ≤ (t.length : Int) → EvP (fun k => spec_Character.l0 k s a x7 m least 1) (fun r => r = tell (b0 :: t))) → EvP (fun k => spec_Character.j2 k s a x7 m least) (fun r => r = tell (b0 :: t)) := by
    intro m least x7 hm h1 h2
    refine EvP.succ ?_
    simp only [spec_Character.j2]
    rw [w64 (x := (s.size : Int) - a) (by omega) (by omega)]
    exact EvP.ite (fun h => EvP.ret _ (h1 (by omega)).symm) (fun h => h2 (by omega))
  have h2 : 194 ≤ b0 ∧ b0 ≤ 223 → EvP (fun k => spec_Character.j2 k s a (wrap64 (b0 - 192)) 1 128) (fun r => r = tell (b0 :: t)) := by
    intro hb
    rw [w64 (x := b0 - 192) (by omega) (by omega)]
    refine hj2 1 128 _ (by omega) (fun h => ?_) (fun h => ?_)
    · cases t with
      | nil => unfold tell; simp only [dec]; rw [if_neg (by omega), if_pos hb]
      | cons b1 t1 => simp at h; omega
    · cases t with
      | nil => simp at h
      | cons b1 t1 =>
        obtain ⟨e1, hi1, _⟩ := bt_of_drop (by omega) ht
        refine l0_step s hn a 1 128 _ 1 h0 (by omega) (by omega) (by omega) _ (fun hc => ?_) (fun hc => ?_)
        · rw [e1] at hc
          unfold tell; simp only [dec]; rw [if_neg (by omega), if_pos hb, if_neg hc]
        · rw [e1] at hc ⊢
          have hcc := hc
          unfold cont at hcc
          have hd : tell (b0 :: b1 :: t1) = ((b0 - 192) * 64 + b1 - 128, 2, true) := by
            unfold tell; simp only [dec]; rw [if_neg (by omega), if_pos hb, if_pos hc]; rfl
          rw [hd]
          exact l0_end s a 1 128 _ (by omega) _ (fun h => absurd (by omega) h) (fun _ => rfl)
  have h3 : 224 ≤ b0 ∧ b0 ≤ 239 → EvP (fun k => spec_Character.j2 k s a (wrap64 (b0 - 224)) 2 2048) (fun r => r = tell (b0 :: t)) := by
    intro hb
    rw [w64 (x := b0 - 224) (by omega) (by omega)]
    have hshort : ∀ t' : List Int, t'.length < 2 → tell (b0 :: t') = (65533, 1, false) := by
      intro t' h
      match t', h with
      | [], _ => unfold tell; simp only [dec]; rw [if_neg (by omega), if_neg (by omega), if_pos hb]
      | [x], _ => unfold tell; simp only [dec]; rw [if_neg (by omega), if_neg (by omega), if_pos hb]
      | _ :: _ :: _, h => simp at h; omega
    refine hj2 2 2048 _ (by omega) (fun h => hshort t (by omega)) (fun h => ?_)
    match t, ht, hlen, h with
    | [], _, _, h => simp at h
    | [x], _, _, h => simp at h
    | b1 :: b2 :: t1, ht, hlen, h =>
      obtain ⟨e1, hi1, ht1⟩ := bt_of_drop (by omega) ht
      obtain ⟨e2, hi2, _⟩ := bt_of_drop (by omega) ht1
      rw [show a + 1 + 1 = a + 2 from by omega] at e2 hi2
      have hbad : ¬ (cont b1 ∧ cont b2) → tell (b0 :: b1 :: b2 :: t1) = (65533, 1, false) := by
        intro hc
        unfold tell; simp only [dec]; rw [if_neg (by omega), if_neg (by omega), if_pos hb, if_neg hc]
      refine l0_step s hn a 2 2048 _ 1 h0 (by omega) (by omega) (by omega) _ (fun hc => ?_) (fun hc => ?_)
      · rw [e1] at hc; exact (hbad (fun h => hc h.1)).symm
      · rw [e1] at hc ⊢
        have hcc := hc; unfold cont at hcc
        refine l0_step s hn a 2 2048 _ 2 h0 (by omega) (by omega) (by omega) _ (fun hc2 => ?_) (fun hc2 => ?_)
        · rw [e2] at hc2; exact (hbad (fun h => hc2 h.2)).symm
        · rw [e2] at hc2 ⊢
          have hcc2 := hc2; unfold cont at hcc2
          refine l0_end s a 2 2048 _ (by omega) _ (fun hv => ?_) (fun hv => ?_)
          · unfold tell; simp only [dec]; rw [if_neg (by omega), if_neg (by omega), if_pos hb, if_pos ⟨hc, hc2⟩, if_neg (by omega)]
          · unfold tell; simp only [dec]; rw [if_neg (by omega), if_neg (by omega), if_pos hb, if_pos ⟨hc, hc2⟩, if_pos (by omega)]; rfl
  have h4 : 240 ≤ b0 ∧ b0 ≤ 244 → EvP (fun k => spec_Character.j2 k s a (wrap64 (b0 - 240)) 3 65536) (fun r => r = tell (b0 :: t)) := by
    intro hb
    rw [w64 (x := b0 - 240) (by omega) (by omega)]
    have hshort : ∀ t' : List Int, t'.length < 3 → tell (b0 :: t') = (65533, 1, false) := by
      intro t' h
      match t', h with
      | [], _ => unfold tell; simp only [dec]; rw [if_neg (by omega), if_neg (by omega), if_neg (by omega), if_pos hb]
      | [x], _ => unfold tell; simp only [dec]; rw [if_neg (by omega), if_neg (by omega), if_neg (by omega), if_pos hb]
      | [x, y], _ => unfold tell; simp only [dec]; rw [if_neg (by omega), if_neg (by omega), if_neg (by omega), if_pos hb]
      | _ :: _ :: _ :: _, h => simp at h; omega
    refine hj2 3 65536 _ (by omega) (fun h => hshort t (by omega)) (fun h => ?_)
    match t, ht, hlen, h with
    | [], _, _, h => simp at h
    | [x], _, _, h => simp at h
    | [x, y], _, _, h => simp at h
    | b1 :: b2 :: b3 :: t1, ht, hlen, h =>
      obtain ⟨e1, hi1, ht1⟩ := bt_of_drop (by omega) ht
      obtain ⟨e2, hi2, ht2⟩ := bt_of_drop (by omega) ht1
      obtain ⟨e3, hi3, _⟩ := bt_of_drop (by omega) ht2
      rw [show a + 1 + 1 = a + 2 from by omega] at e2 hi2 e3 hi3
      rw [show a + 2 + 1 = a + 3 from by omega] at e3 hi3
      have hbad : ¬ (cont b1 ∧ cont b2 ∧ cont b3) → tell (b0 :: b1 :: b2 :: b3 :: t1) = (65533, 1, false) := by
        intro hc
        unfold tell; simp only [dec]; rw [if_neg (by omega), if_neg (by omega), if_neg (by omega), if_pos hb, if_neg hc]
      refine l0_step s hn a 3 65536 _ 1 h0 (by omega) (by omega) (by omega) _ (fun hc => ?_) (fun hc => ?_)
      · rw [e1] at hc; exact (hbad (fun h => hc h.1)).symm
      · rw [e1] at hc ⊢
        have hcc := hc; unfold cont at hcc
        refine l0_step s hn a 3 65536 _ 2 h0 (by omega) (by omega) (by omega) _ (fun hc2 => ?_) (fun hc2 => ?_)
        · rw [e2] at hc2; exact (hbad (fun h => hc2 h.2.1)).symm
        · rw [e2] at hc2 ⊢
          have hcc2 := hc2; unfold cont at hcc2
          refine l0_step s hn a 3 65536 _ 3 h0 (by omega) (by omega) (by omega) _ (fun hc3 => ?_) (fun hc3 => ?_)
          · rw [e3] at hc3; exact (hbad (fun h => hc3 h.2.2)).symm
          · rw [e3] at hc3 ⊢
            have hcc3 := hc3; unfold cont at hcc3
            refine l0_end s a 3 65536 _ (by omega) _ (fun hv => ?_) (fun hv => ?_)
            · unfold tell; simp only [dec]; rw [if_neg (by omega), if_neg (by omega), if_neg (by omega), if_pos hb, if_pos ⟨hc, hc2, hc3⟩, if_neg (by omega)]
            · unfold tell; simp only [dec]; rw [if_neg (by omega), if_neg (by omega), if_neg (by omega), if_pos hb, if_pos ⟨hc, hc2, hc3⟩, if_pos (by omega)]; rfl
  have hrest : ¬ b0 < 128 → ¬ (194 ≤ b0 ∧ b0 ≤ 223) → ¬ (224 ≤ b0 ∧ b0 ≤ 239) → ¬ (240 ≤ b0 ∧ b0 ≤ 244) → EvP (fun _ => some ((65533, 1, false) : Int × Int × Bool)) (fun r => r = tell (b0 :: t)) := fun k1 k2 k3 k4 => hno (by simp only [dec]; rw [if_neg k1, if_neg k2, if_neg k3, if_neg k4])
  have hj1 : ∀ v : Bool, (v = true ↔ 224 ≤ b0 ∧ b0 ≤ 239) → ¬ b0 < 128 → ¬ (194 ≤ b0 ∧ b0 ≤ 223) → EvP (fun k => spec_Character.j1 k s a b0 v) (fun r => r = tell (b0 :: t)) := by
    intro v hv k1 k2
    refine EvP.succ ?_
    simp only [spec_Character.j1]
    refine EvP.ite (fun h => h3 (hv.1 h)) (fun h => ?_)
    have k3 : ¬ (224 ≤ b0 ∧ b0 ≤ 239) := fun c => h (hv.2 c)
    exact EvP.ite (fun q1 => EvP.ite (fun q2 => h4 ⟨q1, q2⟩) (fun q2 => hrest k1 k2 k3 (by omega))) (fun q1 => hrest k1 k2 k3 (by omega))
  have hj0 : ∀ v : Bool, (v = true ↔ 194 ≤ b0 ∧ b0 ≤ 223) → ¬ b0 < 128 → EvP (fun k => spec_Character.j0 k s a b0 v) (fun r => r = tell (b0 :: t)) := by
    intro v hv k1
    refine EvP.succ ?_
    simp only [spec_Character.j0]
    refine EvP.ite (fun h => h2 (hv.1 h)) (fun h => ?_)
    have k2 : ¬ (194 ≤ b0 ∧ b0 ≤ 223) := fun c => h (hv.2 c)
    exact EvP.ite (fun q => hj1 _ (by simp; omega) k1 k2) (fun q => hj1 _ (by simp; omega) k1 k2)
  refine EvP.pos h0 (EvP.pos ha (EvP.ite (fun h => EvP.ret _ ?_) (fun h => EvP.ite (fun q => hj0 _ (by simp; omega) h) (fun q => hj0 _ (by simp; omega) h))))
  unfold tell; simp only [dec]; rw [if_pos h]; rfl
end

end Go.Proofs.YtkhgbacbnkgafaaDoor.U8.Uc
