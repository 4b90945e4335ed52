/- Plain law of the reference's patterns (law PFnGjMatchesLike): texts of characters, patterns of terms, and what it is that characters are what terms say. -/
import Derived.Test.YtkhgbacbnkgafaaGreatDoorMlCh
set_option linter.unusedVariables false
namespace Go.Proofs.YtkhgbacbnkgafaaGreatDoor.PFnGjMatchesLike.Gb
open Go.RowKit Go.Proofs.YtkhgbacbnkgafaaGreatDoor.PFnGjMatchesLike Go.Proofs.YtkhgbacbnkgafaaGreatDoor.PFnGjMatchesLike.Uc Go.Proofs.YtkhgbacbnkgafaaGreatDoorW.PrintWords Go.Proofs.YtkhgbacbnkgafaaGreatDoorW.PrintLast Go.Proofs.YtkhgbacbnkgafaaGreatDoor.EvL Go.Proofs.YtkhgbacbnkgafaaGreatDoor.StrL

theorem Ch.len {x : List Int} {c : Int} (h : Ch x c) : 1 ≤ x.length ∧ x.length ≤ 4 := by cases h <;> simp

inductive Txt : List Int → List Int → Prop
  | nil : Txt [] []
  | cons {x t : List Int} {c : Int} {cs : List Int} (hx : Ch x c) (ht : Txt t cs) : Txt (x ++ t) (c :: cs)

theorem Txt.head {l cs : List Int} (h : Txt l cs) (hne : l ≠ []) : ∃ c n cs', dec l = some (c, n) ∧ cs = c :: cs' ∧ Txt (l.drop n) cs' := by
  cases h with
  | nil => exact absurd rfl hne
  | cons hx ht => exact ⟨_, _, _, dec_of hx, rfl, by rw [List.drop_left]; exact ht⟩

theorem Txt.append {a b ca cb : List Int} (h : Txt a ca) (k : Txt b cb) : Txt (a ++ b) (ca ++ cb) := by
  induction h with
  | nil => exact k
  | cons hx _ ih => rw [List.append_assoc, List.cons_append]; exact .cons hx ih

theorem drop_more {s : ByteArray} {i : Int} {x t : List Int} (h0 : 0 ≤ i) (h : (ints s).drop i.toNat = x ++ t) : (ints s).drop (i + (x.length : Int)).toNat = t := by
  rw [show (i + (x.length : Int)).toNat = i.toNat + x.length from by omega, ← List.drop_drop, h, List.drop_left]

section
variable (s : ByteArray) (hn : s.size ≤ 2147483647)

theorem chars_l0 (hn : s.size ≤ 2147483647) : ∀ (d : Nat) (i : Int) (acc l : List Int), 0 ≤ i → i ≤ s.size → (ints s).drop i.toNat = l → l.length ≤ d → (acc.length : Int) ≤ i →
    EvP (fun k => spec_Characters.l0 k s acc i) (fun r => (r.2 = true ∧ ∃ cs, Txt l cs ∧ r.1 = acc ++ cs) ∨ (r.2 = false ∧ ∀ cs, ¬ Txt l cs)) := by
  intro d
  induction d with
  | zero =>
    intro i acc l h0 hi hl hd ha
    obtain rfl : l = [] := List.eq_nil_of_length_eq_zero (by omega)
    have h1 := len_of_drop_nil h0 hl
    rw [ints_length] at h1
    refine EvP.succ ?_
    simp only [spec_Characters.l0]
    exact EvP.neg (by omega) (EvP.ret _ (.inl ⟨rfl, [], .nil, by simp⟩))
  | succ d ih =>
    intro i acc l h0 hi hl hd ha
    by_cases hne : l = []
    · subst hne
      have h1 := len_of_drop_nil h0 hl
      rw [ints_length] at h1
      refine EvP.succ ?_
      simp only [spec_Characters.l0]
      exact EvP.neg (by omega) (EvP.ret _ (.inl ⟨rfl, [], .nil, by simp⟩))
    · have hlen := size_of_drop h0 hi hl
      have hpos : 0 < l.length := List.length_pos_iff.2 hne
      refine EvP.succ ?_
      simp only [spec_Characters.l0]
      refine EvP.pos (by omega) (EvP.bind (char_f s hn i l h0 hl hne) ?_)
      rintro r rfl
      cases hdc : dec l with
      | none =>
        unfold tell; rw [hdc]
        dsimp only
        refine EvP.neg (by simp) (EvP.ret _ (.inr ⟨rfl, fun cs ht => ?_⟩))
        obtain ⟨c, n, _, h1, _⟩ := ht.head hne
        rw [hdc] at h1; cases h1
      | some cn =>
        obtain ⟨c, n⟩ := cn
        have hby : ∀ b ∈ l, 0 ≤ b := fun b hb => (ints_bytes s b (by rw [← hl] at hb; exact List.mem_of_mem_drop hb)).1
        obtain ⟨x, t, rfl, hx, rfl⟩ := of_dec hby hdc
        have hxl := Ch.len hx
        unfold tell; rw [hdc]
        dsimp only
        rw [List.length_append] at hlen hd
        refine EvP.pos rfl (EvP.pos (by omega) ?_)
        rw [w64 (by omega) (by omega)]
        refine (ih (i + (x.length : Int)) (acc ++ [c]) t (by omega) (by omega) (drop_more h0 hl) (by omega) (by simp; omega)).mono ?_
        rintro r (⟨h1, cs, h2, h3⟩ | ⟨h1, h2⟩)
        · exact .inl ⟨h1, c :: cs, .cons hx h2, by rw [h3]; simp⟩
        · refine .inr ⟨h1, fun cs ht => ?_⟩
          obtain ⟨c', n', cs', k1, k2, k3⟩ := ht.head hne
          rw [hdc] at k1
          injection k1 with k1; injection k1 with k1 k4
          subst k4
          rw [List.drop_left] at k3
          exact h2 cs' k3

theorem chars_f (hn : s.size ≤ 2147483647) : EvP (fun k => spec_Characters.f k s) (fun r => (r.2 = true ∧ Txt (ints s) r.1) ∨ (r.2 = false ∧ ∀ cs, ¬ Txt (ints s) cs)) := by
  unfold spec_Characters.f
  refine (chars_l0 s hn (ints s).length 0 [] (ints s) (by omega) (by omega) (by simp) (by omega) (by simp)).mono ?_
  rintro r (⟨h1, cs, h2, h3⟩ | h)
  · rw [List.nil_append] at h3; exact .inl ⟨h1, by rw [h3]; exact h2⟩
  · exact .inr h

/-! ### patterns -/
inductive Gl : List Int → List S56 → Prop
  | nil : Gl [] []
  | star {t : List Int} {ts : List S56} (ht : Gl t ts) : Gl (42 :: t) (⟨true, false, 0⟩ :: ts)
  | one {t : List Int} {ts : List S56} (ht : Gl t ts) : Gl (63 :: t) (⟨false, true, 0⟩ :: ts)
  | esc {x t : List Int} {c : Int} {ts : List S56} (hx : Ch x c) (ht : Gl t ts) : Gl (92 :: (x ++ t)) (⟨false, false, c⟩ :: ts)
  | lit {x t : List Int} {c : Int} {ts : List S56} (hx : Ch x c) (h1 : c ≠ 42) (h2 : c ≠ 63) (h3 : c ≠ 92) (ht : Gl t ts) : Gl (x ++ t) (⟨false, false, c⟩ :: ts)

theorem ch_ascii (b : Int) (h0 : 0 ≤ b) (h1 : b < 128) : Ch [b] b := .one b h0 h1
theorem ch_inv {x : List Int} {c : Int} (h : Ch x c) (hc : c < 128) : x = [c] := by
  cases h with
  | one => rfl
  | two b0 b1 c h0 h1 e => omega
  | three b0 b1 b2 c h0 h1 h2 e hl hs => omega
  | four b0 b1 b2 b3 c h0 h1 h2 h3 e hl hm => omega

theorem Gl.head {l : List Int} {ts : List S56} (h : Gl l ts) (hne : l ≠ []) : ∃ c n, dec l = some (c, n) ∧
    ((c = 42 ∧ ∃ ts', ts = ⟨true, false, 0⟩ :: ts' ∧ Gl (l.drop n) ts') ∨ (c = 63 ∧ ∃ ts', ts = ⟨false, true, 0⟩ :: ts' ∧ Gl (l.drop n) ts') ∨
     (c = 92 ∧ ∃ c2 n2 ts', dec (l.drop n) = some (c2, n2) ∧ ts = ⟨false, false, c2⟩ :: ts' ∧ Gl ((l.drop n).drop n2) ts') ∨
     (c ≠ 42 ∧ c ≠ 63 ∧ c ≠ 92 ∧ ∃ ts', ts = ⟨false, false, c⟩ :: ts' ∧ Gl (l.drop n) ts')) := by
  cases h with
  | nil => exact absurd rfl hne
  | star ht => exact ⟨42, 1, dec_of (ch_ascii 42 (by omega) (by omega)), .inl ⟨rfl, _, rfl, ht⟩⟩
  | one ht => exact ⟨63, 1, dec_of (ch_ascii 63 (by omega) (by omega)), .inr (.inl ⟨rfl, _, rfl, ht⟩)⟩
  | esc hx ht => exact ⟨92, 1, dec_of (ch_ascii 92 (by omega) (by omega)), .inr (.inr (.inl ⟨rfl, _, _, _, dec_of hx, rfl, by simp only [List.drop_succ_cons, List.drop_zero, List.drop_left]; exact ht⟩))⟩
  | lit hx h1 h2 h3 ht => exact ⟨_, _, dec_of hx, .inr (.inr (.inr ⟨h1, h2, h3, _, rfl, by rw [List.drop_left]; exact ht⟩))⟩

theorem globs_l0 (hn : s.size ≤ 2147483647) : ∀ (d : Nat) (i : Int) (acc : List S56) (l : List Int), 0 ≤ i → i ≤ s.size → (ints s).drop i.toNat = l → l.length ≤ d → (acc.length : Int) ≤ i →
    EvP (fun k => spec_Globs.l0 k s acc i) (fun r => (r.2 = true ∧ ∃ ts, Gl l ts ∧ r.1 = acc ++ ts) ∨ (r.2 = false ∧ ∀ ts, ¬ Gl l ts)) := by
  intro d
  induction d with
  | zero =>
    intro i acc l h0 hi hl hd ha
    obtain rfl : l = [] := List.eq_nil_of_length_eq_zero (by omega)
    have h1 := len_of_drop_nil h0 hl
    rw [ints_length] at h1
    refine EvP.succ ?_
    simp only [spec_Globs.l0]
    exact EvP.neg (by omega) (EvP.ret _ (.inl ⟨rfl, [], .nil, by simp⟩))
  | succ d ih =>
    intro i acc l h0 hi hl hd ha
    by_cases hne : l = []
    · subst hne
      have h1 := len_of_drop_nil h0 hl
      rw [ints_length] at h1
      refine EvP.succ ?_
      simp only [spec_Globs.l0]
      exact EvP.neg (by omega) (EvP.ret _ (.inl ⟨rfl, [], .nil, by simp⟩))
    · have hlen := size_of_drop h0 hi hl
      have hpos : 0 < l.length := List.length_pos_iff.2 hne
      have hby : ∀ b ∈ l, 0 ≤ b := fun b hb => (ints_bytes s b (by rw [← hl] at hb; exact List.mem_of_mem_drop hb)).1
      refine EvP.succ ?_
      simp only [spec_Globs.l0]
      refine EvP.pos (by omega) (EvP.bind (char_f s hn i l h0 hl hne) ?_)
      rintro r rfl
      cases hdc : dec l with
      | none =>
        unfold tell; rw [hdc]
        dsimp only
        refine EvP.neg (by simp) (EvP.ret _ (.inr ⟨rfl, fun cs ht => ?_⟩))
        obtain ⟨c, n, h1, _⟩ := ht.head hne
        rw [hdc] at h1; cases h1
      | some cn =>
        obtain ⟨c, n⟩ := cn
        obtain ⟨x, t, rfl, hx, rfl⟩ := of_dec hby hdc
        have hxl := Ch.len hx
        unfold tell; rw [hdc]
        dsimp only
        rw [List.length_append] at hlen hd
        have hnext : ∀ (g : S56), (∀ ts, Gl (x ++ t) ts ↔ ∃ ts', ts = g :: ts' ∧ Gl t ts') → EvP (fun k => spec_Globs.l0 k s (acc ++ [g]) (wrap64 (i + (x.length : Int)))) (fun r => (r.2 = true ∧ ∃ ts, Gl (x ++ t) ts ∧ r.1 = acc ++ ts) ∨ (r.2 = false ∧ ∀ ts, ¬ Gl (x ++ t) ts)) := by
          intro g hg
          rw [w64 (by omega) (by omega)]
          refine (ih (i + (x.length : Int)) (acc ++ [g]) t (by omega) (by omega) (drop_more h0 hl) (by omega) (by simp; omega)).mono ?_
          rintro r (⟨h1, ts, h2, h3⟩ | ⟨h1, h2⟩)
          · exact .inl ⟨h1, g :: ts, (hg _).2 ⟨ts, rfl, h2⟩, by rw [h3]; simp⟩
          · refine .inr ⟨h1, fun ts ht => ?_⟩
            obtain ⟨ts', _, h4⟩ := (hg _).1 ht
            exact h2 ts' h4
        have hinv : ∀ ts, Gl (x ++ t) ts → ((c = 42 ∧ ∃ ts', ts = ⟨true, false, 0⟩ :: ts' ∧ Gl t ts') ∨ (c = 63 ∧ ∃ ts', ts = ⟨false, true, 0⟩ :: ts' ∧ Gl t ts') ∨ (c = 92 ∧ ∃ c2 n2 ts', dec t = some (c2, n2) ∧ ts = ⟨false, false, c2⟩ :: ts' ∧ Gl (t.drop n2) ts') ∨ (c ≠ 42 ∧ c ≠ 63 ∧ c ≠ 92 ∧ ∃ ts', ts = ⟨false, false, c⟩ :: ts' ∧ Gl t ts')) := by
          intro ts ht
          obtain ⟨c', n', k1, k2⟩ := ht.head hne
          rw [hdc] at k1
          injection k1 with k1; injection k1 with k1 k4
          subst k4; subst k1
          rw [List.drop_left] at k2
          exact k2
        refine EvP.pos rfl (EvP.ite (fun hc => EvP.pos (by omega) (hnext _ (fun ts => ⟨fun ht => ?_, ?_⟩))) (fun hc1 => EvP.ite (fun hc => EvP.pos (by omega) (hnext _ (fun ts => ⟨fun ht => ?_, ?_⟩))) (fun hc2 => EvP.ite (fun hc => ?_) (fun hc3 => EvP.pos (by omega) (hnext _ (fun ts => ⟨fun ht => ?_, ?_⟩))))))
        · rcases hinv ts ht with h | h | h | h
          · exact h.2
          · omega
          · omega
          · omega
        · rintro ⟨ts', rfl, h⟩
          rw [ch_inv hx (by omega), hc]; exact .star h
        · rcases hinv ts ht with h | h | h | h
          · omega
          · exact h.2
          · omega
          · omega
        · rintro ⟨ts', rfl, h⟩
          rw [ch_inv hx (by omega), hc]; exact .one h
        · -- a backslash
          have hx1 : x = [92] := by rw [ch_inv hx (by omega), hc]
          subst hx1
          simp only [List.length_cons, List.length_nil] at hlen hd hxl ⊢
          have hd1 := drop_more h0 hl
          simp only [List.length_cons, List.length_nil] at hd1
          rw [w64 (x := i + _) (by omega) (by omega)]
          by_cases hte : t = []
          · subst hte
            simp only [List.length_nil] at hlen
            refine EvP.pos (by omega) (EvP.ret _ (.inr ⟨rfl, fun ts ht => ?_⟩))
            rcases hinv ts ht with h | h | h | h
            · omega
            · omega
            · obtain ⟨_, c2, n2, ts', h5, _⟩ := h
              simp [dec] at h5
            · omega
          · have htp : 0 < t.length := List.length_pos_iff.2 hte
            refine EvP.neg (by omega) (EvP.bind (char_f s hn _ t (by omega) hd1 hte) ?_)
            rintro r rfl
            cases hdt : dec t with
            | none =>
              unfold tell; rw [hdt]
              dsimp only
              refine EvP.neg (by simp) (EvP.ret _ (.inr ⟨rfl, fun ts ht => ?_⟩))
              rcases hinv ts ht with h | h | h | h
              · omega
              · omega
              · obtain ⟨_, c2, n2, ts', h5, _⟩ := h
                rw [hdt] at h5; cases h5
              · omega
            | some cn2 =>
              obtain ⟨c2, n2⟩ := cn2
              obtain ⟨y, u, rfl, hy, rfl⟩ := of_dec (fun b hb => hby b (by simp [hb])) hdt
              have hyl := Ch.len hy
              unfold tell; rw [hdt]
              dsimp only
              rw [List.length_append] at hlen hd
              refine EvP.pos rfl (EvP.pos (by omega) ?_)
              rw [w64 (by omega) (by omega)]
              refine (ih _ (acc ++ [⟨false, false, c2⟩]) u (by omega) (by omega) (drop_more (by omega) hd1) (by omega) (by simp; omega)).mono ?_
              rintro r (⟨h1, ts, h2, h3⟩ | ⟨h1, h2⟩)
              · exact .inl ⟨h1, ⟨false, false, c2⟩ :: ts, (show Gl (92 :: (y ++ u)) _ from .esc hy h2), by rw [h3]; simp⟩
              · refine .inr ⟨h1, fun ts ht => ?_⟩
                rcases hinv ts ht with h | h | h | h
                · omega
                · omega
                · obtain ⟨_, c3, n3, ts', h5, _, h6⟩ := h
                  rw [hdt] at h5
                  injection h5 with h5; injection h5 with h5 h7
                  subst h7
                  rw [List.drop_left] at h6
                  exact h2 ts' h6
                · omega
        · rcases hinv ts ht with h | h | h | h
          · omega
          · omega
          · omega
          · exact h.2.2.2
        · rintro ⟨ts', rfl, h⟩
          exact .lit hx hc1 hc2 hc3 h

theorem globs_f (hn : s.size ≤ 2147483647) : EvP (fun k => spec_Globs.f k s) (fun r => (r.2 = true ∧ Gl (ints s) r.1) ∨ (r.2 = false ∧ ∀ ts, ¬ Gl (ints s) ts)) := by
  unfold spec_Globs.f
  refine (globs_l0 s hn (ints s).length 0 [] (ints s) (by omega) (by omega) (by simp) (by omega) (by simp)).mono ?_
  rintro r (⟨h1, cs, h2, h3⟩ | h)
  · rw [List.nil_append] at h3; exact .inl ⟨h1, by rw [h3]; exact h2⟩
  · exact .inr h
end

end Go.Proofs.YtkhgbacbnkgafaaGreatDoor.PFnGjMatchesLike.Gb
