/- Plain law: what is left of a text and of a pattern with a star ahead, when what fits is taken from their ends, begins both; it tells of them what the whole ones tell. -/
import Derived.Test.YtkdpkenhhcgnbaaDoorTrimLp
set_option linter.unusedVariables false
namespace Go.Proofs.YtkdpkenhhcgnbaaDoor.PFnMtTrimSuffix.Gb
open Go.RowKit Go.Proofs.YtkdpkenhhcgnbaaDoor.PFnMtTrimSuffix Go.Proofs.YtkdpkenhhcgnbaaDoor.PFnMtTrimSuffix.Uc Go.Proofs.YtkdpkenhhcgnbaaDoorW.PrintWords Go.Proofs.YtkdpkenhhcgnbaaDoorW.PrintLast Go.Proofs.YtkdpkenhhcgnbaaDoor.EvL Go.Proofs.YtkdpkenhhcgnbaaDoor.StrL

theorem Txt.uniq : ∀ (d : Nat) (l cs ds : List Int), l.length ≤ d → Txt l cs → Txt l ds → cs = ds := by
  intro d
  induction d with
  | zero =>
    intro l cs ds hd h1 h2
    obtain rfl : l = [] := List.eq_nil_of_length_eq_zero (by omega)
    rw [h1.nil_inv, h2.nil_inv]
  | succ d ih =>
    intro l cs ds hd h1 h2
    by_cases he : l = []
    · subst he; rw [h1.nil_inv, h2.nil_inv]
    · obtain ⟨c, n, cs', e1, rfl, k1⟩ := h1.head he
      obtain ⟨c2, n2, ds', e2, rfl, k2⟩ := h2.head he
      rw [e1] at e2
      injection e2 with e2; injection e2 with e2 e3
      subst e2; subst e3
      have hn : 1 ≤ n := by
        cases h1 with
        | @cons x t c2 cs2 hx ht =>
          have h3 := dec_of hx (t := t)
          rw [h3] at e1
          injection e1 with e1; injection e1 with e1 e4
          rw [← e4]
          exact (Ch.len hx).1
      have hpos : 0 < l.length := List.length_pos_iff.2 he
      rw [ih (l.drop n) cs' ds' (by rw [List.length_drop]; omega) k1 k2]

theorem dec_pos {l : List Int} {c : Int} {n : Nat} (h : dec l = some (c, n)) (hb : ∀ b ∈ l, 0 ≤ b) : 1 ≤ n := by
  obtain ⟨x, t, _, hx, rfl⟩ := of_dec hb h
  exact (Ch.len hx).1

theorem Gl.uniq : ∀ (d : Nat) (l : List Int) (ts us : List S99), l.length ≤ d → (∀ b ∈ l, 0 ≤ b) → Gl l ts → Gl l us → ts = us := by
  intro d
  induction d with
  | zero =>
    intro l cs ds hd hb h1 h2
    obtain rfl : l = [] := List.eq_nil_of_length_eq_zero (by omega)
    rw [h1.nil_inv, h2.nil_inv]
  | succ d ih =>
    intro l ts us hd hb h1 h2
    by_cases he : l = []
    · subst he; rw [h1.nil_inv, h2.nil_inv]
    · obtain ⟨c, n, e1, k1⟩ := h1.head he
      obtain ⟨c2, n2, e2, k2⟩ := h2.head he
      have hn := dec_pos e1 hb
      rw [e1] at e2
      injection e2 with e2; injection e2 with e2 e3
      subst e2; subst e3
      have hpos : 0 < l.length := List.length_pos_iff.2 he
      have hbd : ∀ b ∈ l.drop n, 0 ≤ b := fun b h => hb b (List.mem_of_mem_drop h)
      have key : ∀ a b, Gl (l.drop n) a → Gl (l.drop n) b → a = b := fun a b => ih (l.drop n) a b (by rw [List.length_drop]; omega) hbd
      rcases k1 with ⟨q, ts', rfl, k1⟩ | ⟨q, ts', rfl, k1⟩ | ⟨q, c3, n3, ts', e3, rfl, k1⟩ | ⟨q1, q2, q3, ts', rfl, k1⟩ <;>
      rcases k2 with ⟨r, us', rfl, k2⟩ | ⟨r, us', rfl, k2⟩ | ⟨r, c4, n4, us', e4, rfl, k2⟩ | ⟨r1, r2, r3, us', rfl, k2⟩ <;>
      first
        | (exfalso; omega)
        | (rw [key _ _ k1 k2])
        | skip
      rw [e3] at e4
      injection e4 with e4; injection e4 with e4 e5
      subst e4; subst e5
      rw [ih ((l.drop n).drop n3) ts' us' (by rw [List.length_drop, List.length_drop]; omega) (fun b h => hbd b (List.mem_of_mem_drop h)) k1 k2]

theorem Txt.len {l cs : List Int} (h : Txt l cs) : cs.length ≤ l.length := by
  induction h with
  | nil => simp
  | cons hx _ ih => have := Ch.len hx; rw [List.length_cons, List.length_append]; omega
theorem Gl.len {l : List Int} {ts : List S99} (h : Gl l ts) : ts.length ≤ l.length := by
  induction h with
  | nil => simp
  | star _ ih => simp only [List.length_cons]; omega
  | one _ ih => simp only [List.length_cons]; omega
  | esc hx _ ih => simp only [List.length_cons, List.length_append]; omega
  | lit hx _ _ _ _ ih => have := Ch.len hx; simp only [List.length_cons, List.length_append]; omega

theorem Gl.star_inv {l : List Int} {ts : List S99} (h : Gl (42 :: l) ts) : ∃ ts', ts = ⟨true, false, 0⟩ :: ts' ∧ Gl l ts' := by
  obtain ⟨c, n, e, k⟩ := h.head (by simp)
  have h2 := dec_of (ch_ascii 42 (by omega) (by omega)) (t := l)
  rw [List.singleton_append, e] at h2
  injection h2 with h2; injection h2 with h2 h3
  subst h2; subst h3
  rcases k with ⟨_, ts', rfl, k⟩ | ⟨h, _⟩ | ⟨h, _⟩ | ⟨h, _⟩
  · exact ⟨ts', rfl, k⟩
  · omega
  · omega
  · exact absurd rfl h

/-- What spec.Matches tells. -/
theorem matches_f (s p : ByteArray) (hs : s.size ≤ 2147483647) (hp : p.size ≤ 2147483647) : EvP (fun k => spec_Matches.f k s p) (fun r => (r.2 = true ∧ ∃ cs ts, Txt (ints s) cs ∧ Gl (ints p) ts ∧ (r.1 = true ↔ M ts cs)) ∨
    (r.2 = false ∧ ((∀ cs, ¬ Txt (ints s) cs) ∨ ∀ ts, ¬ Gl (ints p) ts))) := by
  unfold spec_Matches.f
  refine EvP.bind (chars_f s hs) (fun a ha => EvP.bind (globs_f p hp) (fun b hb => EvP.ite (fun h1 => EvP.ite (fun h2 => ?_) (fun h2 => ?_)) (fun h1 => ?_)))
  · obtain ⟨_, ht⟩ := ha.resolve_right (fun h => by rw [h.1] at h1; cases h1)
    obtain ⟨_, hg⟩ := hb.resolve_right (fun h => by rw [h.1] at h2; cases h2)
    have k1 := ht.len
    have k2 := hg.len
    rw [ints_length] at k1 k2
    exact EvP.bind (fits_f a.1 (by omega) b.1 (by omega)) (fun t htt => EvP.ret _ (.inl ⟨rfl, _, _, ht, hg, htt⟩))
  · refine EvP.ret _ (.inr ⟨rfl, .inr (hb.resolve_left (fun h => h2 h.1)).2⟩)
  · refine EvP.ret _ (.inr ⟨rfl, .inl (ha.resolve_left (fun h => h1 h.1)).2⟩)

theorem pat_ints (a : ByteArray) : ints ((⟨#[42]⟩ : ByteArray) ++ a) = 42 :: ints a := by rw [ints_append]; rfl
theorem pat_size (a : ByteArray) : ((⟨#[42]⟩ : ByteArray) ++ a).size = 1 + a.size := by rw [ByteArray.size_append]; rfl

theorem prefix_eq {s r : ByteArray} {a : List Int} (h : ints s = ints r ++ a) : (s.extract 0 ((r.size : Int) : Int).toNat).toList = r.toList := by
  rw [toList_eq_iff, ints_extract, h, List.drop_zero, show ((r.size : Int) : Int).toNat - 0 = (ints r).length from by rw [ints_length]; omega, List.take_left]

theorem law_j0 (a0 a1 : ByteArray) (h0 : a0.size ≤ 2147483647) (h1 : a1.size ≤ 2147483647) : EvP (fun k => laws_FnMtTrimSuffix.j0 k a0 a1 false) (fun r => r = true) := by
  refine EvP.succ ?_
  simp only [laws_FnMtTrimSuffix.j0]
  refine EvP.neg (by simp) (EvP.pos (by omega) ?_)
  have hps := pat_size a1
  have hpi := pat_ints a1
  generalize hpdef : (⟨#[42]⟩ : ByteArray) ++ a1 = p at hps hpi ⊢
  have htold : EvP (fun k => laws_mtTold.f k a0 p) (fun r => r.2 = true → a0.size ≤ 4096 ∧ p.size ≤ 4096 ∧ ∃ cs ts, Txt (ints a0) cs ∧ Gl (ints p) ts ∧ (r.1 = true ↔ M ts cs)) := by
    unfold laws_mtTold.f
    refine EvP.ite (fun _ => EvP.ret _ (fun h => by cases h)) (fun c1 => EvP.ite (fun _ => EvP.ret _ (fun h => by cases h)) (fun c2 => EvP.bind (matches_f a0 p (by omega) (by omega)) (fun r hr => EvP.ret _ (fun h => ?_))))
    rcases hr with ⟨_, hr⟩ | ⟨hr, _⟩
    · exact ⟨by omega, by omega, hr⟩
    · dsimp only at h; rw [hr] at h; cases h
  refine EvP.bind htold (fun r hr => EvP.ite (fun hr2 => ?_) (fun _ => EvP.ret _ rfl))
  obtain ⟨z0, z1, cs, ts, ht, hg, hiff⟩ := hr hr2
  rw [hpi] at hg
  obtain ⟨ts', rfl, hg'⟩ := hg.star_inv
  have himpl : EvP (fun k => impl_MtTrimSuffix.f k a0 p) (Told a0 p ts' cs) := by
    unfold impl_MtTrimSuffix.f match_DoorTrimSuffix.f match_matchTrimSuffix.f
    refine EvP.bind (Q := Told a0 p ts' cs) (EvP.bind (trim_l0 a0.size a0 p cs (ints a1) ts' (by omega) h0 (by omega) ht hpi hg') (fun q hq => EvP.ret _ hq)) (fun q hq => EvP.ret _ hq)
  refine EvP.bind himpl (fun q hq => ?_)
  obtain ⟨⟨a, e1⟩, ⟨b, e2⟩, ⟨pb1, e3⟩, hq⟩ := hq
  have s1 := congrArg List.length e1
  have s2 := congrArg List.length e2
  have s3 := congrArg List.length e3
  rw [ints_length, List.length_append, ints_length] at s1 s2
  rw [ints_length, List.length_cons] at s3
  have c1 := prefix_eq e1
  have c2 := prefix_eq e2
  have hne : ¬ q.2.1.toList = ([] : List UInt8) := by rw [toList_nil]; omega
  rw [w64 (x := (a1.size : Int) + 1) (by omega) (by omega)]
  refine EvP.neg (by omega) (EvP.pos (by omega) (EvP.pos (by omega) (EvP.pos c1 (EvP.neg (by omega) (EvP.neg hne (EvP.pos (by omega) (EvP.pos (by omega) ?_)))))))
  have c3 : ((p.extract 0 ((q.2.1.size : Int) : Int).toNat).toList != q.2.1.toList) = false := by rw [c2]; simp
  rw [c3]
  refine EvP.succ ?_
  simp only [laws_FnMtTrimSuffix.j1]
  refine EvP.neg (by simp) ?_
  rcases hq with ⟨q1, cs1, pb2, ts1, k1, k2, k3, k4⟩ | ⟨q1, q2⟩
  · refine EvP.pos q1 (EvP.bind (matches_f q.1 q.2.1 (by omega) (by omega)) (fun m hm => ?_))
    have hgl : Gl (ints q.2.1) (⟨true, false, 0⟩ :: ts1) := by rw [k2]; exact .star k3
    rcases hm with ⟨m1, cs2, ts2, n1, n2, n3⟩ | ⟨m1, m2 | m2⟩
    · refine EvP.pos m1 (EvP.ret _ ?_)
      have u1 := Txt.uniq _ _ _ _ (Nat.le_refl _) k1 n1
      have u2 := Gl.uniq _ _ _ _ (Nat.le_refl _) (fun b hb => (ints_bytes _ b hb).1) hgl n2
      rw [← u1, ← u2] at n3
      have : m.1 = true ↔ r.1 = true := n3.trans (k4.symm.trans hiff.symm)
      cases h1 : m.1 <;> cases h2 : r.1 <;> simp_all
    · exact absurd k1 (m2 _)
    · exact absurd hgl (m2 _)
  · refine EvP.neg (by rw [q1]; simp) (EvP.ret _ ?_)
    have : r.1 = false := by
      cases h2 : r.1 with
      | false => rfl
      | true => exact absurd (hiff.1 h2) q2
    rw [this]; rfl

theorem law_f (a0 a1 : ByteArray) : EvP (fun k => laws_FnMtTrimSuffix.f k a0 a1) (fun r => r = true) := by
  have htrue : EvP (fun k => laws_FnMtTrimSuffix.j0 k a0 a1 true) (fun r => r = true) := by
    refine EvP.succ ?_
    simp only [laws_FnMtTrimSuffix.j0]
    exact EvP.pos trivial (EvP.ret _ rfl)
  unfold laws_FnMtTrimSuffix.f
  refine EvP.ite (fun _ => htrue) (fun h0 => ?_)
  by_cases h1 : (a1.size : Int) > 2147483647
  · rw [decide_eq_true h1]; exact htrue
  · rw [decide_eq_false h1]; exact law_j0 a0 a1 (by omega) (by omega)

end Go.Proofs.YtkdpkenhhcgnbaaDoor.PFnMtTrimSuffix.Gb

namespace Go.Proofs.YtkdpkenhhcgnbaaDoor.Pure
open Go.RowKit Go.Proofs.YtkdpkenhhcgnbaaDoor.PFnMtTrimSuffix Go.Proofs.YtkdpkenhhcgnbaaDoorW.PrintWords Go.Proofs.YtkdpkenhhcgnbaaDoorW.PrintLast

theorem FnMtTrimSuffix : laws_FnMtTrimSuffix.Pure := fun a0 a1 _ _ => (Go.Proofs.YtkdpkenhhcgnbaaDoor.PFnMtTrimSuffix.Gb.law_f a0 a1).told

end Go.Proofs.YtkdpkenhhcgnbaaDoor.Pure
