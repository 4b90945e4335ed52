/- jsonparser's ParsePath tells an error just of the texts of which it gives no parts, and of the empty one: it comes to an answer at every text of at most 1000 bytes, and its errors are three of its own. No condition beyond the statement's own guards. -/
import Derived.Test.YtfmllmlloekojaaDoorPFnJrPathx4
import Derived.Test.YtfmllmlloekojaaDoorStr
set_option linter.unusedVariables false
namespace Go.Proofs.YtfmllmlloekojaaDoor.Pure
open Go.RowKit Go.Proofs.YtfmllmlloekojaaDoor.PFnJrPath Go.Proofs.YtfmllmlloekojaaDoorW.PrintWords Go.Proofs.YtfmllmlloekojaaDoorW.PrintLast Go.Proofs.YtfmllmlloekojaaDoor.EvL Go.Proofs.YtfmllmlloekojaaDoor.StrL
namespace JrP

theorem EvP.sub {α β : Type} {o : Option α} {v : α} {F : Nat → α → Option β} {P : β → Prop} (e : o = some v) (h : EvP (fun k => F k v) P) : EvP (fun k => o.bind (F k)) P := by subst e; exact h

theorem count_l1 (s a : ByteArray) (ha : a.size = 1) (hn : s.size ≤ 1000) : ∀ (d : Nat) (x5 x6 : Int), 0 ≤ x5 → x5 ≤ x6 → x6 ≤ s.size → (s.size : Int) - x6 ≤ d → EvP (fun k => jsonparser_zzCount.l1 k s a x5 x6) (fun r => 0 ≤ r ∧ r ≤ s.size) := by
  intro d
  induction d with
  | zero =>
    intro x5 x6 h0 h1 h2 hd
    refine EvP.succ ?_
    simp only [jsonparser_zzCount.l1, ha]
    rw [w64 (x := x6 + ((1 : Nat) : Int)) (by omega) (by omega)]
    exact EvP.neg (by omega) (EvP.ret _ ⟨h0, by omega⟩)
  | succ d ih =>
    intro x5 x6 h0 h1 h2 hd
    refine EvP.succ ?_
    simp only [jsonparser_zzCount.l1, ha]
    rw [w64 (x := x6 + ((1 : Nat) : Int)) (by omega) (by omega), w64 (x := x5 + 1) (by omega) (by omega), w64 (x := x6 + 1) (by omega) (by omega)]
    refine EvP.ite (fun hlt => EvP.pos (by omega) (EvP.pos (by omega) (EvP.ite (fun _ => ?_) (fun _ => ?_)))) (fun _ => EvP.ret _ ⟨h0, by omega⟩)
    · exact ih (x5 + 1) (x6 + ((1 : Nat) : Int)) (by omega) (by omega) (by omega) (by omega)
    · exact ih x5 (x6 + 1) (by omega) (by omega) (by omega) (by omega)
theorem count_f (s a : ByteArray) (ha : a.size = 1) (hn : s.size ≤ 1000) : EvP (fun k => jsonparser_zzCount.f k s a) (fun r => 0 ≤ r ∧ r ≤ s.size) := by
  unfold jsonparser_zzCount.f
  exact EvP.neg (by omega) (count_l1 s a ha hn s.size 0 0 (by omega) (by omega) (by omega) (by omega))

theorem mem_of_index (u : UInt8) : ∀ l : List UInt8, Lib.indexByte l u ≠ -1 → u ∈ l
  | [], h => absurd rfl h
  | b :: l, h => by
    by_cases hb : b = u
    · exact hb ▸ List.mem_cons_self
    · have hb2 : (b == u) = false := by simpa using hb
      refine List.mem_cons_of_mem _ (mem_of_index u l (fun e => h ?_))
      simp [Lib.indexByte, hb2, e]

/-- What a component's reading tells: no error and a later place, or an error of the package's own. -/
def Part (s : ByteArray) (i : Int) (r : ByteArray × Int × Option Int) : Prop := (r.2.2 = none ∧ i < r.2.1 ∧ r.2.1 ≤ s.size) ∨ r.2.2 = some 1 ∨ r.2.2 = some 12

theorem quoted_l0 (s : ByteArray) (hn : s.size ≤ 1000) (x7 : Int) (h7 : 0 ≤ x7) : ∀ (d : Nat) (x8 : Int), x7 ≤ x8 → (s.size : Int) + 2 - x8 ≤ d → x8 ≤ s.size + 1 → EvP (fun k => jsonparser_parseQuotedPathKey.l0 k s x7 x8) (Part s (x7 - 1)) := by
  intro d
  induction d with
  | zero => intro x8 h1 h2 h3; omega
  | succ d ih =>
    intro x8 h1 h2 h3
    refine EvP.succ ?_
    simp only [jsonparser_parseQuotedPathKey.l0]
    rw [w64 (x := x8 + 1) (by omega) (by omega), w64 (x := x8 + 1 + 1) (by omega) (by omega)]
    refine EvP.ite (fun hlt => EvP.pos (by omega) (EvP.ite (fun _ => EvP.ite (fun _ => EvP.ret _ (.inr (.inr rfl))) (fun hge => ih (x8 + 1 + 1) (by omega) (by omega) (by omega))) (fun _ => EvP.ite (fun hq => EvP.pos h7 (EvP.pos h1 (EvP.pos (by omega) ?_))) (fun _ => EvP.ite (fun _ => EvP.ret _ (.inr (.inl rfl))) (fun _ => ih (x8 + 1) (by omega) (by omega) (by omega)))))) (fun _ => EvP.ret _ (.inr (.inr rfl)))
    have hsz : (s.extract x7.toNat x8.toNat).size ≤ 1000 := by rw [ByteArray.size_extract]; omega
    generalize s.extract x7.toNat x8.toNat = y at hsz
    unfold strings_IndexByte.f
    refine EvP.sub rfl (EvP.ite (fun _ => EvP.ret _ (.inl ⟨rfl, by dsimp only; omega, by dsimp only; omega⟩)) (fun hne => EvP.pos (by omega) ?_))
    have hmem : (92 : Int) ∈ bytesOf y := by
      have := mem_of_index _ _ hne
      rw [bytesOf_ints]
      unfold ints
      exact List.mem_map.2 ⟨_, this, rfl⟩
    obtain ⟨r, hr⟩ := unescape_some (bytesOf y) hmem (by rw [bytesOf_ints, ints_length]; omega)
    refine EvP.sub hr (EvP.ite (fun _ => EvP.ret _ (.inl ⟨rfl, by dsimp only; omega, by dsimp only; omega⟩)) (fun _ => EvP.ret _ (.inr (.inl rfl))))

theorem quoted_f (s : ByteArray) (hn : s.size ≤ 1000) (i : Int) (h0 : 0 ≤ i) (hi : i ≤ s.size) : EvP (fun k => jsonparser_parseQuotedPathKey.f k s i) (Part s i) := by
  unfold jsonparser_parseQuotedPathKey.f
  rw [w64 (x := i + 1) (by omega) (by omega)]
  have := quoted_l0 s hn (i + 1) (by omega) (s.size + 2) (i + 1) (by omega) (by omega) (by omega)
  rwa [show i + 1 - 1 = i from by omega] at this

theorem bracket_l1 (s : ByteArray) (hn : s.size ≤ 1000) (x1 x7 : Int) (h1 : 0 ≤ x1) (h17 : x1 < x7) (h7 : x7 < s.size) : ∀ (d : Nat) (x8 : Int), 0 ≤ x8 → x7 - x8 ≤ d → EvP (fun k => jsonparser_parseBracketPathComponent.l1 k s x1 x7 x8) (Part s x1) := by
  intro d
  induction d with
  | zero =>
    intro x8 h0 hd
    refine EvP.succ ?_
    simp only [jsonparser_parseBracketPathComponent.l1]
    rw [w64 (x := x7 + 1) (by omega) (by omega)]
    exact EvP.neg (by omega) (EvP.pos h1 (EvP.pos (by omega) (EvP.pos (by omega) (EvP.ret _ (.inl ⟨rfl, by dsimp only; omega, by dsimp only; omega⟩)))))
  | succ d ih =>
    intro x8 h0 hd
    refine EvP.succ ?_
    simp only [jsonparser_parseBracketPathComponent.l1]
    rw [w64 (x := x7 + 1) (by omega) (by omega)]
    refine EvP.ite (fun hlt => EvP.pos h0 (EvP.pos (by omega) (EvP.ite (fun _ => EvP.ret _ (.inr (.inl rfl))) (fun _ => EvP.ite (fun _ => EvP.ret _ (.inr (.inl rfl))) (fun _ => ?_))))) (fun _ => EvP.pos h1 (EvP.pos (by omega) (EvP.pos (by omega) (EvP.ret _ (.inl ⟨rfl, by dsimp only; omega, by dsimp only; omega⟩)))))
    rw [w64 (x := x8 + 1) (by omega) (by omega)]
    exact ih (x8 + 1) (by omega) (by omega)

theorem bracket_j1f (s : ByteArray) (hn : s.size ≤ 1000) (x1 x7 : Int) (h1 : 0 ≤ x1) (h17 : x1 < x7) (h7 : x7 ≤ s.size) : EvP (fun k => jsonparser_parseBracketPathComponent.j1 k s x1 x7 false) (Part s x1) := by
  have j2t : EvP (fun k => jsonparser_parseBracketPathComponent.j2 k s x1 x7 true) (Part s x1) := EvP.succ (by simp only [jsonparser_parseBracketPathComponent.j2]; exact EvP.pos trivial (EvP.ret _ (.inr (.inl rfl))))
  refine EvP.succ ?_
  simp only [jsonparser_parseBracketPathComponent.j1]
  refine EvP.neg (by simp) (EvP.ite (fun _ => j2t) (fun hne => ?_))
  rw [w64 (x := x1 + 1) (by omega) (by omega)]
  cases hb : (x7 == x1 + 1) with
  | true => exact j2t
  | false =>
    have hne2 : x7 ≠ x1 + 1 := by simpa using hb
    refine EvP.succ ?_
    simp only [jsonparser_parseBracketPathComponent.j2]
    rw [w64 (x := x1 + 1) (by omega) (by omega), w64 (x := x1 + 2) (by omega) (by omega), w64 (x := x7 + 1) (by omega) (by omega)]
    refine EvP.neg (by simp) (EvP.pos (by omega) (EvP.pos (by omega) (EvP.ite (fun _ => EvP.ite (fun _ => EvP.pos h1 (EvP.pos (by omega) (EvP.pos (by omega) (EvP.ret _ (.inl ⟨rfl, by dsimp only; omega, by dsimp only; omega⟩))))) (fun _ => EvP.ret _ (.inr (.inl rfl)))) (fun _ => ?_))))
    exact bracket_l1 s hn x1 x7 h1 h17 (by omega) _ (x1 + 1) (by omega) (by omega : x7 - (x1 + 1) ≤ ((x7 - (x1 + 1)).toNat : Int))

theorem bracket_l0 (s : ByteArray) (hn : s.size ≤ 1000) (x1 : Int) (h1 : 0 ≤ x1) : ∀ (d : Nat) (x7 : Int), x1 < x7 → x7 ≤ s.size → (s.size : Int) - x7 ≤ d → EvP (fun k => jsonparser_parseBracketPathComponent.l0 k s x1 x7) (Part s x1) := by
  intro d
  induction d with
  | zero =>
    intro x7 h17 h7 hd
    refine EvP.succ ?_
    simp only [jsonparser_parseBracketPathComponent.l0]
    exact EvP.neg (by omega) (bracket_j1f s hn x1 x7 h1 h17 h7)
  | succ d ih =>
    intro x7 h17 h7 hd
    refine EvP.succ ?_
    simp only [jsonparser_parseBracketPathComponent.l0]
    refine EvP.ite (fun hlt => EvP.pos (by omega) ?_) (fun _ => bracket_j1f s hn x1 x7 h1 h17 h7)
    cases hb : (bt s x7 != 93) with
    | false => exact bracket_j1f s hn x1 x7 h1 h17 h7
    | true =>
      refine EvP.succ ?_
      simp only [jsonparser_parseBracketPathComponent.j1]
      refine EvP.pos trivial (EvP.pos (by omega) (EvP.pos hlt (EvP.ite (fun _ => EvP.ret _ (.inr (.inl rfl))) (fun _ => EvP.ite (fun _ => EvP.ret _ (.inr (.inl rfl))) (fun _ => ?_)))))
      rw [w64 (x := x7 + 1) (by omega) (by omega)]
      exact ih (x7 + 1) (by omega) (by omega) (by omega)

theorem bracket_f (s : ByteArray) (hn : s.size ≤ 1000) (i : Int) (h0 : 0 ≤ i) (hi : i < s.size) : EvP (fun k => jsonparser_parseBracketPathComponent.f k s i) (Part s i) := by
  unfold jsonparser_parseBracketPathComponent.f
  rw [w64 (x := i + 1) (by omega) (by omega)]
  exact bracket_l0 s hn i h0 s.size (i + 1) (by omega) (by omega) (by omega)

/-- What the whole path's reading tells of errors. -/
def Told (r : List ByteArray × Option Int) : Prop := r.2 = none ∨ r.2 = some 0 ∨ r.2 = some 1 ∨ r.2 = some 12
theorem told1 : Told (([] : List ByteArray), some 1) := .inr (.inr (.inl rfl))

theorem Part.some {s : ByteArray} {i : Int} {r : ByteArray × Int × Option Int} (h : Part s i r) (hn : ¬ r.2.2.isNone = true) : Told (([] : List ByteArray), some (r.2.2.getD 0)) := by
  rcases h with ⟨h, _⟩ | h | h
  · rw [h] at hn; exact absurd rfl hn
  · rw [h]; exact .inr (.inr (.inl rfl))
  · rw [h]; exact .inr (.inr (.inr rfl))
theorem Part.none {s : ByteArray} {i : Int} {r : ByteArray × Int × Option Int} (h : Part s i r) (hn : r.2.2.isNone = true) : i < r.2.1 ∧ r.2.1 ≤ s.size := by
  rcases h with ⟨_, h⟩ | h | h
  · exact h
  · rw [h] at hn; cases hn
  · rw [h] at hn; cases hn

theorem path_all (s : ByteArray) (hn : s.size ≤ 1000) : ∀ (d : Nat) (x4 : List ByteArray) (x5 : Int), 0 ≤ x5 → x5 ≤ s.size → (s.size : Int) - x5 < d → (x4.length : Int) ≤ x5 →
    EvP (fun k => jsonparser_ParsePath.l0 k s x4 x5) Told ∧ EvP (fun k => jsonparser_ParsePath.l2 k s x4 x5) Told := by
  intro d
  induction d with
  | zero => intro x4 x5 h0 h1 h2; omega
  | succ d ih =>
    intro x4 x5 h0 h1 h2 h4
    have end_ : ∀ y : List ByteArray, EvP (fun _ : Nat => if (y.length : Int) = 0 then (some (([] : List ByteArray), some 1)) else (some (y, none) : Option (List ByteArray × Option Int))) Told := fun y => EvP.ite (fun _ => EvP.ret _ told1) (fun _ => EvP.ret _ (.inl rfl))
    have j4 : ∀ (y : List ByteArray) (x : Int), EvP (fun k => jsonparser_ParsePath.l2 k s y x) Told → EvP (fun k => jsonparser_ParsePath.j4 k s y x) Told := fun y x h => EvP.succ (by simp only [jsonparser_ParsePath.j4]; exact h)
    have j6f : EvP (fun k => jsonparser_ParsePath.j6 k s x4 x5 false) Told := by
      refine EvP.succ ?_
      simp only [jsonparser_ParsePath.j6]
      refine EvP.neg (by simp) (EvP.ite (fun _ => end_ x4) (fun hne => EvP.pos h0 (EvP.pos (by omega) (EvP.ite (fun _ => ?_) (fun _ => EvP.ret _ told1)))))
      rw [w64 (x := x5 + 1) (by omega) (by omega)]
      exact EvP.ite (fun _ => EvP.ret _ told1) (fun _ => (ih x4 (x5 + 1) (by omega) (by omega) (by omega) (by omega)).1)
    have l2 : EvP (fun k => jsonparser_ParsePath.l2 k s x4 x5) Told := by
      refine EvP.succ ?_
      simp only [jsonparser_ParsePath.l2]
      refine EvP.ite (fun hlt => EvP.pos h0 ?_) (fun _ => j6f)
      cases hb : (bt s x5 == 91) with
      | false => exact j6f
      | true =>
        refine EvP.succ ?_
        simp only [jsonparser_ParsePath.j6]
        refine EvP.pos trivial (EvP.bind (bracket_f s hn x5 h0 hlt) (fun r hr => EvP.ite (fun e => EvP.pos (by omega) ?_) (fun e => EvP.ret _ (hr.some e))))
        obtain ⟨k1, k2⟩ := hr.none e
        exact (ih _ r.2.1 (by omega) k2 (by omega) (by rw [List.length_append, List.length_singleton]; omega)).2
    refine ⟨?_, l2⟩
    have l1 : ∀ (e : Nat) (x : Int), x5 ≤ x → x ≤ s.size → (s.size : Int) - x ≤ e → EvP (fun k => jsonparser_ParsePath.l1 k s x4 x x5) Told := by
      intro e
      have j3f : ∀ x : Int, x5 ≤ x → x ≤ s.size → EvP (fun k => jsonparser_ParsePath.j3 k s x4 x x5 false) Told := by
        intro x h3 h5
        refine EvP.succ ?_
        simp only [jsonparser_ParsePath.j3]
        refine EvP.neg (by simp) (EvP.ite (fun _ => EvP.ret _ told1) (fun hne => EvP.pos h0 (EvP.pos h3 (EvP.pos h5 (EvP.pos (by omega) (j4 _ _ ?_))))))
        exact (ih _ x (by omega) h5 (by omega) (by rw [List.length_append, List.length_singleton]; omega)).2
      induction e with
      | zero =>
        intro x h3 h5 h6
        refine EvP.succ ?_
        simp only [jsonparser_ParsePath.l1]
        exact EvP.neg (by omega) (j3f x h3 h5)
      | succ e ie =>
        intro x h3 h5 h6
        refine EvP.succ ?_
        simp only [jsonparser_ParsePath.l1]
        refine EvP.ite (fun hlt => EvP.pos (by omega) (EvP.ite (fun _ => j3f x h3 h5) (fun _ => ?_))) (fun _ => j3f x h3 h5)
        cases hb : (bt s x != 91) with
        | false => exact j3f x h3 h5
        | true =>
          refine EvP.succ ?_
          simp only [jsonparser_ParsePath.j3]
          refine EvP.pos trivial (EvP.pos (by omega) (EvP.pos hlt (EvP.ite (fun _ => EvP.ret _ told1) (fun _ => EvP.ite (fun _ => EvP.ret _ told1) (fun _ => ?_)))))
          rw [w64 (x := x + 1) (by omega) (by omega)]
          exact ie (x + 1) (by omega) (by omega) (by omega)
    refine EvP.succ ?_
    simp only [jsonparser_ParsePath.l0]
    refine EvP.ite (fun hlt => EvP.pos h0 (EvP.ite (fun _ => EvP.ret _ told1) (fun _ => EvP.ite (fun _ => EvP.bind (quoted_f s hn x5 h0 h1) (fun r hr => EvP.ite (fun e => EvP.pos (by omega) ?_) (fun e => EvP.ret _ (hr.some e)))) (fun _ => EvP.ite (fun _ => j4 _ _ l2) (fun _ => l1 _ x5 (Int.le_refl _) h1 (by omega : (s.size : Int) - x5 ≤ ((s.size : Int) - x5).toNat)))))) (fun _ => end_ x4)
    obtain ⟨k1, k2⟩ := hr.none e
    exact j4 _ _ (ih _ r.2.1 (by omega) k2 (by omega) (by rw [List.length_append, List.length_singleton]; omega)).2

theorem path_j0 (s : ByteArray) (hn : s.size ≤ 1000) : EvP (fun k => jsonparser_ParsePath.j0 k s) Told := by
  refine EvP.succ ?_
  simp only [jsonparser_ParsePath.j0]
  refine EvP.ite (fun _ => EvP.ret _ told1) (fun _ => EvP.bind (count_f s _ rfl hn) (fun a ha => EvP.bind (count_f s _ rfl hn) (fun b hb => ?_)))
  rw [w64 (x := 1 + a) (by omega) (by omega), w64 (x := 1 + a + b) (by omega) (by omega)]
  exact EvP.pos (by omega) (EvP.pos (by omega) (path_all s hn (s.size + 1) _ 0 (by omega) (by omega) (by omega) (by simp)).1)

theorem prefix_f (a b : ByteArray) : ∃ v, strings_HasPrefix.f a b = some v ∧ (v = true → b.size ≤ a.size) := by
  unfold strings_HasPrefix.f stringslite_HasPrefix.f
  by_cases h : (a.size : Int) ≥ (b.size : Int)
  · rw [if_pos h, if_pos (by omega), if_pos (by omega)]
    exact ⟨_, rfl, fun _ => by omega⟩
  · rw [if_neg h]
    exact ⟨_, rfl, fun e => by cases e⟩

theorem path_f (s : ByteArray) (hn : s.size ≤ 1000) : EvP (fun k => jsonparser_ParsePath.f k s) Told := by
  unfold jsonparser_ParsePath.f
  have hx1 : (s.extract 1 s.size).size ≤ 1000 := by rw [ByteArray.size_extract]; omega
  have hx2 : (s.extract 2 s.size).size ≤ 1000 := by rw [ByteArray.size_extract]; omega
  obtain ⟨v, hv, hv2⟩ := prefix_f s (⟨#[36, 46]⟩ : ByteArray)
  obtain ⟨u, hu, hu2⟩ := prefix_f s (⟨#[36, 91]⟩ : ByteArray)
  have hs2 : (⟨#[36, 46]⟩ : ByteArray).size = 2 := rfl
  have hs3 : (⟨#[36, 91]⟩ : ByteArray).size = 2 := rfl
  refine EvP.ite (fun _ => EvP.ret _ (.inr (.inl rfl))) (fun hne => EvP.ite (fun _ => EvP.ret _ (.inl rfl)) (fun _ => EvP.sub hv (EvP.ite (fun e => EvP.pos (by have := hv2 e; omega) (path_j0 _ hx2)) (fun _ => EvP.sub hu (EvP.ite (fun e => EvP.pos (by have := hu2 e; omega) (path_j0 _ hx1)) (fun _ => EvP.pos ?_ (EvP.ite (fun _ => EvP.ret _ told1) (fun _ => path_j0 s hn))))))))
  have : ¬ s.size = 0 := fun e => hne ((toList_nil s).2 e)
  omega

end JrP
open JrP

theorem FnJrPath : laws_FnJrPath.Pure := by
  intro s _
  apply EvP.told
  unfold laws_FnJrPath.f
  refine EvP.ite (fun _ => EvP.ret _ rfl) (fun h1 => EvP.ite (fun _ => EvP.ret _ rfl) (fun h2 => ?_))
  obtain ⟨r, her, hr⟩ := path_f s (by omega)
  have hq : EvP (fun k => impl_JqParsePath.f k s) (fun x => x.2 = r.2.isNone) := by
    unfold impl_JqParsePath.f
    refine EvP.bind (Q := fun x => x = r) (EvP.of_ev her rfl) (fun x hx => ?_)
    subst hx
    exact EvP.ite (fun e => EvP.ret _ (by rw [e])) (fun e => EvP.ret _ (by cases hq : x.2 with
      | none => rw [hq] at e; exact absurd rfl e
      | some c => rfl))
  have hj : EvP (fun k => impl_JrPath.f k s) (fun x => x = if r.2.isNone = true then 0 else 11) := by
    unfold impl_JrPath.f
    refine EvP.bind (Q := fun x => x = r) (EvP.of_ev her rfl) (fun x hx => ?_)
    subst hx
    rcases hr with h | h | h | h <;> rw [h] <;> exact EvP.sub rfl (EvP.ret _ rfl)
  have h0 : EvP (fun k => impl_JrPath.f k (⟨#[]⟩ : ByteArray)) (fun x => x = 11) := by
    unfold impl_JrPath.f jsonparser_ParsePath.f
    have e : (⟨#[]⟩ : ByteArray).toList = [] := (toList_nil _).2 rfl
    exact EvP.bind (Q := fun x => x = (([] : List ByteArray), some 0)) (EvP.pos e (EvP.ret _ rfl)) (fun x hx => by subst hx; exact EvP.sub rfl (EvP.ret _ rfl))
  refine EvP.bind hq (fun b hb => EvP.bind hj (fun t ht => ?_))
  subst ht
  rw [hb]
  cases r.2.isNone with
  | true => exact EvP.pos rfl (EvP.bind h0 (fun x hx => EvP.ret _ (by rw [hx]; rfl)))
  | false => exact EvP.pos rfl (EvP.bind h0 (fun x hx => EvP.ret _ (by rw [hx]; rfl)))

end Go.Proofs.YtfmllmlloekojaaDoor.Pure
