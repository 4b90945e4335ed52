/- jsonparser.unescapeConfig (function 112): all escapes of a string's inside, as a Lean function over the bytes. -/
import Derived.Test.YtfmllmlloekojaaDoorEscWalk2
import Derived.Test.YtfmllmlloekojaaDoorShJr
import Derived.Deep.OwnRows
set_option linter.unusedVariables false
namespace Go.Proofs.YtfmllmlloekojaaDoor.Esc
open Go Go.RowKit Go.Proofs.YtfmllmlloekojaaDoorW.PrintWords Go.Proofs.YtfmllmlloekojaaDoor.LaidL Go.Proofs.YtfmllmlloekojaaDoor.PFnJrPath
variable {E : ErrTab}

/-! ### the plain side -/
def noBs (x : Int) : Bool := x.toNat.toUInt8 != 92
def pre (xs : List Int) : List Int := xs.takeWhile noBs
def suf (xs : List Int) : List Int := xs.dropWhile noBs
theorem pre_suf (xs : List Int) : pre xs ++ suf xs = xs := List.takeWhile_append_dropWhile
theorem pre_len (xs : List Int) : (pre xs).length + (suf xs).length = xs.length := by rw [← List.length_append, pre_suf]
theorem suf_drop (xs : List Int) : suf xs = xs.drop (pre xs).length := by
  have h := congrArg (List.drop (pre xs).length) (pre_suf xs)
  rwa [List.drop_left] at h
theorem pre_take (xs : List Int) : pre xs = xs.take (pre xs).length := by
  have h := congrArg (List.take (pre xs).length) (pre_suf xs)
  rwa [List.take_left] at h

theorem index_pre : ∀ xs : List Int, (suf xs = [] ∧ Lib.indexByte (Lib.bytesOf xs) 92 = -1) ∨ (suf xs ≠ [] ∧ Lib.indexByte (Lib.bytesOf xs) 92 = ((pre xs).length : Int))
  | [] => .inl ⟨rfl, rfl⟩
  | x :: xs => by
    unfold suf pre
    by_cases hx : noBs x = true
    · rw [List.dropWhile_cons_of_pos hx, List.takeWhile_cons_of_pos hx]
      have hb : (x.toNat.toUInt8 == 92) = false := by unfold noBs at hx; simpa using hx
      rcases index_pre xs with ⟨h1, h2⟩ | ⟨h1, h2⟩
      · refine .inl ⟨h1, ?_⟩
        have : Lib.bytesOf (x :: xs) = x.toNat.toUInt8 :: Lib.bytesOf xs := rfl
        rw [this]
        simp [Lib.indexByte, hb, h2]
      · refine .inr ⟨h1, ?_⟩
        have : Lib.bytesOf (x :: xs) = x.toNat.toUInt8 :: Lib.bytesOf xs := rfl
        rw [this]
        have hne : ¬ Lib.indexByte (Lib.bytesOf xs) 92 = -1 := by rw [h2]; omega
        rw [h2] at hne
        unfold pre at h2 hne
        simp [Lib.indexByte, hb, h2]
    · have hx2 : noBs x = false := by simpa using hx
      rw [List.dropWhile_cons_of_neg hx, List.takeWhile_cons_of_neg hx]
      have hb : (x.toNat.toUInt8 == 92) = true := by unfold noBs at hx2; simpa using hx2
      have : Lib.bytesOf (x :: xs) = x.toNat.toUInt8 :: Lib.bytesOf xs := rfl
      rw [this]
      exact .inr ⟨by simp, by simp [Lib.indexByte, hb]⟩

/-- How far an escape goes, and how much it writes. -/
theorem escOne_len {q u : Bool} {xs ys : List Int} {n : Nat} (h : escOne q u xs = some (n, ys)) : 2 ≤ n ∧ n ≤ xs.length ∧ 1 ≤ ys.length ∧ ys.length ≤ n := by
  match xs, h with
  | b :: e :: t, h =>
    simp only [escOne] at h
    split at h
    · cases h
    · split at h
      · simp only [Option.some.injEq, Prod.mk.injEq] at h; obtain ⟨rfl, rfl⟩ := h; simp
      · split at h
        · simp only [Option.some.injEq, Prod.mk.injEq] at h; obtain ⟨rfl, rfl⟩ := h; simp
        · split at h
          · obtain ⟨r, k, hd, _, _, hk⟩ := dec_some (b :: e :: t)
            rw [hd] at h
            dsimp only at h
            split at h
            · cases h
            · simp only [Option.some.injEq, Prod.mk.injEq] at h
              obtain ⟨rfl, rfl⟩ := h
              have := rune_len r
              omega
          · split at h
            · simp only [Option.some.injEq, Prod.mk.injEq] at h; obtain ⟨rfl, rfl⟩ := h; simp
            · cases h

/-- All escapes of what a backslash begins; none: one of them is none. -/
def unescF (q u : Bool) : Nat → List Int → Option (List Int)
  | 0, _ => none
  | k + 1, xs =>
    match escOne q u xs with
    | none => none
    | some (n, ys) => if suf (xs.drop n) = [] then some (ys ++ xs.drop n) else (unescF q u k (suf (xs.drop n))).map fun t => ys ++ pre (xs.drop n) ++ t

/-- More rounds tell the same. -/
theorem unescF_more {q u : Bool} : ∀ (k m : Nat) (xs : List Int), xs.length ≤ k → xs.length ≤ m → 1 ≤ k → 1 ≤ m → unescF q u k xs = unescF q u m xs
  | 0, _, _, _, _, h, _ => by omega
  | _, 0, _, _, _, _, h => by omega
  | k + 1, m + 1, xs, hk, hm, _, _ => by
    unfold unescF
    cases he : escOne q u xs with
    | none => rfl
    | some p =>
      obtain ⟨n, ys⟩ := p
      dsimp only
      have hl := escOne_len he
      have hp := pre_len (xs.drop n)
      rw [List.length_drop] at hp
      split
      · rfl
      · rename_i hne
        have h1 : 1 ≤ (suf (xs.drop n)).length := by
          cases hq : suf (xs.drop n) with
          | nil => exact absurd hq hne
          | cons => simp
        rw [unescF_more k m (suf (xs.drop n)) (by omega) (by omega) (by omega) (by omega)]

/-- A string's inside with its escapes read. -/
def unesc (q u : Bool) (xs : List Int) : Option (List Int) :=
  if suf xs = [] then some xs else (unescF q u (suf xs).length (suf xs)).map fun t => pre xs ++ t

/-! ### copy, the row told -/
theorem wpList_copy_g {P : Program} {w : World} {ops : Array Oper} {rest : List Oper} {o : Oper} {a : Act} {Q : Exit → Act → World → Prop} (hgd : o.guard = none) (d s : Operand) (dT sT : TypeId)
    (ho : o.op = .call { callee := .builtin .copy, args := #[d, s], argTypes := #[dT, sT] }) (elem : TypeId) (hu : P.underlying dT = some (.slice elem)) (hsz : (P.info? elem).map (·.size) = some 1)
    (dp sp : Option Addr) (dLen dCap sLen sCap : Nat) (hd : a.eval d = .slice dp dLen dCap) (hs : a.eval s = .slice sp sLen sCap)
    (g off : Nat) (cur : List Value) (t : TypeId) (hg : w.heap[g]? = some (.cells cur.toArray t (0, 0))) (cs : List Value) (hn : cs.length = Nat.min sLen dLen)
    (hpos : 0 < cs.length → dp = some ⟨g, off, none⟩ ∧ ∃ ad, sp = some ad ∧ ∀ j v, cs[j]? = some v → w.cell? (ad.add j) = some v)
    (hfit : off + cs.length ≤ cur.length) (h1 : ∀ v ∈ cs, v.oneCell' = true)
    (h : ∀ w', Hid (w'.heap[g]? = some (.cells (splice cur off cs).toArray t (0, 0))) → Hid (w.grownBy w' (some g)) → wpList P ops Q rest (a.put o.dst (goInt cs.length)) w') :
    wpList P ops Q (o :: rest) a w := by
  by_cases h0 : cs.length = 0
  · obtain rfl : cs = [] := List.eq_nil_of_length_eq_zero h0
    refine wpList_copy_nothing hgd d s dT sT ho elem hu hsz dp sp dLen dCap sLen sCap hd hs (by simpa using hn.symm) ?_
    exact h w (show _ = _ by simpa [splice] using hg) ⟨rfl, rfl, rfl, Nat.le_refl _, fun _ _ _ => rfl⟩
  · obtain ⟨rfl, ad, rfl, hsrc⟩ := hpos (by omega)
    refine wpList_copy_own hgd d s dT sT ho elem hu hsz g off dLen dCap ad sLen sCap hd hs cur.toArray t hg cs hn hsrc (by simpa using hfit) h1 ?_
    exact h _ (show _ = _ by simpa [splice] using setRow_heap w g _ _ t _ hg) ⟨rfl, rfl, rfl, by simp [World.setRow], fun k _ hk => setRow_other w g k _ (fun e => hk (by rw [e]))⟩

end Go.Proofs.YtfmllmlloekojaaDoor.Esc
