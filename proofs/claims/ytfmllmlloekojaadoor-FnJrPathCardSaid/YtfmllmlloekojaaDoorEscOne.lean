/- jsonparser.unescapeToUTF8Config (function 123): one escape, as a Lean function over the bytes; what it writes lies in one row. -/
import Derived.Test.YtfmllmlloekojaaDoorJrDec
import Derived.Test.YtfmllmlloekojaaDoorShEnc
import Derived.Test.YtfmllmlloekojaaDoorXLaidFnJrPath
import Derived.Laws.CopyOwn
set_option linter.unusedVariables false
namespace Go.Proofs.YtfmllmlloekojaaDoor.Esc
open Go Go.RowKit Go.Proofs.YtfmllmlloekojaaDoorW.PrintWords Go.Proofs.YtfmllmlloekojaaDoor.LaidL Go.Proofs.YtfmllmlloekojaaDoor.PFnJrPath
variable {E : ErrTab}

/-! ### the plain side -/
theorem h2I_some (x : Int) : ∀ k, ∃ r, jsonparser_h2I.f (k + 2) x = some r := by
  intro k
  have j1 : ∀ (k : Nat) (v : Bool), ∃ r, jsonparser_h2I.j1 (k + 1) x v = some r := by
    intro k v
    simp only [jsonparser_h2I.j1]
    split
    · exact ⟨_, rfl⟩
    · split
      · split <;> exact ⟨_, rfl⟩
      · exact ⟨_, rfl⟩
  have j0 : ∀ v, ∃ r, jsonparser_h2I.j0 (k + 2) x v = some r := by
    intro v
    simp only [jsonparser_h2I.j0]
    split
    · exact ⟨_, rfl⟩
    · split
      · exact j1 _ _
      · exact j1 _ _
  unfold jsonparser_h2I.f
  split
  · exact j0 _
  · exact j0 _

theorem wrap32_bd (x : Int) : -2147483648 ≤ wrap32 x ∧ wrap32 x ≤ 2147483647 := by unfold wrap32; omega

theorem single_some (k : Nat) (xs : List Int) : ∃ r ok, jsonparser_decodeSingleUnicodeEscape.f (k + 2) xs = some (r, ok) ∧ -2147483648 ≤ r ∧ r ≤ 2147483647 ∧ (ok = true → 6 ≤ xs.length) := by
  unfold jsonparser_decodeSingleUnicodeEscape.f
  by_cases h : (xs.length : Int) < 6
  · rw [if_pos h]
    exact ⟨_, _, rfl, by omega, by omega, fun e => by cases e⟩
  · rw [if_neg h, if_pos (by omega)]
    obtain ⟨a, ha⟩ := h2I_some (rd xs 2) k
    obtain ⟨b, hb⟩ := h2I_some (rd xs 3) k
    obtain ⟨c, hc⟩ := h2I_some (rd xs 4) k
    obtain ⟨d, hd⟩ := h2I_some (rd xs 5) k
    rw [ha, Option.bind_some, if_pos (by omega), hb, Option.bind_some, if_pos (by omega), hc, Option.bind_some, if_pos (by omega), hd, Option.bind_some]
    split
    · exact ⟨_, _, rfl, by omega, by omega, fun e => by cases e⟩
    · split
      · exact ⟨_, _, rfl, by omega, by omega, fun e => by cases e⟩
      · split
        · exact ⟨_, _, rfl, by omega, by omega, fun e => by cases e⟩
        · split
          · exact ⟨_, _, rfl, by omega, by omega, fun e => by cases e⟩
          · have := wrap32_bd (wrap64 ((wrap64 ((wrap64 ((wrap64 (a * 4096)) + (wrap64 (b * 256)))) + (wrap64 (c * 16)))) + d))
            exact ⟨_, _, rfl, this.1, this.2, fun _ => by omega⟩

/-- A \u is read, whatever stands there: a rune and how far it goes, or -1. -/
theorem dec_some (xs : List Int) : ∃ r n, jsonparser_decodeUnicodeEscape.f 4 xs = some (r, n) ∧ -2147483648 ≤ r ∧ r ≤ 2147483647 ∧ (n = -1 ∨ n = 6 ∧ 6 ≤ xs.length ∨ n = 12 ∧ 12 ≤ xs.length) := by
  unfold jsonparser_decodeUnicodeEscape.f
  obtain ⟨r, ok, h, h1, h2, h3⟩ := single_some 2 xs
  rw [h, Option.bind_some]
  cases ok with
  | false => exact ⟨_, _, rfl, by omega, by omega, .inl rfl⟩
  | true =>
    have h6 := h3 rfl
    have j0 : ∀ v, ((xs.length : Int) < 8 → v = true) → ∃ r' n, jsonparser_decodeUnicodeEscape.j0 4 xs r v = some (r', n) ∧ -2147483648 ≤ r' ∧ r' ≤ 2147483647 ∧ (n = -1 ∨ n = 6 ∧ 6 ≤ xs.length ∨ n = 12 ∧ 12 ≤ xs.length) := by
      intro v hv
      simp only [jsonparser_decodeUnicodeEscape.j0]
      cases v with
      | true => exact ⟨_, _, rfl, by omega, by omega, .inr (.inl ⟨rfl, h6⟩)⟩
      | false =>
        rw [if_neg (by simp), if_pos (by omega)]
        obtain ⟨r2, ok2, h4, h5, h7, h8⟩ := single_some 1 (xs.drop 6)
        rw [h4, Option.bind_some]
        cases ok2 with
        | false => exact ⟨_, _, rfl, by omega, by omega, .inl rfl⟩
        | true =>
          have h9 := h8 rfl
          rw [List.length_drop] at h9
          dsimp only
          rw [if_pos rfl]
          split
          · exact ⟨_, _, rfl, by omega, by omega, .inr (.inl ⟨rfl, h6⟩)⟩
          · split
            · exact ⟨_, _, rfl, by omega, by omega, .inr (.inl ⟨rfl, h6⟩)⟩
            · have := wrap32_bd ((wrap32 (65536 + (wrap32 ((wrap32 (r - 55296)) * 1024)))) + (wrap32 (r2 - 56320)))
              exact ⟨_, _, rfl, this.1, this.2, .inr (.inr ⟨rfl, by omega⟩)⟩
    dsimp only
    rw [if_pos rfl]
    have hu : ∃ v, jsonparser_isUTF16EncodedRune.f r = some v := by unfold jsonparser_isUTF16EncodedRune.f; split <;> exact ⟨_, rfl⟩
    obtain ⟨v, hv⟩ := hu
    rw [hv, Option.bind_some]
    split
    · split
      · exact ⟨_, _, rfl, by omega, by omega, .inr (.inl ⟨rfl, h6⟩)⟩
      · split
        · exact j0 true (fun _ => rfl)
        · rw [if_pos (by omega)]
          split
          · rw [if_pos (by omega)]
            exact j0 _ (fun h => by omega)
          · exact j0 true (fun _ => rfl)
    · exact ⟨_, _, rfl, h1, h2, .inr (.inl ⟨rfl, h6⟩)⟩

/-- One escape: how many bytes it takes, and what it stands for. -/
def escOne (q u : Bool) (xs : List Int) : Option (Nat × List Int) :=
  match xs with
  | [] => none
  | [_] => none
  | b :: e :: _ =>
    if b ≠ 92 then none
    else if e = 34 ∨ e = 92 ∨ e = 47 ∨ e = 98 ∨ e = 102 ∨ e = 110 ∨ e = 114 ∨ e = 116 then some (2, [tab17.getD e.toNat 0])
    else if e = 39 ∧ q = true then some (2, [39])
    else if e = 117 then
      (match jsonparser_decodeUnicodeEscape.f 4 xs with
        | some (r, n) => if n = -1 then none else some (n.toNat, Lib.encodeRuneZ r)
        | none => none)
    else if u = true then some (2, [e])
    else none

/-- The row of block g holds these bytes. -/
def RowIs (g : Nat) (L : List Int) (w : World) : Prop := w.heap[g]? = some (.cells (L.map (Value.int .u8)).toArray 5 (0, 0))

/-- What one escape leaves. -/
def EscPost (q u : Bool) (xs : List Int) (g off : Nat) (L : List Int) (w : World) (e : Ending) (w' : World) : Prop :=
  w.grownBy w' (some g) ∧
  match escOne q u xs with
  | none => e = .returned (.tuple #[.int .i64 (-1), .int .i64 (-1)]) ∧ RowIs g L w'
  | some (i, ys) => e = .returned (.tuple #[.int .i64 i, .int .i64 ys.length]) ∧ RowIs g (splice L off ys) w'

end Go.Proofs.YtfmllmlloekojaaDoor.Esc
