/- Every name (of at most 2^12 bytes), written as a token of a JSON Pointer, is read by the inner reader as that name. No condition beyond the statement's own guards. -/
import Derived.Test.YtikdecjojfmjaaaPFnPaTokenBackx1
import Derived.Test.YtikdecjojfmjaaaStr
namespace Go.Proofs.Ytikdecjojfmjaaa.Pure
open Go.RowKit Go.Proofs.Ytikdecjojfmjaaa.PFnPaTokenBack Go.Proofs.YtikdecjojfmjaaaW.PrintWords Go.Proofs.YtikdecjojfmjaaaW.PrintLast Go.Proofs.Ytikdecjojfmjaaa.EvL Go.Proofs.Ytikdecjojfmjaaa.StrL

namespace Token

def enc1 (c : Int) : List Int := if c = 126 then [126, 48] else if c = 47 then [126, 49] else [c]
def enc : List Int → List Int
  | [] => []
  | c :: t => enc1 c ++ enc t

theorem enc_len : ∀ l : List Int, (enc l).length ≤ 2 * l.length
  | [] => by simp [enc]
  | c :: t => by
    have := enc_len t
    simp only [enc, enc1, List.length_append, List.length_cons]
    split
    · simp; omega
    · split <;> simp <;> omega

theorem enc_bytes : ∀ l : List Int, Bytes l → Bytes (enc l)
  | [], _ => bytes_nil
  | c :: t, h => by
    have h1 := enc_bytes t (fun x hx => h x (List.mem_cons_of_mem _ hx))
    have hc := h c List.mem_cons_self
    refine bytes_append ?_ h1
    unfold enc1
    split
    · exact bytes_cons (by omega) (by omega) (bytes_cons (by omega) (by omega) bytes_nil)
    · split
      · exact bytes_cons (by omega) (by omega) (bytes_cons (by omega) (by omega) bytes_nil)
      · exact bytes_cons hc.1 hc.2 bytes_nil

theorem out_l1 (s : ByteArray) (x8 : List ByteArray) (n : Int) (hs : s.size ≤ 4096) (h0 : n = 0) : ∀ (rest : List Int) (out : List Int) (x6 : Int), 0 ≤ x6 → x6 ≤ s.size → (ints s).drop x6.toNat = rest →
    out.length + 2 * rest.length ≤ 10000 → EvP (fun k => spec_PointerOf.l1 k out s x6 x8 1 n) (fun r => r = strOfNums (out ++ enc rest)) := by
  intro rest
  induction rest with
  | nil =>
    intro out x6 h6 hle hd hl
    have hz := size_of_drop h6 hle hd
    simp only [List.length_nil] at hz
    refine EvP.succ ?_
    simp only [spec_PointerOf.l1]
    refine EvP.neg (by omega) ?_
    refine EvP.succ ?_
    simp only [spec_PointerOf.l0]
    rw [w64 (by omega) (by omega)]
    refine EvP.neg (by omega) (EvP.ret _ ?_)
    simp [enc]
  | cons c t ih =>
    intro out x6 h6 hle hd hl
    obtain ⟨hb, hlt, hd'⟩ := bt_of_drop h6 hd
    simp only [List.length_cons] at hl
    refine EvP.succ ?_
    simp only [spec_PointerOf.l1, hb, Option.bind_some]
    rw [w64 (x := x6 + 1) (by omega) (by omega)]
    refine EvP.pos hlt (EvP.pos h6 (EvP.ite (fun h => ?_) (fun h => EvP.ite (fun h' => ?_) (fun h' => ?_))))
    · refine EvP.pos (by simp; omega) ((ih _ (x6 + 1) (by omega) (by omega) hd' (by simp; omega)).mono ?_)
      rintro r rfl
      simp [enc, enc1, h]
    · refine EvP.pos (by simp; omega) ((ih _ (x6 + 1) (by omega) (by omega) hd' (by simp; omega)).mono ?_)
      rintro r rfl
      simp [enc, enc1, h']
    · refine EvP.pos (by omega) ((ih _ (x6 + 1) (by omega) (by omega) hd' (by simp; omega)).mono ?_)
      rintro r rfl
      simp [enc, enc1, h, h']

theorem out_any (s : ByteArray) (hs : s.size ≤ 4096) : EvP (fun k => spec_PointerOf.f k [s]) (fun r => r = strOfNums (47 :: enc (ints s))) := by
  unfold spec_PointerOf.f
  refine EvP.succ ?_
  simp only [spec_PointerOf.l0]
  refine EvP.pos (by simp) (EvP.pos (by omega) (EvP.pos (by simp) (EvP.pos (by simp) ?_)))
  exact out_l1 s [s] 0 hs rfl (ints s) [47] 0 (by omega) (by omega) (by simp) (by rw [ints_length]; simp; omega)

theorem in_l0 (s : ByteArray) (hs : s.size ≤ 10000) : ∀ (rest out : List Int) (i : Int), 0 ≤ i → i ≤ s.size → (ints s).drop i.toNat = enc rest → out.length + rest.length ≤ 10000 →
    EvP (fun k => jsonpatch_zzDecode.l0 k s out i) (fun r => r = strOfNums (out ++ rest)) := by
  intro rest
  induction rest with
  | nil =>
    intro out i h0 hle hd hl
    have hz := size_of_drop h0 hle hd
    simp only [enc, List.length_nil] at hz
    refine EvP.succ ?_
    simp only [jsonpatch_zzDecode.l0]
    refine EvP.neg (by omega) (EvP.ret _ ?_)
    simp
  | cons c t ih =>
    intro out i h0 hle hd hl
    simp only [List.length_cons] at hl
    by_cases h : c = 126 ∨ c = 47
    · obtain ⟨d, he, hd1⟩ : ∃ d, enc1 c = [126, d] ∧ (d = 48 ∧ c = 126 ∨ d = 49 ∧ c = 47) := by
        rcases h with rfl | rfl
        · exact ⟨48, rfl, .inl ⟨rfl, rfl⟩⟩
        · exact ⟨49, rfl, .inr ⟨rfl, rfl⟩⟩
      simp only [enc, he, List.cons_append, List.nil_append] at hd
      obtain ⟨hb, hlt, hd'⟩ := bt_of_drop h0 hd
      obtain ⟨hb2, hlt2, hd2⟩ := bt_of_drop (by omega) hd'
      have hgo : EvP (fun k => jsonpatch_zzDecode.j1 k s out i true) (fun r => r = strOfNums (out ++ c :: t)) := by
        refine EvP.succ ?_
        simp only [jsonpatch_zzDecode.j1]
        rw [w64 (x := i + 1) (by omega) (by omega), w64 (x := i + 1 + 1) (by omega) (by omega), hb2]
        refine EvP.pos trivial (EvP.pos (by omega) (EvP.pos hlt2 ?_))
        rcases hd1 with ⟨rfl, rfl⟩ | ⟨rfl, rfl⟩
        · refine EvP.neg (by omega) (EvP.pos (by omega) ((ih _ _ (by omega) (by omega) hd2 (by simp; omega)).mono ?_))
          rintro r rfl; simp
        · refine EvP.pos rfl (EvP.pos (by omega) ((ih _ _ (by omega) (by omega) hd2 (by simp; omega)).mono ?_))
          rintro r rfl; simp
      refine EvP.succ ?_
      simp only [jsonpatch_zzDecode.l0, hb]
      rw [w64 (x := i + 1) (by omega) (by omega), hb2]
      refine EvP.pos hlt (EvP.pos h0 (EvP.pos trivial (EvP.pos hlt2 (EvP.pos (by omega) ?_))))
      rcases hd1 with ⟨rfl, _⟩ | ⟨rfl, _⟩
      · exact EvP.pos rfl hgo
      · exact EvP.neg (by omega) hgo
    · have he : enc1 c = [c] := by unfold enc1; rw [if_neg (fun e => h (.inl e)), if_neg (fun e => h (.inr e))]
      simp only [enc, he, List.cons_append, List.nil_append] at hd
      obtain ⟨hb, hlt, hd'⟩ := bt_of_drop h0 hd
      refine EvP.succ ?_
      simp only [jsonpatch_zzDecode.l0, hb]
      refine EvP.pos hlt (EvP.pos h0 (EvP.neg (fun e => h (.inl e)) ?_))
      refine EvP.succ ?_
      simp only [jsonpatch_zzDecode.j1, hb]
      rw [w64 (x := i + 1) (by omega) (by omega)]
      refine EvP.neg (by simp) (EvP.pos h0 (EvP.pos hlt (EvP.pos (by omega) ((ih _ _ (by omega) (by omega) hd' (by simp; omega)).mono ?_))))
      rintro r rfl; simp

theorem impl_any (s : ByteArray) (l : List Int) (hs : s.size ≤ 10000) (hl : l.length ≤ 10000) (h : ints s = enc l) : EvP (fun k => impl_PaToken.f k s) (fun r => r = strOfNums l) := by
  unfold impl_PaToken.f jsonpatch_DoorToken.f jsonpatch_decodePatchKey.f jsonpatch_zzDecode.f
  refine EvP.bind (EvP.bind (EvP.bind (in_l0 s hs l [] 0 (by omega) (by omega) (by simpa using h) (by simpa using hl)) (fun a ha => EvP.ret a ha)) (fun a ha => EvP.ret a ha)) (fun a ha => EvP.ret a ?_)
  simpa using ha

end Token

theorem FnPaTokenBack : laws_FnPaTokenBack.Pure := by
  intro s _
  apply EvP.told
  unfold laws_FnPaTokenBack.f
  refine EvP.ite (fun _ => EvP.ret _ rfl) (fun _ => EvP.ite (fun _ => EvP.ret _ rfl) (fun hn => ?_))
  have hs : s.size ≤ 4096 := by omega
  have hel := Token.enc_len (ints s)
  rw [ints_length] at hel
  refine EvP.bind (Token.out_any s hs) ?_
  rintro a rfl
  have hsz : (strOfNums (47 :: Token.enc (ints s))).size = (Token.enc (ints s)).length + 1 := by rw [strOfNums_size]; rfl
  refine EvP.pos (by rw [hsz]; omega) ?_
  refine EvP.bind (Token.impl_any _ (ints s) ?_ ?_ ?_) ?_
  · simp only [ByteArray.size_extract, hsz]; omega
  · rw [ints_length]; omega
  · rw [ints_extract, ints_strOfNums (bytes_cons (by omega) (by omega) (Token.enc_bytes _ (ints_bytes s)))]
    rw [hsz]
    simp
  · rintro a rfl
    refine EvP.ret _ ?_
    rw [strOfNums_ints]
    exact beq_toList_self s

end Go.Proofs.Ytikdecjojfmjaaa.Pure
