/- Of a path of keys the inner reader of a path gives the first key, its component, the rest. No condition beyond the statement's own guards. -/
import Derived.Test.YtikdecjojfmjaaaPFnSjPathx5
import Derived.Test.YtikdecjojfmjaaaStr
namespace Go.Proofs.Ytikdecjojfmjaaa.Pure
open Go.RowKit Go.Proofs.Ytikdecjojfmjaaa.PFnSjPath Go.Proofs.YtikdecjojfmjaaaW.PrintWords Go.Proofs.YtikdecjojfmjaaaW.PrintLast Go.Proofs.YtikdecjojfmjaaaW.PrintMore Go.Proofs.Ytikdecjojfmjaaa.EvL Go.Proofs.Ytikdecjojfmjaaa.StrL

namespace SjP

theorem letter_any (c : Int) : ∃ b, spec_letter.f c = some b ∧ (b = true → (97 ≤ c ∧ c ≤ 122) ∨ (65 ≤ c ∧ c ≤ 90) ∨ (48 ≤ c ∧ c ≤ 57) ∨ c = 95) := by
  unfold spec_letter.f
  split <;> (try split) <;> (try split) <;> (try split) <;> (try split) <;> (try split) <;> refine ⟨_, rfl, fun h => ?_⟩ <;> first | omega | (have := eq_of_beq h; omega)

theorem byte_any (c : Int) : ∃ b, spec_pathByte.f c = some b ∧ (b = true → c ≠ 46 ∧ c ≠ 92 ∧ c ≠ 58 ∧ c ≠ 124 ∧ c ≠ 35 ∧ c ≠ 64 ∧ c ≠ 42 ∧ c ≠ 63) := by
  obtain ⟨b, hb, hc⟩ := letter_any c
  unfold spec_pathByte.f
  rw [hb, Option.bind_some]
  cases b with
  | true =>
    rw [if_pos rfl]
    refine ⟨_, rfl, fun _ => ?_⟩
    have := hc rfl
    omega
  | false =>
    rw [if_neg (by simp)]
    split
    · refine ⟨_, rfl, fun _ => ?_⟩; omega
    · split
      · refine ⟨_, rfl, fun _ => ?_⟩; omega
      · refine ⟨_, rfl, fun h => ?_⟩
        have := of_decide_eq_true h
        omega

def pb (c : Int) : Bool := (spec_pathByte.f c).getD false
theorem pb_eq (c : Int) : spec_pathByte.f c = some (pb c) := by
  obtain ⟨b, hb, _⟩ := byte_any c
  rw [pb, hb]; rfl
theorem pb_ne {c : Int} (h : pb c = true) : c ≠ 46 ∧ c ≠ 92 ∧ c ≠ 58 ∧ c ≠ 124 ∧ c ≠ 35 ∧ c ≠ 64 ∧ c ≠ 42 ∧ c ≠ 63 := by
  obtain ⟨b, hb, hc⟩ := byte_any c
  rw [pb, hb] at h
  exact hc h

def esc : List Int → List Int
  | [] => []
  | c :: t => (if pb c = true then [c] else [92, c]) ++ esc t

theorem esc_len : ∀ l : List Int, (esc l).length ≤ 2 * l.length
  | [] => by simp [esc]
  | c :: t => by
    have := esc_len t
    simp only [esc, List.length_append, List.length_cons]
    split <;> simp <;> omega

theorem esc_append : ∀ a b : List Int, esc (a ++ b) = esc a ++ esc b
  | [], b => by simp [esc]
  | c :: t, b => by simp only [List.cons_append, esc, esc_append t b, List.append_assoc]

theorem esc_bytes : ∀ l : List Int, Bytes l → Bytes (esc l)
  | [], _ => bytes_nil
  | c :: t, h => by
    have h1 := esc_bytes t (fun x hx => h x (List.mem_cons_of_mem _ hx))
    have hc := h c List.mem_cons_self
    refine bytes_append ?_ h1
    split
    · exact bytes_cons hc.1 hc.2 bytes_nil
    · exact bytes_cons (by omega) (by omega) (bytes_cons hc.1 hc.2 bytes_nil)

/-! ### the writers -/
theorem path_l1 (s : ByteArray) (x7 : List ByteArray) (hs : s.size ≤ 4096) : ∀ (rest out : List Int) (i : Int), 0 ≤ i → i ≤ s.size → (ints s).drop i.toNat = rest → out.length + 2 * rest.length ≤ 100000 →
    EvP (fun k => spec_PathOf.l1 k out s i x7 1 0) (fun r => r = strOfNums (out ++ esc rest)) := by
  intro rest
  induction rest with
  | nil =>
    intro out i h6 hle hd hl
    have hz := size_of_drop h6 hle hd
    simp only [List.length_nil] at hz
    refine EvP.succ ?_
    simp only [spec_PathOf.l1]
    refine EvP.neg (by omega) ?_
    refine EvP.succ ?_
    simp only [spec_PathOf.l0]
    rw [w64 (by omega) (by omega)]
    refine EvP.neg (by omega) (EvP.ret _ ?_)
    simp [esc]
  | cons c t ih =>
    intro out i h6 hle hd hl
    obtain ⟨hb, hlt, hd'⟩ := bt_of_drop h6 hd
    simp only [List.length_cons] at hl
    refine EvP.succ ?_
    simp only [spec_PathOf.l1, hb, pb_eq, Option.bind_some]
    rw [w64 (x := i + 1) (by omega) (by omega)]
    refine EvP.pos hlt (EvP.pos h6 (EvP.ite (fun h => ?_) (fun h => ?_)))
    · refine EvP.pos (by omega) ((ih _ (i + 1) (by omega) (by omega) hd' (by simp; omega)).mono ?_)
      rintro r rfl
      simp [esc, h]
    · refine EvP.pos (by omega) (EvP.pos (by simp; omega) ((ih _ (i + 1) (by omega) (by omega) hd' (by simp; omega)).mono ?_))
      rintro r rfl
      simp [esc, h]

theorem pathOf_any (s : ByteArray) (hs : s.size ≤ 4096) : EvP (fun k => spec_PathOf.f k [s]) (fun r => r = strOfNums (esc (ints s))) := by
  unfold spec_PathOf.f
  refine EvP.succ ?_
  simp only [spec_PathOf.l0]
  refine EvP.pos (by simp) (EvP.pos (by omega) (EvP.pos (by simp) (EvP.neg (by omega) ?_)))
  refine EvP.succ ?_
  simp only [spec_PathOf.j1]
  exact path_l1 s [s] hs (ints s) [] 0 (by omega) (by omega) (by simp) (by rw [ints_length]; simp; omega)

def bitN (n i : Int) : Bool := (Go.bits .and .u64 (shr .u64 n i) 1) == 1

theorem bit_zero (n : Int) : bitN n 0 = ((Go.bits .and .u64 n 1) == 1) := by
  have : shr .u64 n 0 = n := by simp [shr]
  rw [bitN, this]

theorem bit_succ (n i : Int) (h0 : 0 ≤ i) (h1 : i ≤ 62) : bitN n (i + 1) = bitN (n / 2) i := by
  have : shr .u64 n (i + 1) = shr .u64 (n / 2) i := by
    unfold shr
    rw [show IntKind.bits .u64 = 64 from rfl, show min (i + 1).toNat 64 = 1 + min i.toNat 64 by omega, Int.pow_add, show (2 : Int) ^ 1 = 2 from rfl]
    exact (Int.ediv_ediv_of_nonneg (by omega)).symm
  rw [bitN, this, bitN]

theorem isName_eq (n i : Int) (h0 : 0 ≤ i) (h1 : i < 64) : spec_isName.f n i = some (bitN n i) := by
  unfold spec_isName.f
  rw [if_pos h1, u64w (x := i) h0 (by omega), if_pos h0]
  rfl

/-- The keys from number i on, written. -/
def cpR : List ByteArray → Int → Int → List Int
  | [], _, _ => []
  | s :: t, n, i => (if 0 < i then [46] else []) ++ ((if bitN n i = true then [58] else []) ++ esc (ints s)) ++ cpR t n (i + 1)

theorem cpR_bytes : ∀ (l : List ByteArray) (n i : Int), Bytes (cpR l n i)
  | [], _, _ => bytes_nil
  | s :: t, n, i => by
    refine bytes_append (bytes_append ?_ (bytes_append ?_ (esc_bytes _ (ints_bytes s)))) (cpR_bytes t n (i + 1))
    · split
      · exact bytes_cons (by omega) (by omega) bytes_nil
      · exact bytes_nil
    · split
      · exact bytes_cons (by omega) (by omega) bytes_nil
      · exact bytes_nil

theorem cpR_shift : ∀ (l : List ByteArray) (n i : Int), 1 ≤ i → i + l.length ≤ 62 → cpR l n (i + 1) = cpR l (n / 2) i
  | [], _, _, _, _ => rfl
  | s :: t, n, i, h0, h1 => by
    simp only [List.length_cons] at h1
    simp only [cpR]
    rw [cpR_shift t n (i + 1) (by omega) (by omega), bit_succ n i (by omega) (by omega), if_pos (by omega : 0 < i + 1), if_pos (by omega : 0 < i)]

theorem cpR_first (s : ByteArray) (t : List ByteArray) (n : Int) (h : t.length ≤ 40) : cpR (s :: t) n 1 = 46 :: cpR (s :: t) (n / 2) 0 := by
  simp only [cpR]
  rw [cpR_shift t n 1 (by omega) (by omega), show bitN n 1 = bitN (n / 2) 0 from bit_succ n 0 (by omega) (by omega)]
  simp

theorem rd_drop {xs : List ByteArray} {i : Int} {c : ByteArray} {t : List ByteArray} (h0 : 0 ≤ i) (h : xs.drop i.toNat = c :: t) : rdOf ByteArray.empty xs i = c ∧ i < (xs.length : Int) ∧ xs.drop (i + 1).toNat = t ∧ (xs.take (i + 1).toNat).drop i.toNat = [c] := by
  have hl : i.toNat < xs.length := by
    have := congrArg List.length h
    simp only [List.length_drop, List.length_cons] at this
    omega
  have e := List.drop_eq_getElem_cons hl
  rw [h] at e
  injection e with e1 e2
  refine ⟨?_, by omega, ?_, ?_⟩
  · unfold rdOf
    rw [List.getD_eq_getElem?_getD, List.getElem?_eq_getElem hl, Option.getD_some]; exact e1.symm
  · rw [show (i + 1).toNat = i.toNat + 1 from by omega]; exact e2.symm
  · rw [List.drop_take, h, show (i + 1).toNat - i.toNat = 1 by omega]; rfl

theorem colon_l0 (keys : List ByteArray) (n : Int) (hlen : keys.length ≤ 32) : ∀ (rest : List ByteArray) (acc : ByteArray) (i : Int), 0 ≤ i → i + rest.length = keys.length → keys.drop i.toNat = rest → (∀ s ∈ rest, s.size ≤ 4096) → acc.size ≤ 20000 * i →
    EvP (fun k => spec_ColonPath.l0 k keys n acc (keys.length : Int) i) (fun r => ints r = ints acc ++ cpR rest n i) := by
  intro rest
  induction rest with
  | nil =>
    intro acc i h0 hi hd hs ha
    simp only [List.length_nil] at hi
    refine EvP.succ ?_
    simp only [spec_ColonPath.l0]
    refine EvP.neg (by omega) (EvP.ret _ ?_)
    simp [cpR]
  | cons s t ih =>
    intro acc i h0 hi hd hs ha
    simp only [List.length_cons] at hi
    obtain ⟨hr, hlt, hd', htk⟩ := rd_drop h0 hd
    have hss := hs s List.mem_cons_self
    have hel := esc_len (ints s)
    rw [ints_length] at hel
    have step : ∀ b : ByteArray, b.size ≤ 20000 * i + 2 → EvP (fun k => spec_ColonPath.j1 k keys n b i (keys.length : Int) i) (fun r => ints r = ints b ++ ((if bitN n i = true then [58] else []) ++ esc (ints s)) ++ cpR t n (i + 1)) := by
      intro b hb
      refine EvP.succ ?_
      simp only [spec_ColonPath.j1]
      rw [isName_eq n i h0 (by omega), w64 (x := i + 1) (by omega) (by omega), htk]
      simp only [Option.bind_some]
      refine EvP.ite (fun hn => ?_) (fun hn => ?_)
      · refine EvP.pos (by omega) (EvP.pos h0 (EvP.pos (by omega) (EvP.pos (by omega) ?_)))
        refine EvP.bind (pathOf_any s hss) ?_
        rintro a rfl
        have hsz : (strOfNums (esc (ints s))).size ≤ 8192 := by rw [strOfNums_size]; omega
        have hb1 : (b ++ (⟨#[58]⟩ : ByteArray)).size = b.size + 1 := by simp [ByteArray.size_append]; rfl
        refine EvP.pos (by omega) ((ih _ (i + 1) (by omega) (by omega) hd' (fun x hx => hs x (List.mem_cons_of_mem _ hx)) (by rw [ByteArray.size_append]; omega)).mono ?_)
        intro r hr'
        rw [hr', ints_append, ints_append, ints_strOfNums (esc_bytes _ (ints_bytes s)), if_pos hn]
        have : ints (⟨#[58]⟩ : ByteArray) = [58] := rfl
        rw [this]
        simp
      · refine EvP.pos h0 (EvP.pos (by omega) (EvP.pos (by omega) ?_))
        refine EvP.bind (pathOf_any s hss) ?_
        rintro a rfl
        have hsz : (strOfNums (esc (ints s))).size ≤ 8192 := by rw [strOfNums_size]; omega
        refine EvP.pos (by omega) ((ih _ (i + 1) (by omega) (by omega) hd' (fun x hx => hs x (List.mem_cons_of_mem _ hx)) (by rw [ByteArray.size_append]; omega)).mono ?_)
        intro r hr'
        rw [hr', ints_append, ints_strOfNums (esc_bytes _ (ints_bytes s)), if_neg hn]
        simp
    refine EvP.succ ?_
    simp only [spec_ColonPath.l0]
    refine EvP.pos (by omega) (EvP.ite (fun h => ?_) (fun h => ?_))
    · have hb1 : (acc ++ (⟨#[46]⟩ : ByteArray)).size = acc.size + 1 := by simp [ByteArray.size_append]; rfl
      refine EvP.pos (by omega) ((step _ (by omega)).mono ?_)
      intro r hr'
      have : ints (⟨#[46]⟩ : ByteArray) = [46] := rfl
      rw [hr', ints_append, this]
      simp only [cpR]
      rw [if_pos (show (0 : Int) < i by omega)]
      simp
    · refine (step _ (by omega)).mono ?_
      intro r hr'
      rw [hr']
      simp only [cpR]
      rw [if_neg (show ¬ (0 : Int) < i by omega)]
      simp

theorem colon_any (keys : List ByteArray) (n : Int) (hlen : keys.length ≤ 32) (hs : ∀ s ∈ keys, s.size ≤ 4096) : EvP (fun k => spec_ColonPath.f k keys n) (fun r => ints r = cpR keys n 0) := by
  unfold spec_ColonPath.f
  refine (colon_l0 keys n hlen keys (⟨#[]⟩ : ByteArray) 0 (by omega) (by omega) rfl hs (by simp; rfl)).mono ?_
  intro r h
  rw [h]
  rfl

/-! ### the reader -/

theorem simple_pb {c : Int} (h : pb c = true) : sjson_isSimpleChar.f c = some true := by
  have := pb_ne h
  unfold sjson_isSimpleChar.f
  rw [if_neg (by omega), if_neg (by omega), if_neg (by omega), if_neg (by omega), if_neg (by omega)]

/-- What is read: the first key s, its component, what is behind the point. -/
def Good (s : List Int) (rest : List Int) (force : Bool) (r : ByteArray × ByteArray × ByteArray × Bool × Bool × Bool) : Prop :=
  ints r.1 = s ∧ ints r.2.1 = esc s ∧ (∀ t, rest = 46 :: t → ints r.2.2.1 = t) ∧ r.2.2.2.1 = force ∧ (r.2.2.2.2.1 = true ↔ rest ≠ []) ∧ r.2.2.2.2.2 = true

theorem tail_l1 (p : ByteArray) (hp : p.size ≤ 2147483647) (e0 e1 e2 : ByteArray) (force : Bool) (s rest : List Int) (hsb : Bytes s) (hrest : rest = [] ∨ ∃ t, rest = 46 :: t) : ∀ (s2 done : List Int) (i : Int), 0 ≤ i → i ≤ p.size → s = done ++ s2 → (ints p).drop i.toNat = esc s2 ++ rest → done.length ≤ i → (esc done).length ≤ i →
    EvP (fun k => sjson_parsePath.l1 k p i done (esc done) e0 e1 e2 force false) (Good s rest force) := by
  intro s2
  induction s2 with
  | nil =>
    intro done i h0 hi hs hd hl hl2
    simp only [esc, List.nil_append, List.append_nil] at hd hs
    subst hs
    refine EvP.succ ?_
    simp only [sjson_parsePath.l1]
    rcases hrest with rfl | ⟨t, rfl⟩
    · have hz := size_of_drop h0 hi hd
      simp only [List.length_nil] at hz
      refine EvP.neg (by omega) (EvP.ret _ ?_)
      exact ⟨ints_strOfNums hsb, ints_strOfNums (esc_bytes _ hsb), (fun t h => by cases h), rfl, by simp, rfl⟩
    · obtain ⟨hb, hlt, hd'⟩ := bt_of_drop h0 hd
      rw [w64 (x := i + 1) (by omega) (by omega), hb]
      refine EvP.pos hlt (EvP.pos h0 (EvP.neg (by omega) (EvP.pos rfl (EvP.pos (by omega) (EvP.pos (by omega) (EvP.ret _ ?_))))))
      refine ⟨ints_strOfNums hsb, ints_strOfNums (esc_bytes _ hsb), fun t' h => ?_, rfl, by simp, rfl⟩
      injection h with _ h
      subst h
      rw [ints_extract, hd', List.take_of_length_le]
      rw [← hd', List.length_drop, ints_length]
      exact Nat.le_refl _
  | cons c t ih =>
    intro done i h0 hi hs hd hl hl2
    have hs' : s = (done ++ [c]) ++ t := by rw [hs]; simp
    by_cases hc : pb c = true
    · simp only [esc, if_pos hc, List.cons_append, List.nil_append] at hd
      obtain ⟨hb, hlt, hd'⟩ := bt_of_drop h0 hd
      have hne := pb_ne hc
      have he : esc (done ++ [c]) = esc done ++ [c] := by rw [esc_append]; simp [esc, hc]
      have hnx := ih (done ++ [c]) (i + 1) (by omega) (by omega) hs' hd' (by simp; omega) (by rw [he]; simp; omega)
      rw [he] at hnx
      refine EvP.succ ?_
      simp only [sjson_parsePath.l1, hb, simple_pb hc, Option.bind_some]
      rw [w64 (x := i + 1) (by omega) (by omega)]
      exact EvP.pos hlt (EvP.pos h0 (EvP.neg (by omega) (EvP.neg (by omega) (EvP.pos trivial (EvP.pos (by omega) (EvP.pos (by omega) hnx))))))
    · simp only [esc, if_neg hc, List.cons_append, List.nil_append] at hd
      obtain ⟨hb, hlt, hd'⟩ := bt_of_drop h0 hd
      obtain ⟨hb2, hlt2, hd2⟩ := bt_of_drop (by omega) hd'
      have he : esc (done ++ [c]) = esc done ++ [92] ++ [c] := by rw [esc_append]; simp [esc, hc]
      have hnx := ih (done ++ [c]) (i + 1 + 1) (by omega) (by omega) hs' hd2 (by simp; omega) (by rw [he]; simp; omega)
      rw [he] at hnx
      refine EvP.succ ?_
      simp only [sjson_parsePath.l1, hb, Option.bind_some]
      rw [w64 (x := i + 1) (by omega) (by omega), w64 (x := i + 1 + 1) (by omega) (by omega), hb2]
      exact EvP.pos hlt (EvP.pos h0 (EvP.pos trivial (EvP.pos (by omega) (EvP.pos (by omega) (EvP.pos (by omega) (EvP.pos (by omega) (EvP.pos (by simp; omega) hnx)))))))

theorem head_l0 (p : ByteArray) (hp : p.size ≤ 2147483647) (e0 e1 e2 : ByteArray) (force : Bool) (s rest : List Int) (hsb : Bytes s) (hrest : rest = [] ∨ ∃ t, rest = 46 :: t) (hall : ints p = esc s ++ rest) : ∀ (s2 done : List Int) (i : Int), 0 ≤ i → i ≤ p.size → s = done ++ s2 → (ints p).drop i.toNat = esc s2 ++ rest → (ints p).take i.toNat = done → esc done = done →
    EvP (fun k => sjson_parsePath.l0 k p i e0 e1 e2 force false) (Good s rest force) := by
  intro s2
  induction s2 with
  | nil =>
    intro done i h0 hi hs hd htk hdone
    simp only [esc, List.nil_append, List.append_nil] at hd hs
    subst hs
    refine EvP.succ ?_
    simp only [sjson_parsePath.l0]
    rcases hrest with rfl | ⟨t, rfl⟩
    · have hz := size_of_drop h0 hi hd
      simp only [List.length_nil] at hz
      refine EvP.neg (by omega) (EvP.ret _ ?_)
      have hps : ints p = s := by rw [hall, hdone]; simp
      exact ⟨hps, by rw [hps, hdone], (fun t h => by cases h), rfl, by simp, rfl⟩
    · obtain ⟨hb, hlt, hd'⟩ := bt_of_drop h0 hd
      rw [w64 (x := i + 1) (by omega) (by omega), hb]
      refine EvP.pos hlt (EvP.pos h0 (EvP.pos rfl (EvP.pos (by omega) (EvP.pos (by omega) (EvP.pos (by omega) (EvP.ret _ ?_))))))
      have hps : ints (p.extract 0 i.toNat) = s := by rw [ints_extract]; simpa using htk
      refine ⟨hps, by rw [hps, hdone], fun t' h => ?_, rfl, by simp, rfl⟩
      injection h with _ h
      subst h
      rw [ints_extract, hd', List.take_of_length_le]
      rw [← hd', List.length_drop, ints_length]
      exact Nat.le_refl _
  | cons c t ih =>
    intro done i h0 hi hs hd htk hdone
    have hs' : s = (done ++ [c]) ++ t := by rw [hs]; simp
    by_cases hc : pb c = true
    · simp only [esc, if_pos hc, List.cons_append, List.nil_append] at hd
      obtain ⟨hb, hlt, hd'⟩ := bt_of_drop h0 hd
      have hne := pb_ne hc
      have he : esc (done ++ [c]) = done ++ [c] := by rw [esc_append, hdone]; simp [esc, hc]
      have htk' : (ints p).take (i + 1).toNat = done ++ [c] := by
        rw [show (i + 1).toNat = i.toNat + 1 by omega, List.take_add, htk, hd]; rfl
      have hnx := ih (done ++ [c]) (i + 1) (by omega) (by omega) hs' hd' htk' he
      refine EvP.succ ?_
      simp only [sjson_parsePath.l0, hb, simple_pb hc, Option.bind_some]
      rw [w64 (x := i + 1) (by omega) (by omega)]
      exact EvP.pos hlt (EvP.pos h0 (EvP.neg (by omega) (EvP.pos trivial (EvP.neg (by omega) hnx))))
    · simp only [esc, if_neg hc, List.cons_append, List.nil_append] at hd
      obtain ⟨hb, hlt, hd'⟩ := bt_of_drop h0 hd
      obtain ⟨hb2, hlt2, hd2⟩ := bt_of_drop (by omega) hd'
      have he : esc (done ++ [c]) = done ++ [92] ++ [c] := by rw [esc_append, hdone]; simp [esc, hc]
      have hlen : done.length = i.toNat := by rw [← htk, List.length_take, ints_length]; omega
      have hnx := tail_l1 p hp e0 e1 e2 force s rest hsb hrest t (done ++ [c]) (i + 1 + 1) (by omega) (by omega) hs' hd2 (by simp; omega) (by rw [he]; simp; omega)
      rw [he] at hnx
      have h92 : sjson_isSimpleChar.f 92 = some true := by decide
      have y1 : bytesOf (p.extract 0 i.toNat) = done := by rw [bytesOf_ints, ints_extract]; simpa using htk
      have y2 : bytesOf (p.extract 0 (i + 1).toNat) = done ++ [92] := by
        rw [bytesOf_ints, ints_extract, List.drop_zero, Nat.sub_zero, show (i + 1).toNat = i.toNat + 1 by omega, List.take_add, htk, hd]; rfl
      refine EvP.succ ?_
      simp only [sjson_parsePath.l0, hb, h92, Option.bind_some]
      rw [w64 (x := i + 1) (by omega) (by omega), w64 (x := i + 1 + 1) (by omega) (by omega), hb2, y1, y2]
      refine EvP.pos hlt (EvP.pos h0 (EvP.neg (by omega) (EvP.pos trivial (EvP.pos trivial (EvP.pos (by omega) (EvP.pos (by rw [ByteArray.size_extract]; omega) (EvP.pos (by omega) (EvP.pos (by omega) (EvP.pos (by rw [ByteArray.size_extract]; omega) (EvP.pos hlt2 (EvP.pos (by omega) (EvP.pos (by simp; omega) hnx))))))))))))

theorem parse_any (p : ByteArray) (hp : p.size ≤ 2147483647) (s rest : List Int) (force : Bool) (hsb : Bytes s) (hs0 : s ≠ []) (hrest : rest = [] ∨ ∃ t, rest = 46 :: t) (h : ints p = (if force = true then [58] else []) ++ esc s ++ rest) :
    EvP (fun k => sjson_parsePath.f k p) (Good s rest force) := by
  unfold sjson_parsePath.f
  obtain ⟨c, t, rfl⟩ := List.exists_cons_of_ne_nil hs0
  have hps : 0 < (p.size : Int) := by
    have := congrArg List.length h
    rw [ints_length] at this
    have h2 : 0 < (esc (c :: t)).length := by simp only [esc]; split <;> simp
    simp only [List.length_append] at this
    omega
  have h00 : ∀ q : ByteArray, q.size ≤ 2147483647 → ints q = esc (c :: t) ++ rest → EvP (fun k => sjson_parsePath.j1 k q (⟨#[]⟩ : ByteArray) (⟨#[]⟩ : ByteArray) (⟨#[]⟩ : ByteArray) force false) (Good (c :: t) rest force) := by
    intro q hq hqs
    refine EvP.succ ?_
    simp only [sjson_parsePath.j1]
    exact head_l0 q hq _ _ _ force _ rest hsb hrest hqs (c :: t) [] 0 (by omega) (by omega) (by simp) (by simpa using hqs) (by simp) rfl
  refine EvP.pos hps (EvP.pos hps ?_)
  refine EvP.succ ?_
  simp only [sjson_parsePath.j0]
  cases force with
  | true =>
    simp only [if_true, List.cons_append, List.nil_append] at h
    have hd : (ints p).drop (0 : Int).toNat = 58 :: (esc (c :: t) ++ rest) := by simpa using h
    obtain ⟨hb, _, hd'⟩ := bt_of_drop (by omega) hd
    refine EvP.pos (by rw [hb]; rfl) (EvP.pos (by omega) (h00 _ ?_ ?_))
    · rw [ByteArray.size_extract]; omega
    · rw [ints_extract, List.take_of_length_le (by rw [List.length_drop, ints_length]; exact Nat.le_refl _)]
      simpa using hd'
  | false =>
    simp only [Bool.false_eq_true, if_false, List.nil_append] at h
    have hne : bt p 0 ≠ 58 := by
      by_cases hc : pb c = true
      · have hd : (ints p).drop (0 : Int).toNat = c :: (esc t ++ rest) := by simpa [esc, hc] using h
        obtain ⟨hb, _, _⟩ := bt_of_drop (by omega) hd
        rw [hb]; exact (pb_ne hc).2.2.1
      · have hd : (ints p).drop (0 : Int).toNat = 92 :: c :: (esc t ++ rest) := by simpa [esc, hc] using h
        obtain ⟨hb, _, _⟩ := bt_of_drop (by omega) hd
        omega
    exact EvP.neg (by simpa using hne) (h00 p hp h)

/-! ### the guards -/
theorem fits_l0 (l : List ByteArray) (hlen : l.length ≤ 2147483647) : ∀ (rest : List ByteArray) (i : Int), 0 ≤ i → i + rest.length = l.length → l.drop i.toNat = rest → EvP (fun k => laws_zzFits1.l0 k l (l.length : Int) i) (fun r => r = true → ∀ s ∈ rest, s.size ≤ 2147483647) := by
  intro rest
  induction rest with
  | nil =>
    intro i h0 hi hd
    simp only [List.length_nil] at hi
    refine EvP.succ ?_
    simp only [laws_zzFits1.l0]
    exact EvP.neg (by omega) (EvP.ret _ (fun _ s hs => by cases hs))
  | cons s t ih =>
    intro i h0 hi hd
    simp only [List.length_cons] at hi
    obtain ⟨hr, hlt, hd', _⟩ := rd_drop h0 hd
    refine EvP.succ ?_
    simp only [laws_zzFits1.l0, hr]
    rw [w64 (x := i + 1) (by omega) (by omega)]
    refine EvP.pos (by omega) (EvP.pos h0 (EvP.pos hlt (EvP.ite (fun _ => EvP.ret _ (fun h => by cases h)) (fun h => (ih (i + 1) (by omega) (by omega) hd').mono ?_))))
    intro r hr' h1 x hx
    rcases List.mem_cons.1 hx with rfl | hx
    · omega
    · exact hr' h1 x hx

theorem fits_any (l : List ByteArray) : EvP (fun k => laws_zzFits1.f k l) (fun r => r = true → l.length ≤ 2147483647 ∧ ∀ s ∈ l, s.size ≤ 2147483647) := by
  unfold laws_zzFits1.f
  refine EvP.ite (fun _ => EvP.ret _ (fun h => by cases h)) (fun h => ?_)
  exact (fits_l0 l (by omega) l 0 (by omega) (by omega) rfl).mono (fun r hr h1 => ⟨by omega, hr h1⟩)

theorem high_any (c : Int) : EvP (fun _ => spec_high.f c) (fun _ => True) := by
  unfold spec_high.f
  exact EvP.ite (fun _ => EvP.ret _ trivial) (fun _ => EvP.ret _ trivial)
theorem low_any (c : Int) : EvP (fun _ => spec_low.f c) (fun _ => True) := by
  unfold spec_low.f
  exact EvP.ite (fun _ => EvP.ret _ trivial) (fun _ => EvP.ret _ trivial)

theorem char_l0 (s : ByteArray) (hs : s.size ≤ 2147483647) (a m least : Int) (h0 : 0 ≤ a) (hm : m ≤ 3) (ha : a + m < s.size) (d : Nat) : ∀ i c : Int, 1 ≤ i → m - i < d → i ≤ 4 → i ≤ m + 1 → EvP (fun k => spec_Character.l0 k s a c m least i) (fun r => 1 ≤ r.2.1 ∧ r.2.1 ≤ 4) := by
  induction d with
  | zero =>
    intro i c h1 hd h4 hi
    refine EvP.succ ?_
    simp only [spec_Character.l0]
    refine EvP.neg (by omega) (EvP.ite (fun _ => EvP.ret _ (by simp)) (fun _ => EvP.ite (fun _ => EvP.ret _ (by simp)) (fun _ => ?_)))
    refine EvP.bind (high_any c) (fun b _ => EvP.ite (fun _ => EvP.ret _ (by simp)) (fun _ => EvP.bind (low_any c) (fun b _ => EvP.ite (fun _ => EvP.ret _ (by simp)) (fun _ => EvP.ret _ ?_))))
    show 1 ≤ wrap64 (m + 1) ∧ wrap64 (m + 1) ≤ 4
    rw [w64 (by omega) (by omega)]; omega
  | succ d ih =>
    intro i c h1 hd h4 hi
    refine EvP.succ ?_
    simp only [spec_Character.l0]
    refine EvP.ite (fun him => ?_) (fun him => EvP.ite (fun _ => EvP.ret _ (by simp)) (fun _ => EvP.ite (fun _ => EvP.ret _ (by simp)) (fun _ => ?_)))
    · rw [w64 (x := a + i) (by omega) (by omega), w64 (x := i + 1) (by omega) (by omega)]
      exact EvP.pos (by omega) (EvP.pos (by omega) (EvP.ite (fun _ => EvP.ret _ (by simp)) (fun _ => EvP.ite (fun _ => EvP.ret _ (by simp)) (fun _ => ih (i + 1) _ (by omega) (by omega) (by omega) (by omega)))))
    · refine EvP.bind (high_any c) (fun b _ => EvP.ite (fun _ => EvP.ret _ (by simp)) (fun _ => EvP.bind (low_any c) (fun b _ => EvP.ite (fun _ => EvP.ret _ (by simp)) (fun _ => EvP.ret _ ?_))))
      show 1 ≤ wrap64 (m + 1) ∧ wrap64 (m + 1) ≤ 4
      rw [w64 (by omega) (by omega)]; omega

theorem char_j2 (s : ByteArray) (hs : s.size ≤ 2147483647) (a m least c : Int) (h0 : 0 ≤ a) (h1 : a < s.size) (hm : m ≤ 3) (hm0 : 1 ≤ m) : EvP (fun k => spec_Character.j2 k s a c m least) (fun r => 1 ≤ r.2.1 ∧ r.2.1 ≤ 4) := by
  refine EvP.succ ?_
  simp only [spec_Character.j2]
  rw [w64 (by omega) (by omega)]
  refine EvP.ite (fun _ => EvP.ret _ (by simp)) (fun h => ?_)
  exact char_l0 s hs a m least h0 hm (by omega) 4 1 c (by omega) (by omega) (by omega) (by omega)

theorem char_j1 (s : ByteArray) (hs : s.size ≤ 2147483647) (a c : Int) (b : Bool) (h0 : 0 ≤ a) (h1 : a < s.size) : EvP (fun k => spec_Character.j1 k s a c b) (fun r => 1 ≤ r.2.1 ∧ r.2.1 ≤ 4) := by
  refine EvP.succ ?_
  simp only [spec_Character.j1]
  exact EvP.ite (fun _ => char_j2 s hs a 2 _ _ h0 h1 (by omega) (by omega)) (fun _ => EvP.ite (fun _ => EvP.ite (fun _ => char_j2 s hs a 3 _ _ h0 h1 (by omega) (by omega)) (fun _ => EvP.ret _ (by simp))) (fun _ => EvP.ret _ (by simp)))

theorem char_j0 (s : ByteArray) (hs : s.size ≤ 2147483647) (a c : Int) (b : Bool) (h0 : 0 ≤ a) (h1 : a < s.size) : EvP (fun k => spec_Character.j0 k s a c b) (fun r => 1 ≤ r.2.1 ∧ r.2.1 ≤ 4) := by
  refine EvP.succ ?_
  simp only [spec_Character.j0]
  exact EvP.ite (fun _ => char_j2 s hs a 1 _ _ h0 h1 (by omega) (by omega)) (fun _ => EvP.ite (fun _ => char_j1 s hs a c _ h0 h1) (fun _ => char_j1 s hs a c _ h0 h1))

theorem char_any (s : ByteArray) (hs : s.size ≤ 2147483647) (a : Int) (h0 : 0 ≤ a) (h1 : a < s.size) : EvP (fun k => spec_Character.f k s a) (fun r => 1 ≤ r.2.1 ∧ r.2.1 ≤ 4) := by
  unfold spec_Character.f
  exact EvP.pos h0 (EvP.pos h1 (EvP.ite (fun _ => EvP.ret _ (by simp)) (fun _ => EvP.ite (fun _ => char_j0 s hs a _ _ h0 h1) (fun _ => char_j0 s hs a _ _ h0 h1))))

theorem utf8_l0 (s : ByteArray) (hs : s.size ≤ 2147483647) (d : Nat) : ∀ a : Int, 0 ≤ a → s.size - a < d → a ≤ s.size + 4 → EvP (fun k => spec_UTF8.l0 k s a) (fun _ => True) := by
  induction d with
  | zero =>
    intro a h0 hd hle
    refine EvP.succ ?_
    simp only [spec_UTF8.l0]
    exact EvP.neg (by omega) (EvP.ret _ trivial)
  | succ d ih =>
    intro a h0 hd hle
    refine EvP.succ ?_
    simp only [spec_UTF8.l0]
    refine EvP.ite (fun hlt => ?_) (fun _ => EvP.ret _ trivial)
    refine EvP.bind (char_any s hs a h0 hlt) ?_
    intro r hr
    rw [w64 (by omega) (by omega)]
    exact EvP.ite (fun _ => ih _ (by omega) (by omega) (by omega)) (fun _ => EvP.ret _ trivial)

theorem utf8_any (s : ByteArray) (hs : s.size ≤ 2147483647) : EvP (fun k => spec_UTF8.f k s) (fun _ => True) := by
  unfold spec_UTF8.f
  exact utf8_l0 s hs (s.size + 1) 0 (by omega) (by omega) (by omega)

def total : List ByteArray → Nat
  | [] => 0
  | s :: t => s.size + total t

theorem keys_l0 (l : List ByteArray) (hlen : l.length ≤ 2147483647) (hsz : ∀ s ∈ l, s.size ≤ 2147483647) : ∀ (rest : List ByteArray) (x3 i : Int), 0 ≤ i → i + rest.length = l.length → l.drop i.toNat = rest → 0 ≤ x3 → x3 ≤ 2147483647 * i →
    EvP (fun k => laws_sjKeys.l0 k l x3 l (l.length : Int) i) (fun r => r = true → 0 < l.length ∧ l.length ≤ 32 ∧ x3 + total rest ≤ 4096 ∧ ∀ s ∈ rest, 0 < s.size) := by
  intro rest
  induction rest with
  | nil =>
    intro x3 i h0 hi hd hx hx2
    simp only [List.length_nil] at hi
    refine EvP.succ ?_
    simp only [laws_sjKeys.l0]
    refine EvP.neg (by omega) (EvP.ite (fun h1 => EvP.ite (fun h2 => EvP.ret _ (fun h => ?_)) (fun _ => EvP.ret _ (fun h => by cases h))) (fun _ => EvP.ret _ (fun h => by cases h)))
    have := of_decide_eq_true h
    refine ⟨by omega, by omega, ?_, fun s hs => by cases hs⟩
    simp only [total]; omega
  | cons s t ih =>
    intro x3 i h0 hi hd hx hx2
    simp only [List.length_cons] at hi
    obtain ⟨hr, hlt, hd', _⟩ := rd_drop h0 hd
    have hss : s.size ≤ 2147483647 := hsz s (by
      have : s ∈ l.drop i.toNat := by rw [hd]; exact List.mem_cons_self
      exact List.mem_of_mem_drop this)
    have hnx : s.toList ≠ [] → EvP (fun k => laws_sjKeys.l0 k l (x3 + s.size) l (l.length : Int) (i + 1)) (fun r => r = true → 0 < l.length ∧ l.length ≤ 32 ∧ x3 + total (s :: t) ≤ 4096 ∧ ∀ s' ∈ s :: t, 0 < s'.size) := by
      intro hne
      refine (ih (x3 + s.size) (i + 1) (by omega) (by omega) hd' (by omega) (by omega)).mono ?_
      intro r hr' h
      obtain ⟨a, b, c, d⟩ := hr' h
      refine ⟨a, b, by simp only [total]; omega, fun s' hs' => ?_⟩
      rcases List.mem_cons.1 hs' with rfl | hs'
      · have : s'.size ≠ 0 := fun e => hne ((toList_nil s').2 e)
        omega
      · exact d s' hs'
    refine EvP.succ ?_
    simp only [laws_sjKeys.l0, hr]
    rw [w64 (x := i + 1) (by omega) (by omega), w64 (x := x3 + s.size) (by omega) (by omega)]
    refine EvP.pos (by omega) (EvP.pos h0 (EvP.pos hlt (EvP.ite (fun _ => EvP.ret _ (fun h => by cases h)) (fun hne => ?_))))
    refine EvP.bind (utf8_any s hss) (fun b _ => EvP.ite (fun _ => ?_) (fun _ => EvP.ret _ (fun h => by cases h)))
    refine EvP.ite (fun h1 => EvP.pos (by omega) (EvP.ite (fun _ => EvP.pos (by omega) (EvP.ite (fun _ => EvP.ite (fun _ => EvP.ret _ (fun h => by cases h)) (fun _ => hnx hne)) (fun _ => hnx hne))) (fun _ => hnx hne))) (fun _ => hnx hne)

theorem keys_any (l : List ByteArray) (hlen : l.length ≤ 2147483647) (hsz : ∀ s ∈ l, s.size ≤ 2147483647) : EvP (fun k => laws_sjKeys.f k l) (fun r => r = true → 0 < l.length ∧ l.length ≤ 32 ∧ total l ≤ 4096 ∧ ∀ s ∈ l, 0 < s.size) := by
  unfold laws_sjKeys.f
  refine (keys_l0 l hlen hsz l 0 0 (by omega) (by omega) rfl (by omega) (by omega)).mono ?_
  intro r hr h
  obtain ⟨a, b, c, d⟩ := hr h
  exact ⟨a, b, by omega, d⟩

theorem total_mem : ∀ {l : List ByteArray} {s : ByteArray}, s ∈ l → s.size ≤ total l
  | x :: t, s, h => by
    rcases List.mem_cons.1 h with rfl | h
    · simp only [total]; omega
    · have := total_mem h
      simp only [total]; omega

theorem cpR_len : ∀ (l : List ByteArray) (n i : Int), (cpR l n i).length ≤ 2 * total l + 2 * l.length
  | [], _, _ => by simp [cpR]
  | s :: t, n, i => by
    have h1 := cpR_len t n (i + 1)
    have h2 := esc_len (ints s)
    rw [ints_length] at h2
    simp only [cpR, total, List.length_append, List.length_cons]
    have h3 : (if 0 < i then [46] else ([] : List Int)).length ≤ 1 := by split <;> simp
    have h4 : (if bitN n i = true then [58] else ([] : List Int)).length ≤ 1 := by split <;> simp
    omega

end SjP
open SjP

theorem FnSjPath : laws_FnSjPath.Pure := by
  intro l n _ _ _ _
  apply EvP.told
  unfold laws_FnSjPath.f
  refine EvP.bind (fits_any l) (fun b hb => EvP.ite (fun hb' => ?_) (fun _ => EvP.ret _ rfl))
  obtain ⟨hlen, hsz⟩ := hb hb'
  refine EvP.bind (keys_any l hlen hsz) (fun b hb => EvP.ite (fun hb' => ?_) (fun _ => EvP.ret _ rfl))
  obtain ⟨hl0, hl32, htot, hpos⟩ := hb hb'
  have h4096 : ∀ s ∈ l, s.size ≤ 4096 := fun s hs => Nat.le_trans (total_mem hs) htot
  obtain ⟨s, t, rfl⟩ := List.exists_cons_of_ne_nil (List.ne_nil_of_length_pos hl0)
  refine EvP.bind (colon_any _ n hl32 h4096) ?_
  intro p hp
  have hs0 : ints s ≠ [] := by
    intro h
    have := hpos s List.mem_cons_self
    have h2 : s.size = 0 := by have h3 := congrArg List.length h; rw [ints_length] at h3; exact h3
    omega
  have hcp : cpR (s :: t) n 0 = (if bitN n 0 = true then [58] else []) ++ esc (ints s) ++ cpR t n 1 := by simp [cpR]
  have hrest : cpR t n 1 = [] ∧ t = [] ∨ ∃ u, t ≠ [] ∧ u = cpR t (n / 2) 0 ∧ cpR t n 1 = 46 :: u := by
    cases t with
    | nil => exact .inl ⟨rfl, rfl⟩
    | cons x y =>
      simp only [List.length_cons] at hl32
      exact .inr ⟨_, by simp, rfl, cpR_first x y n (by omega)⟩
  have hpsz : p.size ≤ 2147483647 := by
    have h1 := cpR_len (s :: t) n 0
    rw [← hp, ints_length] at h1
    omega
  have hgood := parse_any p hpsz (ints s) (cpR t n 1) (bitN n 0) (ints_bytes s) hs0 (by
    rcases hrest with ⟨h, _⟩ | ⟨u, _, _, h⟩
    · exact .inl h
    · exact .inr ⟨u, h⟩) (by rw [hp, hcp])
  have himpl : EvP (fun k => impl_SjPath.f k p) (SjP.Good (ints s) (cpR t n 1) (bitN n 0)) := by
    unfold impl_SjPath.f sjson_DoorPath.f
    exact EvP.bind (EvP.bind hgood (fun a ha => EvP.ret _ ha)) (fun a ha => EvP.ret _ ha)
  refine EvP.bind himpl ?_
  rintro ⟨r1, r2, r3, r4, r5, r6⟩ ⟨g1, g2, g3, g4, g5, g6⟩
  simp only at g1 g2 g3 g4 g5 g6
  subst g6
  have hrd : rdOf ByteArray.empty (s :: t) 0 = s := rfl
  simp only [hrd]
  refine EvP.pos trivial (EvP.pos (by simp) (EvP.pos ((toList_eq_iff _ _).2 g1) (EvP.pos (by simp only [List.length_cons]; omega) ?_)))
  refine EvP.bind (pathOf_any s (h4096 s List.mem_cons_self)) ?_
  rintro a rfl
  refine EvP.pos ((toList_eq_iff _ _).2 (by rw [g2, ints_strOfNums (esc_bytes _ (ints_bytes s))])) ?_
  refine EvP.pos (by rw [g4, bit_zero]; simp) ?_
  have hmore : r5 = decide (((s :: t).length : Int) > 1) := by
    rcases hrest with ⟨h, rfl⟩ | ⟨u, ht, _, h⟩
    · have : r5 ≠ true := fun e => (g5.1 e) h
      simpa using this
    · have : r5 = true := g5.2 (by rw [h]; simp)
      have h2 : 0 < t.length := List.length_pos_iff.2 ht
      rw [this]
      symm
      apply decide_eq_true
      simp only [List.length_cons]; omega
  refine EvP.pos (by rw [hmore]; simp) (EvP.ite (fun h5 => ?_) (fun _ => EvP.ret _ rfl))
  rcases hrest with ⟨h, _⟩ | ⟨u, ht, hu, h⟩
  · exact absurd h (g5.1 h5)
  · simp only [List.length_cons] at hl32
    refine EvP.bind (colon_any t (n / 2) (by omega) (fun x hx => h4096 x (List.mem_cons_of_mem _ hx))) ?_
    intro q hq
    refine EvP.ret _ ((beq_toList _ _).2 ?_)
    rw [g3 u h, hu, hq]

end Go.Proofs.Ytikdecjojfmjaaa.Pure
