/- fastjson's unescapeStringBestEffort as a plain function of the text. -/
import Derived.Test.YtkhgbacbnkgafaaDoorUnRow
import Derived.Test.YtkhgbacbnkgafaaDoorRbIdx
import Derived.Test.YtkhgbacbnkgafaaDoorRbHex
import Derived.Test.YtkhgbacbnkgafaaDoorRbU16
import Derived.Test.YtkhgbacbnkgafaaDoorStr
import Derived.Lib.Bytealg
import Derived.Laws.Runes
import Derived.Laws.Cover4
import Derived.Deep.LoopGhost
import Derived.Deep.QuietTactic
import Derived.BigQuiet
import Derived.BigRegion
import Derived.Great.Walk
set_option linter.unusedVariables false
set_option linter.unusedSimpArgs false
namespace Go.Proofs.YtkhgbacbnkgafaaDoor.Un
open Go Go.RowKit Go.Proofs.YtkhgbacbnkgafaaDoorW.PrintWords Go.Proofs.YtkhgbacbnkgafaaDoor.PFnFjReadBytes Go.Proofs.YtkhgbacbnkgafaaDoor.U16 Go.Proofs.YtkhgbacbnkgafaaDoor.StrL Go.Proofs.YtkhgbacbnkgafaaDoor.EvL

/-! ### the plain function -/
def ix (s : ByteArray) : Int := Lib.indexByte s.data.toList (92 : Int).toNat.toUInt8
theorem ix_list (u : UInt8) : ∀ l : List UInt8, Lib.indexByte l u = -1 ∨ ∃ n : Nat, Lib.indexByte l u = (n : Int) ∧ n < l.length
  | [] => .inl rfl
  | b :: l => by
    by_cases hb : b = u
    · subst hb
      exact .inr ⟨0, by simp [Lib.indexByte], by simp⟩
    · have hb2 : (b == u) = false := by simpa using hb
      rcases ix_list u l with h1 | ⟨n, h1, h2⟩
      · exact .inl (by simp [Lib.indexByte, hb2, h1])
      · refine .inr ⟨n + 1, ?_, by simp; omega⟩
        have : ¬ Lib.indexByte l u = -1 := by rw [h1]; omega
        rw [h1] at this
        simp [Lib.indexByte, hb2, h1]
theorem ix_cases (s : ByteArray) : ix s = -1 ∨ ∃ n : Nat, ix s = (n : Int) ∧ n < s.size := by
  rcases ix_list (92 : Int).toNat.toUInt8 s.data.toList with h | ⟨n, h1, h2⟩
  · exact .inl h
  · exact .inr ⟨n, h1, by rw [Array.length_toList] at h2; exact h2⟩
def decR (x x1 : Int) : Int := (utf16_DecodeRune.f x x1).getD 0
def uSur (x : Int) (xs s2 : ByteArray) : List Int × ByteArray :=
  if x < 55296 ∨ 57344 ≤ x then (bytesOf (Utf8.encode x), s2)
  else if s2.size < 6 ∨ bt s2 0 ≠ 92 ∨ bt s2 1 ≠ 117 then ([92, 117] ++ bytesOf xs, s2)
  else match hexF 0 (s2.extract 2 6).data.toList with
    | none => ([92, 117] ++ bytesOf xs, s2)
    | some x1 => (bytesOf (Utf8.encode (decR x x1)), s2.extract 6 s2.size)
def uHex (s1 : ByteArray) : List Int × ByteArray :=
  if s1.size < 4 then ([92, 117], s1)
  else match hexF 0 (s1.extract 0 4).data.toList with
    | none => ([92, 117], s1)
    | some x => uSur x (s1.extract 0 4) (s1.extract 4 s1.size)
def uStep (c : Int) (s1 : ByteArray) : List Int × ByteArray :=
  if c = 34 then ([34], s1) else if c = 92 then ([92], s1) else if c = 47 then ([47], s1) else if c = 98 then ([8], s1) else if c = 102 then ([12], s1) else if c = 110 then ([10], s1) else if c = 114 then ([13], s1) else if c = 116 then ([9], s1)
  else if c = 117 then uHex s1 else ([92, c], s1)
/-- From behind a backslash on; xs is made. -/
def uL : Nat → ByteArray → List Int → List Int
  | 0, _, xs => xs
  | k + 1, s, xs => if s.size = 0 then xs else
    let r := uStep (bt s 0) (s.extract 1 s.size)
    if ix r.2 < 0 then xs ++ r.1 ++ bytesOf r.2
    else uL k (r.2.extract ((ix r.2).toNat + 1) r.2.size) (xs ++ r.1 ++ bytesOf (r.2.extract 0 (ix r.2).toNat))
def unF (s : ByteArray) : ByteArray := if ix s < 0 then s else strOfNums (uL (s.size + 1) (s.extract ((ix s).toNat + 1) s.size) ((bytesOf s).take (ix s).toNat))

theorem uL_done {k : Nat} {s sT : ByteArray} {xs ys : List Int} (h0 : s.size ≠ 0) {s1 : ByteArray} (hs1 : s.extract 1 s.size = s1) (h : uStep (bt s 0) s1 = (ys, sT)) (hi : ix sT = -1) : uL (k + 1) s xs = xs ++ ys ++ bytesOf sT := by
  simp only [uL, if_neg h0, hs1, h]
  rw [if_pos (by omega)]
theorem uL_more {k n : Nat} {s sT : ByteArray} {xs ys : List Int} (h0 : s.size ≠ 0) {s1 : ByteArray} (hs1 : s.extract 1 s.size = s1) (h : uStep (bt s 0) s1 = (ys, sT)) (hi : ix sT = (n : Int)) : uL (k + 1) s xs = uL k (sT.extract (n + 1) sT.size) (xs ++ ys ++ bytesOf (sT.extract 0 n)) := by
  simp only [uL, if_neg h0, hs1, h]
  rw [if_neg (by omega), hi]; rfl

theorem hexF_le : ∀ (l : List UInt8) (a x : Int) (n : Nat), 0 ≤ a → hexF a l = some x → l.length = n → 0 ≤ x ∧ x ≤ (a + 1) * 16 ^ n - 1
  | [], a, x, n, h0, h, hl => by
    simp only [hexF, Option.some.injEq] at h
    subst h; subst hl
    simp only [List.length_nil, Int.pow_zero]; omega
  | c :: t, a, x, n, h0, h, hl => by
    simp only [hexF] at h
    subst hl
    have hc := c.toNat_lt
    cases hd : dgt (c.toNat : Int) with
    | none => rw [hd] at h; cases h
    | some d =>
      rw [hd] at h
      have hd2 : 0 ≤ d ∧ d ≤ 15 := by
        unfold dgt at hd
        split at hd
        · simp only [Option.some.injEq] at hd; omega
        · split at hd
          · simp only [Option.some.injEq] at hd; omega
          · split at hd
            · simp only [Option.some.injEq] at hd; omega
            · cases hd
      obtain ⟨h1, h2⟩ := hexF_le t (a * 16 + d) x t.length (by omega) h rfl
      refine ⟨h1, ?_⟩
      rw [List.length_cons, Int.pow_succ]
      have hp : (0 : Int) < 16 ^ t.length := Int.pow_pos (by omega)
      have h4 : (a * 16 + d + 1) * 16 ^ t.length ≤ ((a + 1) * 16) * 16 ^ t.length := Int.mul_le_mul_of_nonneg_right (by omega) (by omega)
      have h5 : (a + 1) * (16 ^ t.length * 16) = ((a + 1) * 16) * 16 ^ t.length := by rw [Int.mul_comm (16 ^ t.length) 16, Int.mul_assoc]
      omega
theorem hex4 {s : ByteArray} {x : Int} (hs : s.size = 4) (h : hexF 0 s.data.toList = some x) : 0 ≤ x ∧ x ≤ 65535 := by
  have := hexF_le _ 0 x 4 (by omega) h (by rw [Array.length_toList]; exact hs)
  omega
theorem uSur_size (x : Int) (xs s2 : ByteArray) (h4 : xs.size = 4) : (uSur x xs s2).1.length ≤ 6 ∧ (uSur x xs s2).2.size ≤ s2.size := by
  unfold uSur
  have h := bytesOf_length xs
  split
  · have := encode_size_le x
    have := bytesOf_length (Utf8.encode x)
    exact ⟨by simp only; omega, Nat.le_refl _⟩
  · split
    · exact ⟨by simp; omega, Nat.le_refl _⟩
    · split
      · exact ⟨by simp; omega, Nat.le_refl _⟩
      · rename_i x1 _
        have := encode_size_le (decR x x1)
        have := bytesOf_length (Utf8.encode (decR x x1))
        exact ⟨by simp only; omega, by simp only [ByteArray.size_extract]; omega⟩
theorem infoB : (Tryd.prog.info? 5).map (fun i => (i.zero, i.size, i.bytes)) = some (some (.int .u8 0), 1, 1) := by kernel_rfl
theorem br_form {w : World} {base : Nat} {v : Value} {xs : List Int} (h : BR w base v xs) : ∃ (g c n : Nat), v = .slice (some ⟨g, 0, none⟩) n c := by
  obtain ⟨g, c, h, -, -, -⟩ := h.form
  exact ⟨g, c, _, h⟩
theorem s2b_form {s : ByteArray} {w : World} {m : Nat} (hs : s.size ≤ 140737488355328) (hm : m ≤ s.size) :
    Calls Tryd.prog 39 #[.string s] w (fun e w' => ∃ g c, e = .returned (.slice (some ⟨g, 0, none⟩) s.size c) ∧ BR w' w.heap.size (.slice (some ⟨g, 0, none⟩) m c) ((bytesOf s).take m) ∧ m ≤ c ∧ (m : Int) ≤ (c : Int) ∧ Below w.heap.size w w') := by
  refine (s2b_calls hs).mono ?_
  rintro e w' ⟨v, rfl, row, bel⟩
  obtain ⟨g, c, rfl, -, -, hc⟩ := row.form
  have hl := bytesOf_length s
  exact ⟨g, c, by rw [hl], row.cut (by omega), by omega, by omega, bel⟩
theorem dec_some (x x1 : Int) : utf16_DecodeRune.f x x1 = some (decR x x1) := by
  unfold decR utf16_DecodeRune.f
  repeat' split
  all_goals rfl
theorem bt0 {s : ByteArray} : ∀ h : 0 < s.size, ((s[0]'h).toNat : Int) = bt s 0 := fun h => by
  unfold bt
  rw [dif_pos (show (0 : Int).toNat < s.size from h)]; rfl
theorem bt1 {s : ByteArray} : ∀ h : 1 < s.size, ((s[1]'h).toNat : Int) = bt s 1 := fun h => by
  unfold bt
  rw [dif_pos (show (1 : Int).toNat < s.size from h)]; rfl

set_option maxRecDepth 100000 in
set_option maxHeartbeats 100000000 in
theorem un_calls {s : ByteArray} {w : World} (hs : s.size ≤ 2147483647) (hL : Laid w) :
    Calls Tryd.prog 30 #[.string s] w (fun e w' => e = .returned (.string (unF s)) ∧ Below w.heap.size w w') := by
  have HLD := Lib.hid hL
  have HS := Lib.hid hs
  rcases ix_cases s with hix | ⟨m, hix, hm⟩
  · have hF : unF s = s := by unfold unF; rw [if_pos (by omega)]
    have HIX := Lib.hid (show strings_IndexByte.f s 92 = some (-1) from congrArg some hix)
    rw [hF]
    clear hix hL hs hF
    go_enter Tryd.func30, Tryd.ntmps30
    go_wp2_with (first | (go_at_call 37; refine (strings_IndexByte.calls s 92 (-1) _ HIX.out).mono ?_; rintro e w7 ⟨rfl, ⟨nd7, rfl⟩⟩))
    go_ret
    exact ⟨rfl, pw_below_drewN (Below.refl _ _) _⟩
  · have hF : unF s = strOfNums (uL (s.size + 1) (s.extract (m + 1) s.size) ((bytesOf s).take m)) := by unfold unF; rw [if_neg (by omega), hix]; rfl
    rw [hF]
    obtain ⟨R, hR⟩ : ∃ R, uL (s.size + 1) (s.extract (m + 1) s.size) ((bytesOf s).take m) = R := ⟨_, rfl⟩
    rw [hR]
    have HR0 := Lib.hid hR
    have HIX := Lib.hid (show strings_IndexByte.f s 92 = some (m : Int) from congrArg some hix)
    have hm0 : (0 : Int) ≤ (m : Int) := by omega
    have hms : (m : Int) ≤ (s.size : Int) := by omega
    have hw0 : IntKind.i64.wrap ((m : Int) + 1) = (m : Int) + 1 := by rw [IntKind.wrap_i64]; omega
    have hm1 : (m : Int) + 1 ≤ (s.size : Int) := by omega
    have hm2 : (0 : Int) ≤ (m : Int) + 1 := by omega
    have hm3 : ((m : Int) + 1).toNat = m + 1 := by omega
    have HM := Lib.hid hm
    clear hix hL hs hF hR hm
    go_enter Tryd.func30, Tryd.ntmps30
    go_wp2_with (first | (go_at_call 37; refine (strings_IndexByte.calls s 92 (m : Int) _ HIX.out).mono ?_; rintro e w7 ⟨rfl, ⟨nd7, rfl⟩⟩) | (go_at_call 39; refine (s2b_form (s := s) (m := m) (by have := HS.out; omega) (by have := HM.out; omega)).mono ?_; rintro e w2 ⟨g2, c2, rfl, row2, hmc, hmc', bel2⟩; have ROW2 := Lib.hid row2; have BEL2 := Lib.hid ((pw_below_drewN (Below.refl w.heap.size w) nd7).trans bel2); clear row2 bel2))
    go_loopg [0, 4] ((s.extract (m + 1) s.size).size + 1) (fun kq v0 v4 w' => ∃ (k : Nat) (s' : ByteArray) (xs : List Int) (g0 n0 c0 : Nat), v0 = .string s' ∧ v4 = .slice (some ⟨g0, 0, none⟩) n0 c0 ∧ Hid (BR w' w.heap.size (.slice (some ⟨g0, 0, none⟩) n0 c0) xs) ∧ Hid (Below w.heap.size w w') ∧ Hid (s'.size < k ∧ uL k s' xs = R) ∧ Hid (xs.length + 6 * s'.size ≤ 6 * s.size) ∧ kq = s'.size + 1)
    case atStart => exact ⟨s.size + 1, s.extract (m + 1) s.size, (bytesOf s).take m, _, _, _, rfl, rfl, ROW2, BEL2, Lib.hid ⟨by simp only [ByteArray.size_extract]; omega, HR0.out⟩, Lib.hid (by have := HM.out; simp only [List.length_take, bytesOf_length, ByteArray.size_extract]; omega), rfl⟩
    case round =>
      obtain ⟨k, s', xs, g0, n0, c0, rfl, rfl, HR, HB, HKR, HL0, HK⟩ := hrel
      replace HK := Lib.hid HK
      have HL := Lib.hid (show xs.length + 6 * s'.size ≤ 12884901882 from by have := HS.out; have := HL0.out; omega)
      have HRES := Lib.hid HKR.out.2
      obtain ⟨k, hk0⟩ : ∃ k', k = k' + 1 := ⟨k - 1, by have := HKR.out.1; omega⟩
      subst hk0
      by_cases hz : s'.size = 0
      · have HR9 := Lib.hid (show R = xs from by rw [← HRES.out]; simp only [uL, if_pos hz])
        have hz2 : (s'.size : Int) = 0 := by omega
        have hz3 : decide ((0 : Int) < (s'.size : Int)) = false := decide_eq_false (by omega)
        have hz4 : decide (0 < s'.size) = false := decide_eq_false (by omega)
        go_wp2_with (first | (go_at_call 43; refine (b2s_br HR.out).mono ?_; rintro e w9 ⟨rfl, rfl⟩))
        go_ret
        exact ⟨by rw [HR9.out]; rfl, HB.out⟩
      have HNZ := Lib.hid hz
      have hpos : 0 < s'.size := by omega
      have q : (0 < s'.size) = True := eq_true hpos
      have q1 : 1 ≤ s'.size := hpos
      by_cases hc34 : bt s' 0 = 34
      · have hx : ∀ h : 0 < s'.size, ((s'[0]'h).toNat : Int) = 34 := fun h => (bt0 h).trans hc34
        go_upto_region 10 with (fail)
        obtain ⟨s1, hs1⟩ : ∃ s1, s'.extract 1 s'.size = s1 := ⟨_, rfl⟩
        rw [hs1]
        have hs1z : s1.size + 1 = s'.size := by rw [← hs1, ByteArray.size_extract]; omega
        have HS1 := Lib.hid hs1
        clear hs1
        as_aux_lemma =>
          have HSTEP := Lib.hid (show uStep (bt s' 0) s1 = ([34], s1) from by simp [uStep, hc34])
          obtain ⟨Z, hZ⟩ : ∃ Z, Z = xs ++ [34] := ⟨_, rfl⟩
          have HZ := Lib.hid hZ
          have HZL := Lib.hid (show Z.length ≤ xs.length + 6 from by rw [hZ]; simp)
          clear hZ
          go_upto_region 48 with (first | (at_builtin; refine br_append (w0 := w) w.heap.size rfl (.tmp 39) (.tmp 40) 22 rfl Tryd.underlying22 infoB (.slice (some ⟨g0, 0, none⟩) n0 c0) xs [34] rfl rfl HR.out HB.out HB.out.size (by have := HL.out; simp only [List.length_append, List.length_cons, List.length_nil] at this ⊢; omega) ?_; intro v1 w1 row1 bel1; replace row1 : BR w1 w.heap.size v1 Z := (by rw [HZ.out]; exact row1); obtain ⟨g1, c1, n1, rfl⟩ := br_form row1; have ROW1 := Lib.hid row1; have BEL1 := Lib.hid bel1; clear row1 bel1))
          have hsz : s1.size + 1 ≤ s'.size := by omega
          have HSZ := Lib.hid hsz
          clear hsz
          rcases ix_cases s1 with hix | ⟨n, hix, hn⟩
          · have HI0 := Lib.hid hix
            have HIX := Lib.hid (show strings_IndexByte.f s1 92 = some (-1) from congrArg some hix)
            clear hix
            go_wp2_with (first | (go_at_call 37; refine (strings_IndexByte.calls s1 92 (-1) _ HIX.out).mono ?_; rintro e w7 ⟨rfl, ⟨nd7, rfl⟩⟩) | (at_builtin; refine br_append_str (w0 := w) w.heap.size rfl (.tmp 152) (.tmp 153) 22 9 rfl Tryd.underlying22 Tryd.underlying9 infoB (.slice (some ⟨g1, 0, none⟩) n1 c1) Z s1 rfl rfl (ROW1.out.drewN _) (pw_below_drewN BEL1.out _) (pw_below_drewN BEL1.out _).size (by have h1 := HL.out; have h2 := HZL.out; have h3 := HSZ.out; (try simp only [ByteArray.size_extract]); omega) ?_; intro v8 w8 row8 bel8; obtain ⟨g8, c8, n8, rfl⟩ := br_form row8; have ROW8 := Lib.hid row8; have BEL8 := Lib.hid bel8; clear row8 bel8) | (go_at_call 43; refine (b2s_br ROW8.out).mono ?_; rintro e w9 ⟨rfl, rfl⟩))
            go_ret
            exact ⟨by rw [← HRES.out, uL_done HNZ.out HS1.out HSTEP.out HI0.out, ← HZ.out]; rfl, BEL8.out⟩
          · have HI0 := Lib.hid hix
            have HIX := Lib.hid (show strings_IndexByte.f s1 92 = some (n : Int) from congrArg some hix)
            have hn0 : (0 : Int) ≤ (n : Int) := by omega
            have hns : (n : Int) ≤ (s1.size : Int) := by omega
            have hw1 : IntKind.i64.wrap ((n : Int) + 1) = (n : Int) + 1 := by rw [IntKind.wrap_i64]; have := HL.out; have := HSZ.out; omega
            have hn1 : (n : Int) + 1 ≤ (s1.size : Int) := by omega
            have hn2 : (0 : Int) ≤ (n : Int) + 1 := by omega
            have hn3 : ((n : Int) + 1).toNat = n + 1 := by omega
            have HN := Lib.hid hn
            clear hix hn
            go_wp2_with (first | (go_at_call 37; refine (strings_IndexByte.calls s1 92 (n : Int) _ HIX.out).mono ?_; rintro e w7 ⟨rfl, ⟨nd7, rfl⟩⟩) | (at_builtin; refine br_append_str (w0 := w) w.heap.size rfl (.tmp 155) (.tmp 158) 22 9 rfl Tryd.underlying22 Tryd.underlying9 infoB (.slice (some ⟨g1, 0, none⟩) n1 c1) Z (s1.extract 0 n) rfl rfl (ROW1.out.drewN _) (pw_below_drewN BEL1.out _) (pw_below_drewN BEL1.out _).size (by have h1 := HL.out; have h2 := HZL.out; have h3 := HSZ.out; (try simp only [ByteArray.size_extract]); omega) ?_; intro v8 w8 row8 bel8; obtain ⟨g8, c8, n8, rfl⟩ := br_form row8; have ROW8 := Lib.hid row8; have BEL8 := Lib.hid bel8; clear row8 bel8))
            go_roundg ((s1.extract (n + 1) s1.size).size + 1)
            case measure => have := HSZ.out; have := HK.out; simp only [ByteArray.size_extract]; omega
            case rel => exact ⟨k, (s1.extract (n + 1) s1.size), _, _, _, _, rfl, rfl, ROW8, BEL8, Lib.hid ⟨by have := HSZ.out; have := HKR.out.1; have := HN.out; simp only [ByteArray.size_extract]; omega, by rw [← HRES.out, uL_more HNZ.out HS1.out HSTEP.out HI0.out, ← HZ.out]⟩, Lib.hid (by have := HSZ.out; have := HL0.out; have := HZL.out; have := HN.out; simp only [List.length_append, bytesOf_length, ByteArray.size_extract] at *; omega), rfl⟩
      by_cases hc92 : bt s' 0 = 92
      · have hx : ∀ h : 0 < s'.size, ((s'[0]'h).toNat : Int) = 92 := fun h => (bt0 h).trans hc92
        go_upto_region 10 with (fail)
        obtain ⟨s1, hs1⟩ : ∃ s1, s'.extract 1 s'.size = s1 := ⟨_, rfl⟩
        rw [hs1]
        have hs1z : s1.size + 1 = s'.size := by rw [← hs1, ByteArray.size_extract]; omega
        have HS1 := Lib.hid hs1
        clear hs1
        as_aux_lemma =>
          have HSTEP := Lib.hid (show uStep (bt s' 0) s1 = ([92], s1) from by simp [uStep, hc92])
          obtain ⟨Z, hZ⟩ : ∃ Z, Z = xs ++ [92] := ⟨_, rfl⟩
          have HZ := Lib.hid hZ
          have HZL := Lib.hid (show Z.length ≤ xs.length + 6 from by rw [hZ]; simp)
          clear hZ
          go_upto_region 48 with (first | (at_builtin; refine br_append (w0 := w) w.heap.size rfl (.tmp 44) (.tmp 45) 22 rfl Tryd.underlying22 infoB (.slice (some ⟨g0, 0, none⟩) n0 c0) xs [92] rfl rfl HR.out HB.out HB.out.size (by have := HL.out; simp only [List.length_append, List.length_cons, List.length_nil] at this ⊢; omega) ?_; intro v1 w1 row1 bel1; replace row1 : BR w1 w.heap.size v1 Z := (by rw [HZ.out]; exact row1); obtain ⟨g1, c1, n1, rfl⟩ := br_form row1; have ROW1 := Lib.hid row1; have BEL1 := Lib.hid bel1; clear row1 bel1))
          have hsz : s1.size + 1 ≤ s'.size := by omega
          have HSZ := Lib.hid hsz
          clear hsz
          rcases ix_cases s1 with hix | ⟨n, hix, hn⟩
          · have HI0 := Lib.hid hix
            have HIX := Lib.hid (show strings_IndexByte.f s1 92 = some (-1) from congrArg some hix)
            clear hix
            go_wp2_with (first | (go_at_call 37; refine (strings_IndexByte.calls s1 92 (-1) _ HIX.out).mono ?_; rintro e w7 ⟨rfl, ⟨nd7, rfl⟩⟩) | (at_builtin; refine br_append_str (w0 := w) w.heap.size rfl (.tmp 152) (.tmp 153) 22 9 rfl Tryd.underlying22 Tryd.underlying9 infoB (.slice (some ⟨g1, 0, none⟩) n1 c1) Z s1 rfl rfl (ROW1.out.drewN _) (pw_below_drewN BEL1.out _) (pw_below_drewN BEL1.out _).size (by have h1 := HL.out; have h2 := HZL.out; have h3 := HSZ.out; (try simp only [ByteArray.size_extract]); omega) ?_; intro v8 w8 row8 bel8; obtain ⟨g8, c8, n8, rfl⟩ := br_form row8; have ROW8 := Lib.hid row8; have BEL8 := Lib.hid bel8; clear row8 bel8) | (go_at_call 43; refine (b2s_br ROW8.out).mono ?_; rintro e w9 ⟨rfl, rfl⟩))
            go_ret
            exact ⟨by rw [← HRES.out, uL_done HNZ.out HS1.out HSTEP.out HI0.out, ← HZ.out]; rfl, BEL8.out⟩
          · have HI0 := Lib.hid hix
            have HIX := Lib.hid (show strings_IndexByte.f s1 92 = some (n : Int) from congrArg some hix)
            have hn0 : (0 : Int) ≤ (n : Int) := by omega
            have hns : (n : Int) ≤ (s1.size : Int) := by omega
            have hw1 : IntKind.i64.wrap ((n : Int) + 1) = (n : Int) + 1 := by rw [IntKind.wrap_i64]; have := HL.out; have := HSZ.out; omega
            have hn1 : (n : Int) + 1 ≤ (s1.size : Int) := by omega
            have hn2 : (0 : Int) ≤ (n : Int) + 1 := by omega
            have hn3 : ((n : Int) + 1).toNat = n + 1 := by omega
            have HN := Lib.hid hn
            clear hix hn
            go_wp2_with (first | (go_at_call 37; refine (strings_IndexByte.calls s1 92 (n : Int) _ HIX.out).mono ?_; rintro e w7 ⟨rfl, ⟨nd7, rfl⟩⟩) | (at_builtin; refine br_append_str (w0 := w) w.heap.size rfl (.tmp 155) (.tmp 158) 22 9 rfl Tryd.underlying22 Tryd.underlying9 infoB (.slice (some ⟨g1, 0, none⟩) n1 c1) Z (s1.extract 0 n) rfl rfl (ROW1.out.drewN _) (pw_below_drewN BEL1.out _) (pw_below_drewN BEL1.out _).size (by have h1 := HL.out; have h2 := HZL.out; have h3 := HSZ.out; (try simp only [ByteArray.size_extract]); omega) ?_; intro v8 w8 row8 bel8; obtain ⟨g8, c8, n8, rfl⟩ := br_form row8; have ROW8 := Lib.hid row8; have BEL8 := Lib.hid bel8; clear row8 bel8))
            go_roundg ((s1.extract (n + 1) s1.size).size + 1)
            case measure => have := HSZ.out; have := HK.out; simp only [ByteArray.size_extract]; omega
            case rel => exact ⟨k, (s1.extract (n + 1) s1.size), _, _, _, _, rfl, rfl, ROW8, BEL8, Lib.hid ⟨by have := HSZ.out; have := HKR.out.1; have := HN.out; simp only [ByteArray.size_extract]; omega, by rw [← HRES.out, uL_more HNZ.out HS1.out HSTEP.out HI0.out, ← HZ.out]⟩, Lib.hid (by have := HSZ.out; have := HL0.out; have := HZL.out; have := HN.out; simp only [List.length_append, bytesOf_length, ByteArray.size_extract] at *; omega), rfl⟩
      by_cases hc47 : bt s' 0 = 47
      · have hx : ∀ h : 0 < s'.size, ((s'[0]'h).toNat : Int) = 47 := fun h => (bt0 h).trans hc47
        go_upto_region 10 with (fail)
        obtain ⟨s1, hs1⟩ : ∃ s1, s'.extract 1 s'.size = s1 := ⟨_, rfl⟩
        rw [hs1]
        have hs1z : s1.size + 1 = s'.size := by rw [← hs1, ByteArray.size_extract]; omega
        have HS1 := Lib.hid hs1
        clear hs1
        as_aux_lemma =>
          have HSTEP := Lib.hid (show uStep (bt s' 0) s1 = ([47], s1) from by simp [uStep, hc47])
          obtain ⟨Z, hZ⟩ : ∃ Z, Z = xs ++ [47] := ⟨_, rfl⟩
          have HZ := Lib.hid hZ
          have HZL := Lib.hid (show Z.length ≤ xs.length + 6 from by rw [hZ]; simp)
          clear hZ
          go_upto_region 48 with (first | (at_builtin; refine br_append (w0 := w) w.heap.size rfl (.tmp 49) (.tmp 50) 22 rfl Tryd.underlying22 infoB (.slice (some ⟨g0, 0, none⟩) n0 c0) xs [47] rfl rfl HR.out HB.out HB.out.size (by have := HL.out; simp only [List.length_append, List.length_cons, List.length_nil] at this ⊢; omega) ?_; intro v1 w1 row1 bel1; replace row1 : BR w1 w.heap.size v1 Z := (by rw [HZ.out]; exact row1); obtain ⟨g1, c1, n1, rfl⟩ := br_form row1; have ROW1 := Lib.hid row1; have BEL1 := Lib.hid bel1; clear row1 bel1))
          have hsz : s1.size + 1 ≤ s'.size := by omega
          have HSZ := Lib.hid hsz
          clear hsz
          rcases ix_cases s1 with hix | ⟨n, hix, hn⟩
          · have HI0 := Lib.hid hix
            have HIX := Lib.hid (show strings_IndexByte.f s1 92 = some (-1) from congrArg some hix)
            clear hix
            go_wp2_with (first | (go_at_call 37; refine (strings_IndexByte.calls s1 92 (-1) _ HIX.out).mono ?_; rintro e w7 ⟨rfl, ⟨nd7, rfl⟩⟩) | (at_builtin; refine br_append_str (w0 := w) w.heap.size rfl (.tmp 152) (.tmp 153) 22 9 rfl Tryd.underlying22 Tryd.underlying9 infoB (.slice (some ⟨g1, 0, none⟩) n1 c1) Z s1 rfl rfl (ROW1.out.drewN _) (pw_below_drewN BEL1.out _) (pw_below_drewN BEL1.out _).size (by have h1 := HL.out; have h2 := HZL.out; have h3 := HSZ.out; (try simp only [ByteArray.size_extract]); omega) ?_; intro v8 w8 row8 bel8; obtain ⟨g8, c8, n8, rfl⟩ := br_form row8; have ROW8 := Lib.hid row8; have BEL8 := Lib.hid bel8; clear row8 bel8) | (go_at_call 43; refine (b2s_br ROW8.out).mono ?_; rintro e w9 ⟨rfl, rfl⟩))
            go_ret
            exact ⟨by rw [← HRES.out, uL_done HNZ.out HS1.out HSTEP.out HI0.out, ← HZ.out]; rfl, BEL8.out⟩
          · have HI0 := Lib.hid hix
            have HIX := Lib.hid (show strings_IndexByte.f s1 92 = some (n : Int) from congrArg some hix)
            have hn0 : (0 : Int) ≤ (n : Int) := by omega
            have hns : (n : Int) ≤ (s1.size : Int) := by omega
            have hw1 : IntKind.i64.wrap ((n : Int) + 1) = (n : Int) + 1 := by rw [IntKind.wrap_i64]; have := HL.out; have := HSZ.out; omega
            have hn1 : (n : Int) + 1 ≤ (s1.size : Int) := by omega
            have hn2 : (0 : Int) ≤ (n : Int) + 1 := by omega
            have hn3 : ((n : Int) + 1).toNat = n + 1 := by omega
            have HN := Lib.hid hn
            clear hix hn
            go_wp2_with (first | (go_at_call 37; refine (strings_IndexByte.calls s1 92 (n : Int) _ HIX.out).mono ?_; rintro e w7 ⟨rfl, ⟨nd7, rfl⟩⟩) | (at_builtin; refine br_append_str (w0 := w) w.heap.size rfl (.tmp 155) (.tmp 158) 22 9 rfl Tryd.underlying22 Tryd.underlying9 infoB (.slice (some ⟨g1, 0, none⟩) n1 c1) Z (s1.extract 0 n) rfl rfl (ROW1.out.drewN _) (pw_below_drewN BEL1.out _) (pw_below_drewN BEL1.out _).size (by have h1 := HL.out; have h2 := HZL.out; have h3 := HSZ.out; (try simp only [ByteArray.size_extract]); omega) ?_; intro v8 w8 row8 bel8; obtain ⟨g8, c8, n8, rfl⟩ := br_form row8; have ROW8 := Lib.hid row8; have BEL8 := Lib.hid bel8; clear row8 bel8))
            go_roundg ((s1.extract (n + 1) s1.size).size + 1)
            case measure => have := HSZ.out; have := HK.out; simp only [ByteArray.size_extract]; omega
            case rel => exact ⟨k, (s1.extract (n + 1) s1.size), _, _, _, _, rfl, rfl, ROW8, BEL8, Lib.hid ⟨by have := HSZ.out; have := HKR.out.1; have := HN.out; simp only [ByteArray.size_extract]; omega, by rw [← HRES.out, uL_more HNZ.out HS1.out HSTEP.out HI0.out, ← HZ.out]⟩, Lib.hid (by have := HSZ.out; have := HL0.out; have := HZL.out; have := HN.out; simp only [List.length_append, bytesOf_length, ByteArray.size_extract] at *; omega), rfl⟩
      by_cases hc98 : bt s' 0 = 98
      · have hx : ∀ h : 0 < s'.size, ((s'[0]'h).toNat : Int) = 98 := fun h => (bt0 h).trans hc98
        go_upto_region 10 with (fail)
        obtain ⟨s1, hs1⟩ : ∃ s1, s'.extract 1 s'.size = s1 := ⟨_, rfl⟩
        rw [hs1]
        have hs1z : s1.size + 1 = s'.size := by rw [← hs1, ByteArray.size_extract]; omega
        have HS1 := Lib.hid hs1
        clear hs1
        as_aux_lemma =>
          have HSTEP := Lib.hid (show uStep (bt s' 0) s1 = ([8], s1) from by simp [uStep, hc98])
          obtain ⟨Z, hZ⟩ : ∃ Z, Z = xs ++ [8] := ⟨_, rfl⟩
          have HZ := Lib.hid hZ
          have HZL := Lib.hid (show Z.length ≤ xs.length + 6 from by rw [hZ]; simp)
          clear hZ
          go_upto_region 48 with (first | (at_builtin; refine br_append (w0 := w) w.heap.size rfl (.tmp 54) (.tmp 55) 22 rfl Tryd.underlying22 infoB (.slice (some ⟨g0, 0, none⟩) n0 c0) xs [8] rfl rfl HR.out HB.out HB.out.size (by have := HL.out; simp only [List.length_append, List.length_cons, List.length_nil] at this ⊢; omega) ?_; intro v1 w1 row1 bel1; replace row1 : BR w1 w.heap.size v1 Z := (by rw [HZ.out]; exact row1); obtain ⟨g1, c1, n1, rfl⟩ := br_form row1; have ROW1 := Lib.hid row1; have BEL1 := Lib.hid bel1; clear row1 bel1))
          have hsz : s1.size + 1 ≤ s'.size := by omega
          have HSZ := Lib.hid hsz
          clear hsz
          rcases ix_cases s1 with hix | ⟨n, hix, hn⟩
          · have HI0 := Lib.hid hix
            have HIX := Lib.hid (show strings_IndexByte.f s1 92 = some (-1) from congrArg some hix)
            clear hix
            go_wp2_with (first | (go_at_call 37; refine (strings_IndexByte.calls s1 92 (-1) _ HIX.out).mono ?_; rintro e w7 ⟨rfl, ⟨nd7, rfl⟩⟩) | (at_builtin; refine br_append_str (w0 := w) w.heap.size rfl (.tmp 152) (.tmp 153) 22 9 rfl Tryd.underlying22 Tryd.underlying9 infoB (.slice (some ⟨g1, 0, none⟩) n1 c1) Z s1 rfl rfl (ROW1.out.drewN _) (pw_below_drewN BEL1.out _) (pw_below_drewN BEL1.out _).size (by have h1 := HL.out; have h2 := HZL.out; have h3 := HSZ.out; (try simp only [ByteArray.size_extract]); omega) ?_; intro v8 w8 row8 bel8; obtain ⟨g8, c8, n8, rfl⟩ := br_form row8; have ROW8 := Lib.hid row8; have BEL8 := Lib.hid bel8; clear row8 bel8) | (go_at_call 43; refine (b2s_br ROW8.out).mono ?_; rintro e w9 ⟨rfl, rfl⟩))
            go_ret
            exact ⟨by rw [← HRES.out, uL_done HNZ.out HS1.out HSTEP.out HI0.out, ← HZ.out]; rfl, BEL8.out⟩
          · have HI0 := Lib.hid hix
            have HIX := Lib.hid (show strings_IndexByte.f s1 92 = some (n : Int) from congrArg some hix)
            have hn0 : (0 : Int) ≤ (n : Int) := by omega
            have hns : (n : Int) ≤ (s1.size : Int) := by omega
            have hw1 : IntKind.i64.wrap ((n : Int) + 1) = (n : Int) + 1 := by rw [IntKind.wrap_i64]; have := HL.out; have := HSZ.out; omega
            have hn1 : (n : Int) + 1 ≤ (s1.size : Int) := by omega
            have hn2 : (0 : Int) ≤ (n : Int) + 1 := by omega
            have hn3 : ((n : Int) + 1).toNat = n + 1 := by omega
            have HN := Lib.hid hn
            clear hix hn
            go_wp2_with (first | (go_at_call 37; refine (strings_IndexByte.calls s1 92 (n : Int) _ HIX.out).mono ?_; rintro e w7 ⟨rfl, ⟨nd7, rfl⟩⟩) | (at_builtin; refine br_append_str (w0 := w) w.heap.size rfl (.tmp 155) (.tmp 158) 22 9 rfl Tryd.underlying22 Tryd.underlying9 infoB (.slice (some ⟨g1, 0, none⟩) n1 c1) Z (s1.extract 0 n) rfl rfl (ROW1.out.drewN _) (pw_below_drewN BEL1.out _) (pw_below_drewN BEL1.out _).size (by have h1 := HL.out; have h2 := HZL.out; have h3 := HSZ.out; (try simp only [ByteArray.size_extract]); omega) ?_; intro v8 w8 row8 bel8; obtain ⟨g8, c8, n8, rfl⟩ := br_form row8; have ROW8 := Lib.hid row8; have BEL8 := Lib.hid bel8; clear row8 bel8))
            go_roundg ((s1.extract (n + 1) s1.size).size + 1)
            case measure => have := HSZ.out; have := HK.out; simp only [ByteArray.size_extract]; omega
            case rel => exact ⟨k, (s1.extract (n + 1) s1.size), _, _, _, _, rfl, rfl, ROW8, BEL8, Lib.hid ⟨by have := HSZ.out; have := HKR.out.1; have := HN.out; simp only [ByteArray.size_extract]; omega, by rw [← HRES.out, uL_more HNZ.out HS1.out HSTEP.out HI0.out, ← HZ.out]⟩, Lib.hid (by have := HSZ.out; have := HL0.out; have := HZL.out; have := HN.out; simp only [List.length_append, bytesOf_length, ByteArray.size_extract] at *; omega), rfl⟩
      by_cases hc102 : bt s' 0 = 102
      · have hx : ∀ h : 0 < s'.size, ((s'[0]'h).toNat : Int) = 102 := fun h => (bt0 h).trans hc102
        go_upto_region 10 with (fail)
        obtain ⟨s1, hs1⟩ : ∃ s1, s'.extract 1 s'.size = s1 := ⟨_, rfl⟩
        rw [hs1]
        have hs1z : s1.size + 1 = s'.size := by rw [← hs1, ByteArray.size_extract]; omega
        have HS1 := Lib.hid hs1
        clear hs1
        as_aux_lemma =>
          have HSTEP := Lib.hid (show uStep (bt s' 0) s1 = ([12], s1) from by simp [uStep, hc102])
          obtain ⟨Z, hZ⟩ : ∃ Z, Z = xs ++ [12] := ⟨_, rfl⟩
          have HZ := Lib.hid hZ
          have HZL := Lib.hid (show Z.length ≤ xs.length + 6 from by rw [hZ]; simp)
          clear hZ
          go_upto_region 48 with (first | (at_builtin; refine br_append (w0 := w) w.heap.size rfl (.tmp 59) (.tmp 60) 22 rfl Tryd.underlying22 infoB (.slice (some ⟨g0, 0, none⟩) n0 c0) xs [12] rfl rfl HR.out HB.out HB.out.size (by have := HL.out; simp only [List.length_append, List.length_cons, List.length_nil] at this ⊢; omega) ?_; intro v1 w1 row1 bel1; replace row1 : BR w1 w.heap.size v1 Z := (by rw [HZ.out]; exact row1); obtain ⟨g1, c1, n1, rfl⟩ := br_form row1; have ROW1 := Lib.hid row1; have BEL1 := Lib.hid bel1; clear row1 bel1))
          have hsz : s1.size + 1 ≤ s'.size := by omega
          have HSZ := Lib.hid hsz
          clear hsz
          rcases ix_cases s1 with hix | ⟨n, hix, hn⟩
          · have HI0 := Lib.hid hix
            have HIX := Lib.hid (show strings_IndexByte.f s1 92 = some (-1) from congrArg some hix)
            clear hix
            go_wp2_with (first | (go_at_call 37; refine (strings_IndexByte.calls s1 92 (-1) _ HIX.out).mono ?_; rintro e w7 ⟨rfl, ⟨nd7, rfl⟩⟩) | (at_builtin; refine br_append_str (w0 := w) w.heap.size rfl (.tmp 152) (.tmp 153) 22 9 rfl Tryd.underlying22 Tryd.underlying9 infoB (.slice (some ⟨g1, 0, none⟩) n1 c1) Z s1 rfl rfl (ROW1.out.drewN _) (pw_below_drewN BEL1.out _) (pw_below_drewN BEL1.out _).size (by have h1 := HL.out; have h2 := HZL.out; have h3 := HSZ.out; (try simp only [ByteArray.size_extract]); omega) ?_; intro v8 w8 row8 bel8; obtain ⟨g8, c8, n8, rfl⟩ := br_form row8; have ROW8 := Lib.hid row8; have BEL8 := Lib.hid bel8; clear row8 bel8) | (go_at_call 43; refine (b2s_br ROW8.out).mono ?_; rintro e w9 ⟨rfl, rfl⟩))
            go_ret
            exact ⟨by rw [← HRES.out, uL_done HNZ.out HS1.out HSTEP.out HI0.out, ← HZ.out]; rfl, BEL8.out⟩
          · have HI0 := Lib.hid hix
            have HIX := Lib.hid (show strings_IndexByte.f s1 92 = some (n : Int) from congrArg some hix)
            have hn0 : (0 : Int) ≤ (n : Int) := by omega
            have hns : (n : Int) ≤ (s1.size : Int) := by omega
            have hw1 : IntKind.i64.wrap ((n : Int) + 1) = (n : Int) + 1 := by rw [IntKind.wrap_i64]; have := HL.out; have := HSZ.out; omega
            have hn1 : (n : Int) + 1 ≤ (s1.size : Int) := by omega
            have hn2 : (0 : Int) ≤ (n : Int) + 1 := by omega
            have hn3 : ((n : Int) + 1).toNat = n + 1 := by omega
            have HN := Lib.hid hn
            clear hix hn
            go_wp2_with (first | (go_at_call 37; refine (strings_IndexByte.calls s1 92 (n : Int) _ HIX.out).mono ?_; rintro e w7 ⟨rfl, ⟨nd7, rfl⟩⟩) | (at_builtin; refine br_append_str (w0 := w) w.heap.size rfl (.tmp 155) (.tmp 158) 22 9 rfl Tryd.underlying22 Tryd.underlying9 infoB (.slice (some ⟨g1, 0, none⟩) n1 c1) Z (s1.extract 0 n) rfl rfl (ROW1.out.drewN _) (pw_below_drewN BEL1.out _) (pw_below_drewN BEL1.out _).size (by have h1 := HL.out; have h2 := HZL.out; have h3 := HSZ.out; (try simp only [ByteArray.size_extract]); omega) ?_; intro v8 w8 row8 bel8; obtain ⟨g8, c8, n8, rfl⟩ := br_form row8; have ROW8 := Lib.hid row8; have BEL8 := Lib.hid bel8; clear row8 bel8))
            go_roundg ((s1.extract (n + 1) s1.size).size + 1)
            case measure => have := HSZ.out; have := HK.out; simp only [ByteArray.size_extract]; omega
            case rel => exact ⟨k, (s1.extract (n + 1) s1.size), _, _, _, _, rfl, rfl, ROW8, BEL8, Lib.hid ⟨by have := HSZ.out; have := HKR.out.1; have := HN.out; simp only [ByteArray.size_extract]; omega, by rw [← HRES.out, uL_more HNZ.out HS1.out HSTEP.out HI0.out, ← HZ.out]⟩, Lib.hid (by have := HSZ.out; have := HL0.out; have := HZL.out; have := HN.out; simp only [List.length_append, bytesOf_length, ByteArray.size_extract] at *; omega), rfl⟩
      by_cases hc110 : bt s' 0 = 110
      · have hx : ∀ h : 0 < s'.size, ((s'[0]'h).toNat : Int) = 110 := fun h => (bt0 h).trans hc110
        go_upto_region 10 with (fail)
        obtain ⟨s1, hs1⟩ : ∃ s1, s'.extract 1 s'.size = s1 := ⟨_, rfl⟩
        rw [hs1]
        have hs1z : s1.size + 1 = s'.size := by rw [← hs1, ByteArray.size_extract]; omega
        have HS1 := Lib.hid hs1
        clear hs1
        as_aux_lemma =>
          have HSTEP := Lib.hid (show uStep (bt s' 0) s1 = ([10], s1) from by simp [uStep, hc110])
          obtain ⟨Z, hZ⟩ : ∃ Z, Z = xs ++ [10] := ⟨_, rfl⟩
          have HZ := Lib.hid hZ
          have HZL := Lib.hid (show Z.length ≤ xs.length + 6 from by rw [hZ]; simp)
          clear hZ
          go_upto_region 48 with (first | (at_builtin; refine br_append (w0 := w) w.heap.size rfl (.tmp 64) (.tmp 65) 22 rfl Tryd.underlying22 infoB (.slice (some ⟨g0, 0, none⟩) n0 c0) xs [10] rfl rfl HR.out HB.out HB.out.size (by have := HL.out; simp only [List.length_append, List.length_cons, List.length_nil] at this ⊢; omega) ?_; intro v1 w1 row1 bel1; replace row1 : BR w1 w.heap.size v1 Z := (by rw [HZ.out]; exact row1); obtain ⟨g1, c1, n1, rfl⟩ := br_form row1; have ROW1 := Lib.hid row1; have BEL1 := Lib.hid bel1; clear row1 bel1))
          have hsz : s1.size + 1 ≤ s'.size := by omega
          have HSZ := Lib.hid hsz
          clear hsz
          rcases ix_cases s1 with hix | ⟨n, hix, hn⟩
          · have HI0 := Lib.hid hix
            have HIX := Lib.hid (show strings_IndexByte.f s1 92 = some (-1) from congrArg some hix)
            clear hix
            go_wp2_with (first | (go_at_call 37; refine (strings_IndexByte.calls s1 92 (-1) _ HIX.out).mono ?_; rintro e w7 ⟨rfl, ⟨nd7, rfl⟩⟩) | (at_builtin; refine br_append_str (w0 := w) w.heap.size rfl (.tmp 152) (.tmp 153) 22 9 rfl Tryd.underlying22 Tryd.underlying9 infoB (.slice (some ⟨g1, 0, none⟩) n1 c1) Z s1 rfl rfl (ROW1.out.drewN _) (pw_below_drewN BEL1.out _) (pw_below_drewN BEL1.out _).size (by have h1 := HL.out; have h2 := HZL.out; have h3 := HSZ.out; (try simp only [ByteArray.size_extract]); omega) ?_; intro v8 w8 row8 bel8; obtain ⟨g8, c8, n8, rfl⟩ := br_form row8; have ROW8 := Lib.hid row8; have BEL8 := Lib.hid bel8; clear row8 bel8) | (go_at_call 43; refine (b2s_br ROW8.out).mono ?_; rintro e w9 ⟨rfl, rfl⟩))
            go_ret
            exact ⟨by rw [← HRES.out, uL_done HNZ.out HS1.out HSTEP.out HI0.out, ← HZ.out]; rfl, BEL8.out⟩
          · have HI0 := Lib.hid hix
            have HIX := Lib.hid (show strings_IndexByte.f s1 92 = some (n : Int) from congrArg some hix)
            have hn0 : (0 : Int) ≤ (n : Int) := by omega
            have hns : (n : Int) ≤ (s1.size : Int) := by omega
            have hw1 : IntKind.i64.wrap ((n : Int) + 1) = (n : Int) + 1 := by rw [IntKind.wrap_i64]; have := HL.out; have := HSZ.out; omega
            have hn1 : (n : Int) + 1 ≤ (s1.size : Int) := by omega
            have hn2 : (0 : Int) ≤ (n : Int) + 1 := by omega
            have hn3 : ((n : Int) + 1).toNat = n + 1 := by omega
            have HN := Lib.hid hn
            clear hix hn
            go_wp2_with (first | (go_at_call 37; refine (strings_IndexByte.calls s1 92 (n : Int) _ HIX.out).mono ?_; rintro e w7 ⟨rfl, ⟨nd7, rfl⟩⟩) | (at_builtin; refine br_append_str (w0 := w) w.heap.size rfl (.tmp 155) (.tmp 158) 22 9 rfl Tryd.underlying22 Tryd.underlying9 infoB (.slice (some ⟨g1, 0, none⟩) n1 c1) Z (s1.extract 0 n) rfl rfl (ROW1.out.drewN _) (pw_below_drewN BEL1.out _) (pw_below_drewN BEL1.out _).size (by have h1 := HL.out; have h2 := HZL.out; have h3 := HSZ.out; (try simp only [ByteArray.size_extract]); omega) ?_; intro v8 w8 row8 bel8; obtain ⟨g8, c8, n8, rfl⟩ := br_form row8; have ROW8 := Lib.hid row8; have BEL8 := Lib.hid bel8; clear row8 bel8))
            go_roundg ((s1.extract (n + 1) s1.size).size + 1)
            case measure => have := HSZ.out; have := HK.out; simp only [ByteArray.size_extract]; omega
            case rel => exact ⟨k, (s1.extract (n + 1) s1.size), _, _, _, _, rfl, rfl, ROW8, BEL8, Lib.hid ⟨by have := HSZ.out; have := HKR.out.1; have := HN.out; simp only [ByteArray.size_extract]; omega, by rw [← HRES.out, uL_more HNZ.out HS1.out HSTEP.out HI0.out, ← HZ.out]⟩, Lib.hid (by have := HSZ.out; have := HL0.out; have := HZL.out; have := HN.out; simp only [List.length_append, bytesOf_length, ByteArray.size_extract] at *; omega), rfl⟩
      by_cases hc114 : bt s' 0 = 114
      · have hx : ∀ h : 0 < s'.size, ((s'[0]'h).toNat : Int) = 114 := fun h => (bt0 h).trans hc114
        go_upto_region 10 with (fail)
        obtain ⟨s1, hs1⟩ : ∃ s1, s'.extract 1 s'.size = s1 := ⟨_, rfl⟩
        rw [hs1]
        have hs1z : s1.size + 1 = s'.size := by rw [← hs1, ByteArray.size_extract]; omega
        have HS1 := Lib.hid hs1
        clear hs1
        as_aux_lemma =>
          have HSTEP := Lib.hid (show uStep (bt s' 0) s1 = ([13], s1) from by simp [uStep, hc114])
          obtain ⟨Z, hZ⟩ : ∃ Z, Z = xs ++ [13] := ⟨_, rfl⟩
          have HZ := Lib.hid hZ
          have HZL := Lib.hid (show Z.length ≤ xs.length + 6 from by rw [hZ]; simp)
          clear hZ
          go_upto_region 48 with (first | (at_builtin; refine br_append (w0 := w) w.heap.size rfl (.tmp 69) (.tmp 70) 22 rfl Tryd.underlying22 infoB (.slice (some ⟨g0, 0, none⟩) n0 c0) xs [13] rfl rfl HR.out HB.out HB.out.size (by have := HL.out; simp only [List.length_append, List.length_cons, List.length_nil] at this ⊢; omega) ?_; intro v1 w1 row1 bel1; replace row1 : BR w1 w.heap.size v1 Z := (by rw [HZ.out]; exact row1); obtain ⟨g1, c1, n1, rfl⟩ := br_form row1; have ROW1 := Lib.hid row1; have BEL1 := Lib.hid bel1; clear row1 bel1))
          have hsz : s1.size + 1 ≤ s'.size := by omega
          have HSZ := Lib.hid hsz
          clear hsz
          rcases ix_cases s1 with hix | ⟨n, hix, hn⟩
          · have HI0 := Lib.hid hix
            have HIX := Lib.hid (show strings_IndexByte.f s1 92 = some (-1) from congrArg some hix)
            clear hix
            go_wp2_with (first | (go_at_call 37; refine (strings_IndexByte.calls s1 92 (-1) _ HIX.out).mono ?_; rintro e w7 ⟨rfl, ⟨nd7, rfl⟩⟩) | (at_builtin; refine br_append_str (w0 := w) w.heap.size rfl (.tmp 152) (.tmp 153) 22 9 rfl Tryd.underlying22 Tryd.underlying9 infoB (.slice (some ⟨g1, 0, none⟩) n1 c1) Z s1 rfl rfl (ROW1.out.drewN _) (pw_below_drewN BEL1.out _) (pw_below_drewN BEL1.out _).size (by have h1 := HL.out; have h2 := HZL.out; have h3 := HSZ.out; (try simp only [ByteArray.size_extract]); omega) ?_; intro v8 w8 row8 bel8; obtain ⟨g8, c8, n8, rfl⟩ := br_form row8; have ROW8 := Lib.hid row8; have BEL8 := Lib.hid bel8; clear row8 bel8) | (go_at_call 43; refine (b2s_br ROW8.out).mono ?_; rintro e w9 ⟨rfl, rfl⟩))
            go_ret
            exact ⟨by rw [← HRES.out, uL_done HNZ.out HS1.out HSTEP.out HI0.out, ← HZ.out]; rfl, BEL8.out⟩
          · have HI0 := Lib.hid hix
            have HIX := Lib.hid (show strings_IndexByte.f s1 92 = some (n : Int) from congrArg some hix)
            have hn0 : (0 : Int) ≤ (n : Int) := by omega
            have hns : (n : Int) ≤ (s1.size : Int) := by omega
            have hw1 : IntKind.i64.wrap ((n : Int) + 1) = (n : Int) + 1 := by rw [IntKind.wrap_i64]; have := HL.out; have := HSZ.out; omega
            have hn1 : (n : Int) + 1 ≤ (s1.size : Int) := by omega
            have hn2 : (0 : Int) ≤ (n : Int) + 1 := by omega
            have hn3 : ((n : Int) + 1).toNat = n + 1 := by omega
            have HN := Lib.hid hn
            clear hix hn
            go_wp2_with (first | (go_at_call 37; refine (strings_IndexByte.calls s1 92 (n : Int) _ HIX.out).mono ?_; rintro e w7 ⟨rfl, ⟨nd7, rfl⟩⟩) | (at_builtin; refine br_append_str (w0 := w) w.heap.size rfl (.tmp 155) (.tmp 158) 22 9 rfl Tryd.underlying22 Tryd.underlying9 infoB (.slice (some ⟨g1, 0, none⟩) n1 c1) Z (s1.extract 0 n) rfl rfl (ROW1.out.drewN _) (pw_below_drewN BEL1.out _) (pw_below_drewN BEL1.out _).size (by have h1 := HL.out; have h2 := HZL.out; have h3 := HSZ.out; (try simp only [ByteArray.size_extract]); omega) ?_; intro v8 w8 row8 bel8; obtain ⟨g8, c8, n8, rfl⟩ := br_form row8; have ROW8 := Lib.hid row8; have BEL8 := Lib.hid bel8; clear row8 bel8))
            go_roundg ((s1.extract (n + 1) s1.size).size + 1)
            case measure => have := HSZ.out; have := HK.out; simp only [ByteArray.size_extract]; omega
            case rel => exact ⟨k, (s1.extract (n + 1) s1.size), _, _, _, _, rfl, rfl, ROW8, BEL8, Lib.hid ⟨by have := HSZ.out; have := HKR.out.1; have := HN.out; simp only [ByteArray.size_extract]; omega, by rw [← HRES.out, uL_more HNZ.out HS1.out HSTEP.out HI0.out, ← HZ.out]⟩, Lib.hid (by have := HSZ.out; have := HL0.out; have := HZL.out; have := HN.out; simp only [List.length_append, bytesOf_length, ByteArray.size_extract] at *; omega), rfl⟩
      by_cases hc116 : bt s' 0 = 116
      · have hx : ∀ h : 0 < s'.size, ((s'[0]'h).toNat : Int) = 116 := fun h => (bt0 h).trans hc116
        go_upto_region 10 with (fail)
        obtain ⟨s1, hs1⟩ : ∃ s1, s'.extract 1 s'.size = s1 := ⟨_, rfl⟩
        rw [hs1]
        have hs1z : s1.size + 1 = s'.size := by rw [← hs1, ByteArray.size_extract]; omega
        have HS1 := Lib.hid hs1
        clear hs1
        as_aux_lemma =>
          have HSTEP := Lib.hid (show uStep (bt s' 0) s1 = ([9], s1) from by simp [uStep, hc116])
          obtain ⟨Z, hZ⟩ : ∃ Z, Z = xs ++ [9] := ⟨_, rfl⟩
          have HZ := Lib.hid hZ
          have HZL := Lib.hid (show Z.length ≤ xs.length + 6 from by rw [hZ]; simp)
          clear hZ
          go_upto_region 48 with (first | (at_builtin; refine br_append (w0 := w) w.heap.size rfl (.tmp 74) (.tmp 75) 22 rfl Tryd.underlying22 infoB (.slice (some ⟨g0, 0, none⟩) n0 c0) xs [9] rfl rfl HR.out HB.out HB.out.size (by have := HL.out; simp only [List.length_append, List.length_cons, List.length_nil] at this ⊢; omega) ?_; intro v1 w1 row1 bel1; replace row1 : BR w1 w.heap.size v1 Z := (by rw [HZ.out]; exact row1); obtain ⟨g1, c1, n1, rfl⟩ := br_form row1; have ROW1 := Lib.hid row1; have BEL1 := Lib.hid bel1; clear row1 bel1))
          have hsz : s1.size + 1 ≤ s'.size := by omega
          have HSZ := Lib.hid hsz
          clear hsz
          rcases ix_cases s1 with hix | ⟨n, hix, hn⟩
          · have HI0 := Lib.hid hix
            have HIX := Lib.hid (show strings_IndexByte.f s1 92 = some (-1) from congrArg some hix)
            clear hix
            go_wp2_with (first | (go_at_call 37; refine (strings_IndexByte.calls s1 92 (-1) _ HIX.out).mono ?_; rintro e w7 ⟨rfl, ⟨nd7, rfl⟩⟩) | (at_builtin; refine br_append_str (w0 := w) w.heap.size rfl (.tmp 152) (.tmp 153) 22 9 rfl Tryd.underlying22 Tryd.underlying9 infoB (.slice (some ⟨g1, 0, none⟩) n1 c1) Z s1 rfl rfl (ROW1.out.drewN _) (pw_below_drewN BEL1.out _) (pw_below_drewN BEL1.out _).size (by have h1 := HL.out; have h2 := HZL.out; have h3 := HSZ.out; (try simp only [ByteArray.size_extract]); omega) ?_; intro v8 w8 row8 bel8; obtain ⟨g8, c8, n8, rfl⟩ := br_form row8; have ROW8 := Lib.hid row8; have BEL8 := Lib.hid bel8; clear row8 bel8) | (go_at_call 43; refine (b2s_br ROW8.out).mono ?_; rintro e w9 ⟨rfl, rfl⟩))
            go_ret
            exact ⟨by rw [← HRES.out, uL_done HNZ.out HS1.out HSTEP.out HI0.out, ← HZ.out]; rfl, BEL8.out⟩
          · have HI0 := Lib.hid hix
            have HIX := Lib.hid (show strings_IndexByte.f s1 92 = some (n : Int) from congrArg some hix)
            have hn0 : (0 : Int) ≤ (n : Int) := by omega
            have hns : (n : Int) ≤ (s1.size : Int) := by omega
            have hw1 : IntKind.i64.wrap ((n : Int) + 1) = (n : Int) + 1 := by rw [IntKind.wrap_i64]; have := HL.out; have := HSZ.out; omega
            have hn1 : (n : Int) + 1 ≤ (s1.size : Int) := by omega
            have hn2 : (0 : Int) ≤ (n : Int) + 1 := by omega
            have hn3 : ((n : Int) + 1).toNat = n + 1 := by omega
            have HN := Lib.hid hn
            clear hix hn
            go_wp2_with (first | (go_at_call 37; refine (strings_IndexByte.calls s1 92 (n : Int) _ HIX.out).mono ?_; rintro e w7 ⟨rfl, ⟨nd7, rfl⟩⟩) | (at_builtin; refine br_append_str (w0 := w) w.heap.size rfl (.tmp 155) (.tmp 158) 22 9 rfl Tryd.underlying22 Tryd.underlying9 infoB (.slice (some ⟨g1, 0, none⟩) n1 c1) Z (s1.extract 0 n) rfl rfl (ROW1.out.drewN _) (pw_below_drewN BEL1.out _) (pw_below_drewN BEL1.out _).size (by have h1 := HL.out; have h2 := HZL.out; have h3 := HSZ.out; (try simp only [ByteArray.size_extract]); omega) ?_; intro v8 w8 row8 bel8; obtain ⟨g8, c8, n8, rfl⟩ := br_form row8; have ROW8 := Lib.hid row8; have BEL8 := Lib.hid bel8; clear row8 bel8))
            go_roundg ((s1.extract (n + 1) s1.size).size + 1)
            case measure => have := HSZ.out; have := HK.out; simp only [ByteArray.size_extract]; omega
            case rel => exact ⟨k, (s1.extract (n + 1) s1.size), _, _, _, _, rfl, rfl, ROW8, BEL8, Lib.hid ⟨by have := HSZ.out; have := HKR.out.1; have := HN.out; simp only [ByteArray.size_extract]; omega, by rw [← HRES.out, uL_more HNZ.out HS1.out HSTEP.out HI0.out, ← HZ.out]⟩, Lib.hid (by have := HSZ.out; have := HL0.out; have := HZL.out; have := HN.out; simp only [List.length_append, bytesOf_length, ByteArray.size_extract] at *; omega), rfl⟩
      by_cases hc117 : bt s' 0 = 117
      · have hx : ∀ h : 0 < s'.size, ((s'[0]'h).toNat : Int) = 117 := fun h => (bt0 h).trans hc117
        go_upto_region 10 with (fail)
        obtain ⟨s1, hs1⟩ : ∃ s1, s'.extract 1 s'.size = s1 := ⟨_, rfl⟩
        rw [hs1]
        have hs1z : s1.size + 1 = s'.size := by rw [← hs1, ByteArray.size_extract]; omega
        have HS1 := Lib.hid hs1
        clear hs1
        by_cases h4 : s1.size < 4
        · have d4 : decide ((s1.size : Int) < 4) = true := decide_eq_true (by omega)
          have d4' : decide (s1.size < 4) = true := decide_eq_true h4
          as_aux_lemma =>
            have HSTEP := Lib.hid (show uStep (bt s' 0) s1 = ([92, 117], s1) from by simp only [uStep]; rw [if_neg (by omega), if_neg (by omega), if_neg (by omega), if_neg (by omega), if_neg (by omega), if_neg (by omega), if_neg (by omega), if_neg (by omega), if_pos hc117]; unfold uHex; rw [if_pos h4])
            obtain ⟨Z, hZ⟩ : ∃ Z, Z = xs ++ [92, 117] := ⟨_, rfl⟩
            have HZ := Lib.hid hZ
            have HZL := Lib.hid (show Z.length ≤ xs.length + 6 from by rw [hZ]; simp)
            clear hZ
            go_upto_region 48 with (first | (at_builtin; refine br_append_str (w0 := w) w.heap.size rfl (.tmp 82) (.const (.string ⟨#[92, 117]⟩)) 22 9 rfl Tryd.underlying22 Tryd.underlying9 infoB (.slice (some ⟨g0, 0, none⟩) n0 c0) xs (⟨#[92, 117]⟩ : ByteArray) rfl rfl (HR.out) (HB.out) (HB.out).size (by show xs.length + 2 ≤ 140737488355328; have := HL.out; omega) ?_; intro v1 w1 row1 bel1; replace row1 : BR w1 w.heap.size v1 Z := (by rw [HZ.out]; exact row1); obtain ⟨g1, c1, n1, rfl⟩ := br_form row1; have ROW1 := Lib.hid row1; have BEL1 := Lib.hid bel1; clear row1 bel1))
            have hsz : s1.size + 1 ≤ s'.size := by omega
            have HSZ := Lib.hid hsz
            clear hsz
            rcases ix_cases s1 with hix | ⟨n, hix, hn⟩
            · have HI0 := Lib.hid hix
              have HIX := Lib.hid (show strings_IndexByte.f s1 92 = some (-1) from congrArg some hix)
              clear hix
              go_wp2_with (first | (go_at_call 37; refine (strings_IndexByte.calls s1 92 (-1) _ HIX.out).mono ?_; rintro e w7 ⟨rfl, ⟨nd7, rfl⟩⟩) | (at_builtin; refine br_append_str (w0 := w) w.heap.size rfl (.tmp 152) (.tmp 153) 22 9 rfl Tryd.underlying22 Tryd.underlying9 infoB (.slice (some ⟨g1, 0, none⟩) n1 c1) Z s1 rfl rfl (ROW1.out.drewN _) (pw_below_drewN BEL1.out _) (pw_below_drewN BEL1.out _).size (by have h1 := HL.out; have h2 := HZL.out; have h3 := HSZ.out; (try simp only [ByteArray.size_extract]); omega) ?_; intro v8 w8 row8 bel8; obtain ⟨g8, c8, n8, rfl⟩ := br_form row8; have ROW8 := Lib.hid row8; have BEL8 := Lib.hid bel8; clear row8 bel8) | (go_at_call 43; refine (b2s_br ROW8.out).mono ?_; rintro e w9 ⟨rfl, rfl⟩))
              go_ret
              exact ⟨by rw [← HRES.out, uL_done HNZ.out HS1.out HSTEP.out HI0.out, ← HZ.out]; rfl, BEL8.out⟩
            · have HI0 := Lib.hid hix
              have HIX := Lib.hid (show strings_IndexByte.f s1 92 = some (n : Int) from congrArg some hix)
              have hn0 : (0 : Int) ≤ (n : Int) := by omega
              have hns : (n : Int) ≤ (s1.size : Int) := by omega
              have hw1 : IntKind.i64.wrap ((n : Int) + 1) = (n : Int) + 1 := by rw [IntKind.wrap_i64]; have := HL.out; have := HSZ.out; omega
              have hn1 : (n : Int) + 1 ≤ (s1.size : Int) := by omega
              have hn2 : (0 : Int) ≤ (n : Int) + 1 := by omega
              have hn3 : ((n : Int) + 1).toNat = n + 1 := by omega
              have HN := Lib.hid hn
              clear hix hn
              go_wp2_with (first | (go_at_call 37; refine (strings_IndexByte.calls s1 92 (n : Int) _ HIX.out).mono ?_; rintro e w7 ⟨rfl, ⟨nd7, rfl⟩⟩) | (at_builtin; refine br_append_str (w0 := w) w.heap.size rfl (.tmp 155) (.tmp 158) 22 9 rfl Tryd.underlying22 Tryd.underlying9 infoB (.slice (some ⟨g1, 0, none⟩) n1 c1) Z (s1.extract 0 n) rfl rfl (ROW1.out.drewN _) (pw_below_drewN BEL1.out _) (pw_below_drewN BEL1.out _).size (by have h1 := HL.out; have h2 := HZL.out; have h3 := HSZ.out; (try simp only [ByteArray.size_extract]); omega) ?_; intro v8 w8 row8 bel8; obtain ⟨g8, c8, n8, rfl⟩ := br_form row8; have ROW8 := Lib.hid row8; have BEL8 := Lib.hid bel8; clear row8 bel8))
              go_roundg ((s1.extract (n + 1) s1.size).size + 1)
              case measure => have := HSZ.out; have := HK.out; simp only [ByteArray.size_extract]; omega
              case rel => exact ⟨k, (s1.extract (n + 1) s1.size), _, _, _, _, rfl, rfl, ROW8, BEL8, Lib.hid ⟨by have := HSZ.out; have := HKR.out.1; have := HN.out; simp only [ByteArray.size_extract]; omega, by rw [← HRES.out, uL_more HNZ.out HS1.out HSTEP.out HI0.out, ← HZ.out]⟩, Lib.hid (by have := HSZ.out; have := HL0.out; have := HZL.out; have := HN.out; simp only [List.length_append, bytesOf_length, ByteArray.size_extract] at *; omega), rfl⟩
        have d4 : decide ((s1.size : Int) < 4) = false := decide_eq_false (by omega)
        have d4' : decide (s1.size < 4) = false := decide_eq_false h4
        have i4 : (4 : Int) ≤ (s1.size : Int) := by omega
        have e4 : (s1.extract 0 4).size = 4 := by rw [ByteArray.size_extract]; omega
        cases hh : hexF 0 (s1.extract 0 4).data.toList with
        | none =>
          have HPU := Lib.hid (show strconv_ParseUint_71.f (s1.extract 0 4) 16 16 = some (0, some 0) from by unfold strconv_ParseUint_71.f; rw [if_pos ⟨rfl, rfl, e4⟩, hh])
          as_aux_lemma =>
            have HSTEP := Lib.hid (show uStep (bt s' 0) s1 = ([92, 117], s1) from by simp only [uStep]; rw [if_neg (by omega), if_neg (by omega), if_neg (by omega), if_neg (by omega), if_neg (by omega), if_neg (by omega), if_neg (by omega), if_neg (by omega), if_pos hc117]; unfold uHex; rw [if_neg h4, hh])
            obtain ⟨Z, hZ⟩ : ∃ Z, Z = xs ++ [92, 117] := ⟨_, rfl⟩
            have HZ := Lib.hid hZ
            have HZL := Lib.hid (show Z.length ≤ xs.length + 6 from by rw [hZ]; simp)
            clear hZ
            go_upto_region 48 with (first | (go_at_call 40; (with_reducible refine (strconv_ParseUint_71.calls (s1.extract 0 4) 16 16 0 (some 0) _ (Laid.below HLD.out HB.out) HPU.out).mono ?_); rintro e w5 ⟨x5, rfl, hb5⟩; have ROW5 := Lib.hid ((HR.out).below hb5); have BEL5 := Lib.hid ((HB.out).trans (hb5.mono (HB.out).size)); clear hb5; simp only [errX_some]) | (at_builtin; refine br_append_str (w0 := w) w.heap.size rfl (.tmp 93) (.const (.string ⟨#[92, 117]⟩)) 22 9 rfl Tryd.underlying22 Tryd.underlying9 infoB (.slice (some ⟨g0, 0, none⟩) n0 c0) xs (⟨#[92, 117]⟩ : ByteArray) rfl rfl (ROW5.out) (BEL5.out) (BEL5.out).size (by show xs.length + 2 ≤ 140737488355328; have := HL.out; omega) ?_; intro v1 w1 row1 bel1; replace row1 : BR w1 w.heap.size v1 Z := (by rw [HZ.out]; exact row1); obtain ⟨g1, c1, n1, rfl⟩ := br_form row1; have ROW1 := Lib.hid row1; have BEL1 := Lib.hid bel1; clear row1 bel1))
            have hsz : s1.size + 1 ≤ s'.size := by omega
            have HSZ := Lib.hid hsz
            clear hsz
            rcases ix_cases s1 with hix | ⟨n, hix, hn⟩
            · have HI0 := Lib.hid hix
              have HIX := Lib.hid (show strings_IndexByte.f s1 92 = some (-1) from congrArg some hix)
              clear hix
              go_wp2_with (first | (go_at_call 37; refine (strings_IndexByte.calls s1 92 (-1) _ HIX.out).mono ?_; rintro e w7 ⟨rfl, ⟨nd7, rfl⟩⟩) | (at_builtin; refine br_append_str (w0 := w) w.heap.size rfl (.tmp 152) (.tmp 153) 22 9 rfl Tryd.underlying22 Tryd.underlying9 infoB (.slice (some ⟨g1, 0, none⟩) n1 c1) Z s1 rfl rfl (ROW1.out.drewN _) (pw_below_drewN BEL1.out _) (pw_below_drewN BEL1.out _).size (by have h1 := HL.out; have h2 := HZL.out; have h3 := HSZ.out; (try simp only [ByteArray.size_extract]); omega) ?_; intro v8 w8 row8 bel8; obtain ⟨g8, c8, n8, rfl⟩ := br_form row8; have ROW8 := Lib.hid row8; have BEL8 := Lib.hid bel8; clear row8 bel8) | (go_at_call 43; refine (b2s_br ROW8.out).mono ?_; rintro e w9 ⟨rfl, rfl⟩))
              go_ret
              exact ⟨by rw [← HRES.out, uL_done HNZ.out HS1.out HSTEP.out HI0.out, ← HZ.out]; rfl, BEL8.out⟩
            · have HI0 := Lib.hid hix
              have HIX := Lib.hid (show strings_IndexByte.f s1 92 = some (n : Int) from congrArg some hix)
              have hn0 : (0 : Int) ≤ (n : Int) := by omega
              have hns : (n : Int) ≤ (s1.size : Int) := by omega
              have hw1 : IntKind.i64.wrap ((n : Int) + 1) = (n : Int) + 1 := by rw [IntKind.wrap_i64]; have := HL.out; have := HSZ.out; omega
              have hn1 : (n : Int) + 1 ≤ (s1.size : Int) := by omega
              have hn2 : (0 : Int) ≤ (n : Int) + 1 := by omega
              have hn3 : ((n : Int) + 1).toNat = n + 1 := by omega
              have HN := Lib.hid hn
              clear hix hn
              go_wp2_with (first | (go_at_call 37; refine (strings_IndexByte.calls s1 92 (n : Int) _ HIX.out).mono ?_; rintro e w7 ⟨rfl, ⟨nd7, rfl⟩⟩) | (at_builtin; refine br_append_str (w0 := w) w.heap.size rfl (.tmp 155) (.tmp 158) 22 9 rfl Tryd.underlying22 Tryd.underlying9 infoB (.slice (some ⟨g1, 0, none⟩) n1 c1) Z (s1.extract 0 n) rfl rfl (ROW1.out.drewN _) (pw_below_drewN BEL1.out _) (pw_below_drewN BEL1.out _).size (by have h1 := HL.out; have h2 := HZL.out; have h3 := HSZ.out; (try simp only [ByteArray.size_extract]); omega) ?_; intro v8 w8 row8 bel8; obtain ⟨g8, c8, n8, rfl⟩ := br_form row8; have ROW8 := Lib.hid row8; have BEL8 := Lib.hid bel8; clear row8 bel8))
              go_roundg ((s1.extract (n + 1) s1.size).size + 1)
              case measure => have := HSZ.out; have := HK.out; simp only [ByteArray.size_extract]; omega
              case rel => exact ⟨k, (s1.extract (n + 1) s1.size), _, _, _, _, rfl, rfl, ROW8, BEL8, Lib.hid ⟨by have := HSZ.out; have := HKR.out.1; have := HN.out; simp only [ByteArray.size_extract]; omega, by rw [← HRES.out, uL_more HNZ.out HS1.out HSTEP.out HI0.out, ← HZ.out]⟩, Lib.hid (by have := HSZ.out; have := HL0.out; have := HZL.out; have := HN.out; simp only [List.length_append, bytesOf_length, ByteArray.size_extract] at *; omega), rfl⟩
        | some x =>
          have HPU := Lib.hid (show strconv_ParseUint_71.f (s1.extract 0 4) 16 16 = some (x, none) from by unfold strconv_ParseUint_71.f; rw [if_pos ⟨rfl, rfl, e4⟩, hh])
          obtain ⟨x0, x9⟩ := hex4 e4 hh
          have hxw : IntKind.i32.wrap x = x := by rw [IntKind.wrap_i32]; omega
          obtain ⟨s2, hs2⟩ : ∃ s2, s1.extract 4 s1.size = s2 := ⟨_, rfl⟩
          have hs2z : s2.size + 4 = s1.size := by rw [← hs2, ByteArray.size_extract]; omega
          obtain ⟨s4, hs4⟩ : ∃ s4, s1.extract 0 4 = s4 := ⟨_, rfl⟩
          rw [hs4] at e4 HPU
          have HST := Lib.hid (show uStep (bt s' 0) s1 = uSur x s4 s2 from by simp only [uStep]; rw [if_neg (by omega), if_neg (by omega), if_neg (by omega), if_neg (by omega), if_neg (by omega), if_neg (by omega), if_neg (by omega), if_neg (by omega), if_pos hc117]; unfold uHex; rw [if_neg h4, hh]; simp only [hs4, hs2])
          clear hh
          by_cases hsur : x < 55296 ∨ 57344 ≤ x
          · have HIS := Lib.hid (show utf16_IsSurrogate.f x = some false from by unfold utf16_IsSurrogate.f; split; exact congrArg some (decide_eq_false (by omega)); rfl)
            as_aux_lemma =>
              have HSTEP := Lib.hid (show uStep (bt s' 0) s1 = (bytesOf (Utf8.encode x), s2) from by rw [HST.out]; unfold uSur; rw [if_pos hsur])
              obtain ⟨Z, hZ⟩ : ∃ Z, Z = xs ++ bytesOf (Utf8.encode x) := ⟨_, rfl⟩
              have HZ := Lib.hid hZ
              have HZL := Lib.hid (show Z.length ≤ xs.length + 6 from by rw [hZ]; have := encode_size_le x; have := bytesOf_length (Utf8.encode x); rw [List.length_append]; omega)
              clear hZ
              go_upto_region 48 with (first | (go_at_call 40; (with_reducible refine (strconv_ParseUint_71.calls s4 16 16 x none _ (Laid.below HLD.out HB.out) HPU.out).mono ?_); rintro e w5 ⟨x5, rfl, hb5⟩; have ROW5 := Lib.hid ((HR.out).below hb5); have BEL5 := Lib.hid ((HB.out).trans (hb5.mono (HB.out).size)); clear hb5; simp only [errX_none]) | (go_at_call 41; refine (utf16_IsSurrogate.calls x false _ HIS.out).mono ?_; rintro e w6 ⟨rfl, ⟨nd6, rfl⟩⟩) | (at_builtin; refine br_append_str (w0 := w) w.heap.size rfl (.tmp 101) (.tmp 104) 22 9 rfl Tryd.underlying22 Tryd.underlying9 infoB (.slice (some ⟨g0, 0, none⟩) n0 c0) xs (Utf8.encode x) rfl rfl (ROW5.out.drewN _) (pw_below_drewN BEL5.out _) (pw_below_drewN BEL5.out _).size (by have := HL.out; have := encode_size_le x; omega) ?_; intro v1 w1 row1 bel1; replace row1 : BR w1 w.heap.size v1 Z := (by rw [HZ.out]; exact row1); obtain ⟨g1, c1, n1, rfl⟩ := br_form row1; have ROW1 := Lib.hid row1; have BEL1 := Lib.hid bel1; clear row1 bel1))
              have hsz : s2.size + 1 ≤ s'.size := by omega
              have HSZ := Lib.hid hsz
              clear hsz
              rcases ix_cases s2 with hix | ⟨n, hix, hn⟩
              · have HI0 := Lib.hid hix
                have HIX := Lib.hid (show strings_IndexByte.f s2 92 = some (-1) from congrArg some hix)
                clear hix
                go_wp2_with (first | (go_at_call 37; refine (strings_IndexByte.calls s2 92 (-1) _ HIX.out).mono ?_; rintro e w7 ⟨rfl, ⟨nd7, rfl⟩⟩) | (at_builtin; refine br_append_str (w0 := w) w.heap.size rfl (.tmp 152) (.tmp 153) 22 9 rfl Tryd.underlying22 Tryd.underlying9 infoB (.slice (some ⟨g1, 0, none⟩) n1 c1) Z s2 rfl rfl (ROW1.out.drewN _) (pw_below_drewN BEL1.out _) (pw_below_drewN BEL1.out _).size (by have h1 := HL.out; have h2 := HZL.out; have h3 := HSZ.out; (try simp only [ByteArray.size_extract]); omega) ?_; intro v8 w8 row8 bel8; obtain ⟨g8, c8, n8, rfl⟩ := br_form row8; have ROW8 := Lib.hid row8; have BEL8 := Lib.hid bel8; clear row8 bel8) | (go_at_call 43; refine (b2s_br ROW8.out).mono ?_; rintro e w9 ⟨rfl, rfl⟩))
                go_ret
                exact ⟨by rw [← HRES.out, uL_done HNZ.out HS1.out HSTEP.out HI0.out, ← HZ.out]; rfl, BEL8.out⟩
              · have HI0 := Lib.hid hix
                have HIX := Lib.hid (show strings_IndexByte.f s2 92 = some (n : Int) from congrArg some hix)
                have hn0 : (0 : Int) ≤ (n : Int) := by omega
                have hns : (n : Int) ≤ (s2.size : Int) := by omega
                have hw1 : IntKind.i64.wrap ((n : Int) + 1) = (n : Int) + 1 := by rw [IntKind.wrap_i64]; have := HL.out; have := HSZ.out; omega
                have hn1 : (n : Int) + 1 ≤ (s2.size : Int) := by omega
                have hn2 : (0 : Int) ≤ (n : Int) + 1 := by omega
                have hn3 : ((n : Int) + 1).toNat = n + 1 := by omega
                have HN := Lib.hid hn
                clear hix hn
                go_wp2_with (first | (go_at_call 37; refine (strings_IndexByte.calls s2 92 (n : Int) _ HIX.out).mono ?_; rintro e w7 ⟨rfl, ⟨nd7, rfl⟩⟩) | (at_builtin; refine br_append_str (w0 := w) w.heap.size rfl (.tmp 155) (.tmp 158) 22 9 rfl Tryd.underlying22 Tryd.underlying9 infoB (.slice (some ⟨g1, 0, none⟩) n1 c1) Z (s2.extract 0 n) rfl rfl (ROW1.out.drewN _) (pw_below_drewN BEL1.out _) (pw_below_drewN BEL1.out _).size (by have h1 := HL.out; have h2 := HZL.out; have h3 := HSZ.out; (try simp only [ByteArray.size_extract]); omega) ?_; intro v8 w8 row8 bel8; obtain ⟨g8, c8, n8, rfl⟩ := br_form row8; have ROW8 := Lib.hid row8; have BEL8 := Lib.hid bel8; clear row8 bel8))
                go_roundg ((s2.extract (n + 1) s2.size).size + 1)
                case measure => have := HSZ.out; have := HK.out; simp only [ByteArray.size_extract]; omega
                case rel => exact ⟨k, (s2.extract (n + 1) s2.size), _, _, _, _, rfl, rfl, ROW8, BEL8, Lib.hid ⟨by have := HSZ.out; have := HKR.out.1; have := HN.out; simp only [ByteArray.size_extract]; omega, by rw [← HRES.out, uL_more HNZ.out HS1.out HSTEP.out HI0.out, ← HZ.out]⟩, Lib.hid (by have := HSZ.out; have := HL0.out; have := HZL.out; have := HN.out; simp only [List.length_append, bytesOf_length, ByteArray.size_extract] at *; omega), rfl⟩
          have HIS := Lib.hid (show utf16_IsSurrogate.f x = some true from by unfold utf16_IsSurrogate.f; rw [if_pos (by omega)]; exact congrArg some (decide_eq_true (by omega)))
          by_cases h6 : s2.size < 6
          · have d6 : decide ((s2.size : Int) < 6) = true := decide_eq_true (by omega)
            have d6' : decide (s2.size < 6) = true := decide_eq_true h6
            as_aux_lemma =>
              have HSTEP := Lib.hid (show uStep (bt s' 0) s1 = (([92, 117] ++ bytesOf s4), s2) from by rw [HST.out]; unfold uSur; rw [if_neg hsur, if_pos (.inl h6)])
              obtain ⟨Z, hZ⟩ : ∃ Z, Z = xs ++ ([92, 117] ++ bytesOf s4) := ⟨_, rfl⟩
              have HZ := Lib.hid hZ
              have HZL := Lib.hid (show Z.length ≤ xs.length + 6 from by rw [hZ]; have := bytesOf_length s4; simp only [List.length_append, List.length_cons, List.length_nil]; omega)
              clear hZ
              go_upto_region 48 with (first | (go_at_call 40; (with_reducible refine (strconv_ParseUint_71.calls s4 16 16 x none _ (Laid.below HLD.out HB.out) HPU.out).mono ?_); rintro e w5 ⟨x5, rfl, hb5⟩; have ROW5 := Lib.hid ((HR.out).below hb5); have BEL5 := Lib.hid ((HB.out).trans (hb5.mono (HB.out).size)); clear hb5; simp only [errX_none]) | (go_at_call 41; refine (utf16_IsSurrogate.calls x true _ HIS.out).mono ?_; rintro e w6 ⟨rfl, ⟨nd6, rfl⟩⟩) | (at_builtin; refine br_append_str (w0 := w) w.heap.size rfl (.tmp 119) (.const (.string ⟨#[92, 117]⟩)) 22 9 rfl Tryd.underlying22 Tryd.underlying9 infoB (.slice (some ⟨g0, 0, none⟩) n0 c0) xs (⟨#[92, 117]⟩ : ByteArray) rfl rfl (ROW5.out.drewN _) (pw_below_drewN BEL5.out _) (pw_below_drewN BEL5.out _).size (by show xs.length + 2 ≤ 140737488355328; have := HL.out; omega) ?_; intro v1 w1 row1 bel1; replace row1 : BR w1 w.heap.size v1 (xs ++ [92, 117]) := row1; obtain ⟨g1, c1, n1, rfl⟩ := br_form row1; have ROW1 := Lib.hid row1; have BEL1 := Lib.hid bel1; clear row1 bel1) | (at_builtin; refine br_append_str (w0 := w) w.heap.size rfl (.tmp 121) (.tmp 122) 22 9 rfl Tryd.underlying22 Tryd.underlying9 infoB (.slice (some ⟨g1, 0, none⟩) n1 c1) (xs ++ [92, 117]) s4 rfl rfl (ROW1.out) (BEL1.out) (BEL1.out).size (by have := HL.out; have := e4; simp only [List.length_append, List.length_cons, List.length_nil]; omega) ?_; intro v2 w2 row2 bel2; replace row2 : BR w2 w.heap.size v2 Z := (by rw [HZ.out, ← List.append_assoc]; exact row2); obtain ⟨g2, c2, n2, rfl⟩ := br_form row2; have ROW2 := Lib.hid row2; have BEL2 := Lib.hid bel2; clear row2 bel2))
              have hsz : s2.size + 1 ≤ s'.size := by omega
              have HSZ := Lib.hid hsz
              clear hsz
              rcases ix_cases s2 with hix | ⟨n, hix, hn⟩
              · have HI0 := Lib.hid hix
                have HIX := Lib.hid (show strings_IndexByte.f s2 92 = some (-1) from congrArg some hix)
                clear hix
                go_wp2_with (first | (go_at_call 37; refine (strings_IndexByte.calls s2 92 (-1) _ HIX.out).mono ?_; rintro e w7 ⟨rfl, ⟨nd7, rfl⟩⟩) | (at_builtin; refine br_append_str (w0 := w) w.heap.size rfl (.tmp 152) (.tmp 153) 22 9 rfl Tryd.underlying22 Tryd.underlying9 infoB (.slice (some ⟨g2, 0, none⟩) n2 c2) Z s2 rfl rfl (ROW2.out.drewN _) (pw_below_drewN BEL2.out _) (pw_below_drewN BEL2.out _).size (by have h1 := HL.out; have h2 := HZL.out; have h3 := HSZ.out; (try simp only [ByteArray.size_extract]); omega) ?_; intro v8 w8 row8 bel8; obtain ⟨g8, c8, n8, rfl⟩ := br_form row8; have ROW8 := Lib.hid row8; have BEL8 := Lib.hid bel8; clear row8 bel8) | (go_at_call 43; refine (b2s_br ROW8.out).mono ?_; rintro e w9 ⟨rfl, rfl⟩))
                go_ret
                exact ⟨by rw [← HRES.out, uL_done HNZ.out HS1.out HSTEP.out HI0.out, ← HZ.out]; rfl, BEL8.out⟩
              · have HI0 := Lib.hid hix
                have HIX := Lib.hid (show strings_IndexByte.f s2 92 = some (n : Int) from congrArg some hix)
                have hn0 : (0 : Int) ≤ (n : Int) := by omega
                have hns : (n : Int) ≤ (s2.size : Int) := by omega
                have hw1 : IntKind.i64.wrap ((n : Int) + 1) = (n : Int) + 1 := by rw [IntKind.wrap_i64]; have := HL.out; have := HSZ.out; omega
                have hn1 : (n : Int) + 1 ≤ (s2.size : Int) := by omega
                have hn2 : (0 : Int) ≤ (n : Int) + 1 := by omega
                have hn3 : ((n : Int) + 1).toNat = n + 1 := by omega
                have HN := Lib.hid hn
                clear hix hn
                go_wp2_with (first | (go_at_call 37; refine (strings_IndexByte.calls s2 92 (n : Int) _ HIX.out).mono ?_; rintro e w7 ⟨rfl, ⟨nd7, rfl⟩⟩) | (at_builtin; refine br_append_str (w0 := w) w.heap.size rfl (.tmp 155) (.tmp 158) 22 9 rfl Tryd.underlying22 Tryd.underlying9 infoB (.slice (some ⟨g2, 0, none⟩) n2 c2) Z (s2.extract 0 n) rfl rfl (ROW2.out.drewN _) (pw_below_drewN BEL2.out _) (pw_below_drewN BEL2.out _).size (by have h1 := HL.out; have h2 := HZL.out; have h3 := HSZ.out; (try simp only [ByteArray.size_extract]); omega) ?_; intro v8 w8 row8 bel8; obtain ⟨g8, c8, n8, rfl⟩ := br_form row8; have ROW8 := Lib.hid row8; have BEL8 := Lib.hid bel8; clear row8 bel8))
                go_roundg ((s2.extract (n + 1) s2.size).size + 1)
                case measure => have := HSZ.out; have := HK.out; simp only [ByteArray.size_extract]; omega
                case rel => exact ⟨k, (s2.extract (n + 1) s2.size), _, _, _, _, rfl, rfl, ROW8, BEL8, Lib.hid ⟨by have := HSZ.out; have := HKR.out.1; have := HN.out; simp only [ByteArray.size_extract]; omega, by rw [← HRES.out, uL_more HNZ.out HS1.out HSTEP.out HI0.out, ← HZ.out]⟩, Lib.hid (by have := HSZ.out; have := HL0.out; have := HZL.out; have := HN.out; simp only [List.length_append, bytesOf_length, ByteArray.size_extract] at *; omega), rfl⟩
          have d6 : decide ((s2.size : Int) < 6) = false := decide_eq_false (by omega)
          have d6' : decide (s2.size < 6) = false := decide_eq_false h6
          have y0 : (0 < s2.size) = True := eq_true (by omega)
          have y1 : (1 < s2.size) = True := eq_true (by omega)
          have hx0 := bt0 (s := s2)
          have hx1 := bt1 (s := s2)
          by_cases ha : bt s2 0 ≠ 92
          · have ha1 : (bt s2 0 != 92) = true := by simpa using ha
            as_aux_lemma =>
              have HSTEP := Lib.hid (show uStep (bt s' 0) s1 = (([92, 117] ++ bytesOf s4), s2) from by rw [HST.out]; unfold uSur; rw [if_neg hsur, if_pos (.inr (.inl ha))])
              obtain ⟨Z, hZ⟩ : ∃ Z, Z = xs ++ ([92, 117] ++ bytesOf s4) := ⟨_, rfl⟩
              have HZ := Lib.hid hZ
              have HZL := Lib.hid (show Z.length ≤ xs.length + 6 from by rw [hZ]; have := bytesOf_length s4; simp only [List.length_append, List.length_cons, List.length_nil]; omega)
              clear hZ
              go_upto_region 48 with (first | (go_at_call 40; (with_reducible refine (strconv_ParseUint_71.calls s4 16 16 x none _ (Laid.below HLD.out HB.out) HPU.out).mono ?_); rintro e w5 ⟨x5, rfl, hb5⟩; have ROW5 := Lib.hid ((HR.out).below hb5); have BEL5 := Lib.hid ((HB.out).trans (hb5.mono (HB.out).size)); clear hb5; simp only [errX_none]) | (go_at_call 41; refine (utf16_IsSurrogate.calls x true _ HIS.out).mono ?_; rintro e w6 ⟨rfl, ⟨nd6, rfl⟩⟩) | (at_builtin; refine br_append_str (w0 := w) w.heap.size rfl (.tmp 119) (.const (.string ⟨#[92, 117]⟩)) 22 9 rfl Tryd.underlying22 Tryd.underlying9 infoB (.slice (some ⟨g0, 0, none⟩) n0 c0) xs (⟨#[92, 117]⟩ : ByteArray) rfl rfl (ROW5.out.drewN _) (pw_below_drewN BEL5.out _) (pw_below_drewN BEL5.out _).size (by show xs.length + 2 ≤ 140737488355328; have := HL.out; omega) ?_; intro v1 w1 row1 bel1; replace row1 : BR w1 w.heap.size v1 (xs ++ [92, 117]) := row1; obtain ⟨g1, c1, n1, rfl⟩ := br_form row1; have ROW1 := Lib.hid row1; have BEL1 := Lib.hid bel1; clear row1 bel1) | (at_builtin; refine br_append_str (w0 := w) w.heap.size rfl (.tmp 121) (.tmp 122) 22 9 rfl Tryd.underlying22 Tryd.underlying9 infoB (.slice (some ⟨g1, 0, none⟩) n1 c1) (xs ++ [92, 117]) s4 rfl rfl (ROW1.out) (BEL1.out) (BEL1.out).size (by have := HL.out; have := e4; simp only [List.length_append, List.length_cons, List.length_nil]; omega) ?_; intro v2 w2 row2 bel2; replace row2 : BR w2 w.heap.size v2 Z := (by rw [HZ.out, ← List.append_assoc]; exact row2); obtain ⟨g2, c2, n2, rfl⟩ := br_form row2; have ROW2 := Lib.hid row2; have BEL2 := Lib.hid bel2; clear row2 bel2))
              have hsz : s2.size + 1 ≤ s'.size := by omega
              have HSZ := Lib.hid hsz
              clear hsz
              rcases ix_cases s2 with hix | ⟨n, hix, hn⟩
              · have HI0 := Lib.hid hix
                have HIX := Lib.hid (show strings_IndexByte.f s2 92 = some (-1) from congrArg some hix)
                clear hix
                go_wp2_with (first | (go_at_call 37; refine (strings_IndexByte.calls s2 92 (-1) _ HIX.out).mono ?_; rintro e w7 ⟨rfl, ⟨nd7, rfl⟩⟩) | (at_builtin; refine br_append_str (w0 := w) w.heap.size rfl (.tmp 152) (.tmp 153) 22 9 rfl Tryd.underlying22 Tryd.underlying9 infoB (.slice (some ⟨g2, 0, none⟩) n2 c2) Z s2 rfl rfl (ROW2.out.drewN _) (pw_below_drewN BEL2.out _) (pw_below_drewN BEL2.out _).size (by have h1 := HL.out; have h2 := HZL.out; have h3 := HSZ.out; (try simp only [ByteArray.size_extract]); omega) ?_; intro v8 w8 row8 bel8; obtain ⟨g8, c8, n8, rfl⟩ := br_form row8; have ROW8 := Lib.hid row8; have BEL8 := Lib.hid bel8; clear row8 bel8) | (go_at_call 43; refine (b2s_br ROW8.out).mono ?_; rintro e w9 ⟨rfl, rfl⟩))
                go_ret
                exact ⟨by rw [← HRES.out, uL_done HNZ.out HS1.out HSTEP.out HI0.out, ← HZ.out]; rfl, BEL8.out⟩
              · have HI0 := Lib.hid hix
                have HIX := Lib.hid (show strings_IndexByte.f s2 92 = some (n : Int) from congrArg some hix)
                have hn0 : (0 : Int) ≤ (n : Int) := by omega
                have hns : (n : Int) ≤ (s2.size : Int) := by omega
                have hw1 : IntKind.i64.wrap ((n : Int) + 1) = (n : Int) + 1 := by rw [IntKind.wrap_i64]; have := HL.out; have := HSZ.out; omega
                have hn1 : (n : Int) + 1 ≤ (s2.size : Int) := by omega
                have hn2 : (0 : Int) ≤ (n : Int) + 1 := by omega
                have hn3 : ((n : Int) + 1).toNat = n + 1 := by omega
                have HN := Lib.hid hn
                clear hix hn
                go_wp2_with (first | (go_at_call 37; refine (strings_IndexByte.calls s2 92 (n : Int) _ HIX.out).mono ?_; rintro e w7 ⟨rfl, ⟨nd7, rfl⟩⟩) | (at_builtin; refine br_append_str (w0 := w) w.heap.size rfl (.tmp 155) (.tmp 158) 22 9 rfl Tryd.underlying22 Tryd.underlying9 infoB (.slice (some ⟨g2, 0, none⟩) n2 c2) Z (s2.extract 0 n) rfl rfl (ROW2.out.drewN _) (pw_below_drewN BEL2.out _) (pw_below_drewN BEL2.out _).size (by have h1 := HL.out; have h2 := HZL.out; have h3 := HSZ.out; (try simp only [ByteArray.size_extract]); omega) ?_; intro v8 w8 row8 bel8; obtain ⟨g8, c8, n8, rfl⟩ := br_form row8; have ROW8 := Lib.hid row8; have BEL8 := Lib.hid bel8; clear row8 bel8))
                go_roundg ((s2.extract (n + 1) s2.size).size + 1)
                case measure => have := HSZ.out; have := HK.out; simp only [ByteArray.size_extract]; omega
                case rel => exact ⟨k, (s2.extract (n + 1) s2.size), _, _, _, _, rfl, rfl, ROW8, BEL8, Lib.hid ⟨by have := HSZ.out; have := HKR.out.1; have := HN.out; simp only [ByteArray.size_extract]; omega, by rw [← HRES.out, uL_more HNZ.out HS1.out HSTEP.out HI0.out, ← HZ.out]⟩, Lib.hid (by have := HSZ.out; have := HL0.out; have := HZL.out; have := HN.out; simp only [List.length_append, bytesOf_length, ByteArray.size_extract] at *; omega), rfl⟩
          replace ha : bt s2 0 = 92 := Classical.not_not.mp ha
          have ha1 : (bt s2 0 != 92) = false := by simpa using ha
          by_cases hu : bt s2 1 ≠ 117
          · have hu1 : (bt s2 1 != 117) = true := by simpa using hu
            as_aux_lemma =>
              have HSTEP := Lib.hid (show uStep (bt s' 0) s1 = (([92, 117] ++ bytesOf s4), s2) from by rw [HST.out]; unfold uSur; rw [if_neg hsur, if_pos (.inr (.inr hu))])
              obtain ⟨Z, hZ⟩ : ∃ Z, Z = xs ++ ([92, 117] ++ bytesOf s4) := ⟨_, rfl⟩
              have HZ := Lib.hid hZ
              have HZL := Lib.hid (show Z.length ≤ xs.length + 6 from by rw [hZ]; have := bytesOf_length s4; simp only [List.length_append, List.length_cons, List.length_nil]; omega)
              clear hZ
              go_upto_region 48 with (first | (go_at_call 40; (with_reducible refine (strconv_ParseUint_71.calls s4 16 16 x none _ (Laid.below HLD.out HB.out) HPU.out).mono ?_); rintro e w5 ⟨x5, rfl, hb5⟩; have ROW5 := Lib.hid ((HR.out).below hb5); have BEL5 := Lib.hid ((HB.out).trans (hb5.mono (HB.out).size)); clear hb5; simp only [errX_none]) | (go_at_call 41; refine (utf16_IsSurrogate.calls x true _ HIS.out).mono ?_; rintro e w6 ⟨rfl, ⟨nd6, rfl⟩⟩) | (at_builtin; refine br_append_str (w0 := w) w.heap.size rfl (.tmp 119) (.const (.string ⟨#[92, 117]⟩)) 22 9 rfl Tryd.underlying22 Tryd.underlying9 infoB (.slice (some ⟨g0, 0, none⟩) n0 c0) xs (⟨#[92, 117]⟩ : ByteArray) rfl rfl (ROW5.out.drewN _) (pw_below_drewN BEL5.out _) (pw_below_drewN BEL5.out _).size (by show xs.length + 2 ≤ 140737488355328; have := HL.out; omega) ?_; intro v1 w1 row1 bel1; replace row1 : BR w1 w.heap.size v1 (xs ++ [92, 117]) := row1; obtain ⟨g1, c1, n1, rfl⟩ := br_form row1; have ROW1 := Lib.hid row1; have BEL1 := Lib.hid bel1; clear row1 bel1) | (at_builtin; refine br_append_str (w0 := w) w.heap.size rfl (.tmp 121) (.tmp 122) 22 9 rfl Tryd.underlying22 Tryd.underlying9 infoB (.slice (some ⟨g1, 0, none⟩) n1 c1) (xs ++ [92, 117]) s4 rfl rfl (ROW1.out) (BEL1.out) (BEL1.out).size (by have := HL.out; have := e4; simp only [List.length_append, List.length_cons, List.length_nil]; omega) ?_; intro v2 w2 row2 bel2; replace row2 : BR w2 w.heap.size v2 Z := (by rw [HZ.out, ← List.append_assoc]; exact row2); obtain ⟨g2, c2, n2, rfl⟩ := br_form row2; have ROW2 := Lib.hid row2; have BEL2 := Lib.hid bel2; clear row2 bel2))
              have hsz : s2.size + 1 ≤ s'.size := by omega
              have HSZ := Lib.hid hsz
              clear hsz
              rcases ix_cases s2 with hix | ⟨n, hix, hn⟩
              · have HI0 := Lib.hid hix
                have HIX := Lib.hid (show strings_IndexByte.f s2 92 = some (-1) from congrArg some hix)
                clear hix
                go_wp2_with (first | (go_at_call 37; refine (strings_IndexByte.calls s2 92 (-1) _ HIX.out).mono ?_; rintro e w7 ⟨rfl, ⟨nd7, rfl⟩⟩) | (at_builtin; refine br_append_str (w0 := w) w.heap.size rfl (.tmp 152) (.tmp 153) 22 9 rfl Tryd.underlying22 Tryd.underlying9 infoB (.slice (some ⟨g2, 0, none⟩) n2 c2) Z s2 rfl rfl (ROW2.out.drewN _) (pw_below_drewN BEL2.out _) (pw_below_drewN BEL2.out _).size (by have h1 := HL.out; have h2 := HZL.out; have h3 := HSZ.out; (try simp only [ByteArray.size_extract]); omega) ?_; intro v8 w8 row8 bel8; obtain ⟨g8, c8, n8, rfl⟩ := br_form row8; have ROW8 := Lib.hid row8; have BEL8 := Lib.hid bel8; clear row8 bel8) | (go_at_call 43; refine (b2s_br ROW8.out).mono ?_; rintro e w9 ⟨rfl, rfl⟩))
                go_ret
                exact ⟨by rw [← HRES.out, uL_done HNZ.out HS1.out HSTEP.out HI0.out, ← HZ.out]; rfl, BEL8.out⟩
              · have HI0 := Lib.hid hix
                have HIX := Lib.hid (show strings_IndexByte.f s2 92 = some (n : Int) from congrArg some hix)
                have hn0 : (0 : Int) ≤ (n : Int) := by omega
                have hns : (n : Int) ≤ (s2.size : Int) := by omega
                have hw1 : IntKind.i64.wrap ((n : Int) + 1) = (n : Int) + 1 := by rw [IntKind.wrap_i64]; have := HL.out; have := HSZ.out; omega
                have hn1 : (n : Int) + 1 ≤ (s2.size : Int) := by omega
                have hn2 : (0 : Int) ≤ (n : Int) + 1 := by omega
                have hn3 : ((n : Int) + 1).toNat = n + 1 := by omega
                have HN := Lib.hid hn
                clear hix hn
                go_wp2_with (first | (go_at_call 37; refine (strings_IndexByte.calls s2 92 (n : Int) _ HIX.out).mono ?_; rintro e w7 ⟨rfl, ⟨nd7, rfl⟩⟩) | (at_builtin; refine br_append_str (w0 := w) w.heap.size rfl (.tmp 155) (.tmp 158) 22 9 rfl Tryd.underlying22 Tryd.underlying9 infoB (.slice (some ⟨g2, 0, none⟩) n2 c2) Z (s2.extract 0 n) rfl rfl (ROW2.out.drewN _) (pw_below_drewN BEL2.out _) (pw_below_drewN BEL2.out _).size (by have h1 := HL.out; have h2 := HZL.out; have h3 := HSZ.out; (try simp only [ByteArray.size_extract]); omega) ?_; intro v8 w8 row8 bel8; obtain ⟨g8, c8, n8, rfl⟩ := br_form row8; have ROW8 := Lib.hid row8; have BEL8 := Lib.hid bel8; clear row8 bel8))
                go_roundg ((s2.extract (n + 1) s2.size).size + 1)
                case measure => have := HSZ.out; have := HK.out; simp only [ByteArray.size_extract]; omega
                case rel => exact ⟨k, (s2.extract (n + 1) s2.size), _, _, _, _, rfl, rfl, ROW8, BEL8, Lib.hid ⟨by have := HSZ.out; have := HKR.out.1; have := HN.out; simp only [ByteArray.size_extract]; omega, by rw [← HRES.out, uL_more HNZ.out HS1.out HSTEP.out HI0.out, ← HZ.out]⟩, Lib.hid (by have := HSZ.out; have := HL0.out; have := HZL.out; have := HN.out; simp only [List.length_append, bytesOf_length, ByteArray.size_extract] at *; omega), rfl⟩
          replace hu : bt s2 1 = 117 := Classical.not_not.mp hu
          have hu1 : (bt s2 1 != 117) = false := by simpa using hu
          have i6 : (6 : Int) ≤ (s2.size : Int) := by omega
          have e6 : (s2.extract 2 6).size = 4 := by rw [ByteArray.size_extract]; omega
          cases hh2 : hexF 0 (s2.extract 2 6).data.toList with
          | none =>
            have HPU2 := Lib.hid (show strconv_ParseUint_71.f (s2.extract 2 6) 16 16 = some (0, some 0) from by unfold strconv_ParseUint_71.f; rw [if_pos ⟨rfl, rfl, e6⟩, hh2])
            as_aux_lemma =>
              have HSTEP := Lib.hid (show uStep (bt s' 0) s1 = (([92, 117] ++ bytesOf s4), s2) from by rw [HST.out]; unfold uSur; rw [if_neg hsur, if_neg (by omega), hh2])
              obtain ⟨Z, hZ⟩ : ∃ Z, Z = xs ++ ([92, 117] ++ bytesOf s4) := ⟨_, rfl⟩
              have HZ := Lib.hid hZ
              have HZL := Lib.hid (show Z.length ≤ xs.length + 6 from by rw [hZ]; have := bytesOf_length s4; simp only [List.length_append, List.length_cons, List.length_nil]; omega)
              clear hZ
              go_upto_region 48 with (first | (go_at_call 40; (with_reducible refine (strconv_ParseUint_71.calls s4 16 16 x none _ (Laid.below HLD.out HB.out) HPU.out).mono ?_); rintro e w5 ⟨x5, rfl, hb5⟩; have ROW5 := Lib.hid ((HR.out).below hb5); have BEL5 := Lib.hid ((HB.out).trans (hb5.mono (HB.out).size)); clear hb5; simp only [errX_none]) | (go_at_call 41; refine (utf16_IsSurrogate.calls x true _ HIS.out).mono ?_; rintro e w6 ⟨rfl, ⟨nd6, rfl⟩⟩) | (go_at_call 40; (with_reducible refine (strconv_ParseUint_71.calls (s2.extract 2 6) 16 16 0 (some 0) _ (Laid.below HLD.out (pw_below_drewN BEL5.out _)) HPU2.out).mono ?_); rintro e w8a ⟨x8a, rfl, hb8a⟩; have ROW8a := Lib.hid ((ROW5.out.drewN _).below hb8a); have BEL8a := Lib.hid (((pw_below_drewN BEL5.out _)).trans (hb8a.mono ((pw_below_drewN BEL5.out _)).size)); clear hb8a; simp only [errX_some]) | (at_builtin; refine br_append_str (w0 := w) w.heap.size rfl (.tmp 132) (.const (.string ⟨#[92, 117]⟩)) 22 9 rfl Tryd.underlying22 Tryd.underlying9 infoB (.slice (some ⟨g0, 0, none⟩) n0 c0) xs (⟨#[92, 117]⟩ : ByteArray) rfl rfl (ROW8a.out) (BEL8a.out) (BEL8a.out).size (by show xs.length + 2 ≤ 140737488355328; have := HL.out; omega) ?_; intro v1 w1 row1 bel1; replace row1 : BR w1 w.heap.size v1 (xs ++ [92, 117]) := row1; obtain ⟨g1, c1, n1, rfl⟩ := br_form row1; have ROW1 := Lib.hid row1; have BEL1 := Lib.hid bel1; clear row1 bel1) | (at_builtin; refine br_append_str (w0 := w) w.heap.size rfl (.tmp 134) (.tmp 135) 22 9 rfl Tryd.underlying22 Tryd.underlying9 infoB (.slice (some ⟨g1, 0, none⟩) n1 c1) (xs ++ [92, 117]) s4 rfl rfl (ROW1.out) (BEL1.out) (BEL1.out).size (by have := HL.out; have := e4; simp only [List.length_append, List.length_cons, List.length_nil]; omega) ?_; intro v2 w2 row2 bel2; replace row2 : BR w2 w.heap.size v2 Z := (by rw [HZ.out, ← List.append_assoc]; exact row2); obtain ⟨g2, c2, n2, rfl⟩ := br_form row2; have ROW2 := Lib.hid row2; have BEL2 := Lib.hid bel2; clear row2 bel2))
              have hsz : s2.size + 1 ≤ s'.size := by omega
              have HSZ := Lib.hid hsz
              clear hsz
              rcases ix_cases s2 with hix | ⟨n, hix, hn⟩
              · have HI0 := Lib.hid hix
                have HIX := Lib.hid (show strings_IndexByte.f s2 92 = some (-1) from congrArg some hix)
                clear hix
                go_wp2_with (first | (go_at_call 37; refine (strings_IndexByte.calls s2 92 (-1) _ HIX.out).mono ?_; rintro e w7 ⟨rfl, ⟨nd7, rfl⟩⟩) | (at_builtin; refine br_append_str (w0 := w) w.heap.size rfl (.tmp 152) (.tmp 153) 22 9 rfl Tryd.underlying22 Tryd.underlying9 infoB (.slice (some ⟨g2, 0, none⟩) n2 c2) Z s2 rfl rfl (ROW2.out.drewN _) (pw_below_drewN BEL2.out _) (pw_below_drewN BEL2.out _).size (by have h1 := HL.out; have h2 := HZL.out; have h3 := HSZ.out; (try simp only [ByteArray.size_extract]); omega) ?_; intro v8 w8 row8 bel8; obtain ⟨g8, c8, n8, rfl⟩ := br_form row8; have ROW8 := Lib.hid row8; have BEL8 := Lib.hid bel8; clear row8 bel8) | (go_at_call 43; refine (b2s_br ROW8.out).mono ?_; rintro e w9 ⟨rfl, rfl⟩))
                go_ret
                exact ⟨by rw [← HRES.out, uL_done HNZ.out HS1.out HSTEP.out HI0.out, ← HZ.out]; rfl, BEL8.out⟩
              · have HI0 := Lib.hid hix
                have HIX := Lib.hid (show strings_IndexByte.f s2 92 = some (n : Int) from congrArg some hix)
                have hn0 : (0 : Int) ≤ (n : Int) := by omega
                have hns : (n : Int) ≤ (s2.size : Int) := by omega
                have hw1 : IntKind.i64.wrap ((n : Int) + 1) = (n : Int) + 1 := by rw [IntKind.wrap_i64]; have := HL.out; have := HSZ.out; omega
                have hn1 : (n : Int) + 1 ≤ (s2.size : Int) := by omega
                have hn2 : (0 : Int) ≤ (n : Int) + 1 := by omega
                have hn3 : ((n : Int) + 1).toNat = n + 1 := by omega
                have HN := Lib.hid hn
                clear hix hn
                go_wp2_with (first | (go_at_call 37; refine (strings_IndexByte.calls s2 92 (n : Int) _ HIX.out).mono ?_; rintro e w7 ⟨rfl, ⟨nd7, rfl⟩⟩) | (at_builtin; refine br_append_str (w0 := w) w.heap.size rfl (.tmp 155) (.tmp 158) 22 9 rfl Tryd.underlying22 Tryd.underlying9 infoB (.slice (some ⟨g2, 0, none⟩) n2 c2) Z (s2.extract 0 n) rfl rfl (ROW2.out.drewN _) (pw_below_drewN BEL2.out _) (pw_below_drewN BEL2.out _).size (by have h1 := HL.out; have h2 := HZL.out; have h3 := HSZ.out; (try simp only [ByteArray.size_extract]); omega) ?_; intro v8 w8 row8 bel8; obtain ⟨g8, c8, n8, rfl⟩ := br_form row8; have ROW8 := Lib.hid row8; have BEL8 := Lib.hid bel8; clear row8 bel8))
                go_roundg ((s2.extract (n + 1) s2.size).size + 1)
                case measure => have := HSZ.out; have := HK.out; simp only [ByteArray.size_extract]; omega
                case rel => exact ⟨k, (s2.extract (n + 1) s2.size), _, _, _, _, rfl, rfl, ROW8, BEL8, Lib.hid ⟨by have := HSZ.out; have := HKR.out.1; have := HN.out; simp only [ByteArray.size_extract]; omega, by rw [← HRES.out, uL_more HNZ.out HS1.out HSTEP.out HI0.out, ← HZ.out]⟩, Lib.hid (by have := HSZ.out; have := HL0.out; have := HZL.out; have := HN.out; simp only [List.length_append, bytesOf_length, ByteArray.size_extract] at *; omega), rfl⟩
          | some x1 =>
            have HPU2 := Lib.hid (show strconv_ParseUint_71.f (s2.extract 2 6) 16 16 = some (x1, none) from by unfold strconv_ParseUint_71.f; rw [if_pos ⟨rfl, rfl, e6⟩, hh2])
            obtain ⟨z0, z9⟩ := hex4 e6 hh2
            have hzw : IntKind.i32.wrap x1 = x1 := by rw [IntKind.wrap_i32]; omega
            obtain ⟨s6, hs6⟩ : ∃ s6, s2.extract 6 s2.size = s6 := ⟨_, rfl⟩
            have hs6z : s6.size + 6 = s2.size := by rw [← hs6, ByteArray.size_extract]; omega
            have HDR := Lib.hid (show utf16_DecodeRune.f x x1 = some (decR x x1) from dec_some x x1)
            as_aux_lemma =>
              have HSTEP := Lib.hid (show uStep (bt s' 0) s1 = (bytesOf (Utf8.encode (decR x x1)), s6) from by rw [HST.out]; unfold uSur; rw [if_neg hsur, if_neg (by omega), hh2]; simp only [hs6])
              obtain ⟨Z, hZ⟩ : ∃ Z, Z = xs ++ bytesOf (Utf8.encode (decR x x1)) := ⟨_, rfl⟩
              have HZ := Lib.hid hZ
              have HZL := Lib.hid (show Z.length ≤ xs.length + 6 from by rw [hZ]; have := encode_size_le (decR x x1); have := bytesOf_length (Utf8.encode (decR x x1)); rw [List.length_append]; omega)
              clear hZ
              go_upto_region 48 with (first | (go_at_call 40; (with_reducible refine (strconv_ParseUint_71.calls s4 16 16 x none _ (Laid.below HLD.out HB.out) HPU.out).mono ?_); rintro e w5 ⟨x5, rfl, hb5⟩; have ROW5 := Lib.hid ((HR.out).below hb5); have BEL5 := Lib.hid ((HB.out).trans (hb5.mono (HB.out).size)); clear hb5; simp only [errX_none]) | (go_at_call 41; refine (utf16_IsSurrogate.calls x true _ HIS.out).mono ?_; rintro e w6 ⟨rfl, ⟨nd6, rfl⟩⟩) | (go_at_call 40; (with_reducible refine (strconv_ParseUint_71.calls (s2.extract 2 6) 16 16 x1 none _ (Laid.below HLD.out (pw_below_drewN BEL5.out _)) HPU2.out).mono ?_); rintro e w8a ⟨x8a, rfl, hb8a⟩; have ROW8a := Lib.hid ((ROW5.out.drewN _).below hb8a); have BEL8a := Lib.hid (((pw_below_drewN BEL5.out _)).trans (hb8a.mono ((pw_below_drewN BEL5.out _)).size)); clear hb8a; simp only [errX_none]) | (go_at_call 42; refine (utf16_DecodeRune.calls x x1 (decR x x1) _ HDR.out).mono ?_; rintro e w10 ⟨rfl, ⟨nd10, rfl⟩⟩) | (at_builtin; refine br_append_str (w0 := w) w.heap.size rfl (.tmp 142) (.tmp 144) 22 9 rfl Tryd.underlying22 Tryd.underlying9 infoB (.slice (some ⟨g0, 0, none⟩) n0 c0) xs (Utf8.encode (decR x x1)) rfl rfl (ROW8a.out.drewN _) (pw_below_drewN BEL8a.out _) (pw_below_drewN BEL8a.out _).size (by have := HL.out; have := encode_size_le (decR x x1); omega) ?_; intro v1 w1 row1 bel1; replace row1 : BR w1 w.heap.size v1 Z := (by rw [HZ.out]; exact row1); obtain ⟨g1, c1, n1, rfl⟩ := br_form row1; have ROW1 := Lib.hid row1; have BEL1 := Lib.hid bel1; clear row1 bel1))
              have hsz : s6.size + 1 ≤ s'.size := by omega
              have HSZ := Lib.hid hsz
              clear hsz
              rcases ix_cases s6 with hix | ⟨n, hix, hn⟩
              · have HI0 := Lib.hid hix
                have HIX := Lib.hid (show strings_IndexByte.f s6 92 = some (-1) from congrArg some hix)
                clear hix
                go_wp2_with (first | (go_at_call 37; refine (strings_IndexByte.calls s6 92 (-1) _ HIX.out).mono ?_; rintro e w7 ⟨rfl, ⟨nd7, rfl⟩⟩) | (at_builtin; refine br_append_str (w0 := w) w.heap.size rfl (.tmp 152) (.tmp 153) 22 9 rfl Tryd.underlying22 Tryd.underlying9 infoB (.slice (some ⟨g1, 0, none⟩) n1 c1) Z s6 rfl rfl (ROW1.out.drewN _) (pw_below_drewN BEL1.out _) (pw_below_drewN BEL1.out _).size (by have h1 := HL.out; have h2 := HZL.out; have h3 := HSZ.out; (try simp only [ByteArray.size_extract]); omega) ?_; intro v8 w8 row8 bel8; obtain ⟨g8, c8, n8, rfl⟩ := br_form row8; have ROW8 := Lib.hid row8; have BEL8 := Lib.hid bel8; clear row8 bel8) | (go_at_call 43; refine (b2s_br ROW8.out).mono ?_; rintro e w9 ⟨rfl, rfl⟩))
                go_ret
                exact ⟨by rw [← HRES.out, uL_done HNZ.out HS1.out HSTEP.out HI0.out, ← HZ.out]; rfl, BEL8.out⟩
              · have HI0 := Lib.hid hix
                have HIX := Lib.hid (show strings_IndexByte.f s6 92 = some (n : Int) from congrArg some hix)
                have hn0 : (0 : Int) ≤ (n : Int) := by omega
                have hns : (n : Int) ≤ (s6.size : Int) := by omega
                have hw1 : IntKind.i64.wrap ((n : Int) + 1) = (n : Int) + 1 := by rw [IntKind.wrap_i64]; have := HL.out; have := HSZ.out; omega
                have hn1 : (n : Int) + 1 ≤ (s6.size : Int) := by omega
                have hn2 : (0 : Int) ≤ (n : Int) + 1 := by omega
                have hn3 : ((n : Int) + 1).toNat = n + 1 := by omega
                have HN := Lib.hid hn
                clear hix hn
                go_wp2_with (first | (go_at_call 37; refine (strings_IndexByte.calls s6 92 (n : Int) _ HIX.out).mono ?_; rintro e w7 ⟨rfl, ⟨nd7, rfl⟩⟩) | (at_builtin; refine br_append_str (w0 := w) w.heap.size rfl (.tmp 155) (.tmp 158) 22 9 rfl Tryd.underlying22 Tryd.underlying9 infoB (.slice (some ⟨g1, 0, none⟩) n1 c1) Z (s6.extract 0 n) rfl rfl (ROW1.out.drewN _) (pw_below_drewN BEL1.out _) (pw_below_drewN BEL1.out _).size (by have h1 := HL.out; have h2 := HZL.out; have h3 := HSZ.out; (try simp only [ByteArray.size_extract]); omega) ?_; intro v8 w8 row8 bel8; obtain ⟨g8, c8, n8, rfl⟩ := br_form row8; have ROW8 := Lib.hid row8; have BEL8 := Lib.hid bel8; clear row8 bel8))
                go_roundg ((s6.extract (n + 1) s6.size).size + 1)
                case measure => have := HSZ.out; have := HK.out; simp only [ByteArray.size_extract]; omega
                case rel => exact ⟨k, (s6.extract (n + 1) s6.size), _, _, _, _, rfl, rfl, ROW8, BEL8, Lib.hid ⟨by have := HSZ.out; have := HKR.out.1; have := HN.out; simp only [ByteArray.size_extract]; omega, by rw [← HRES.out, uL_more HNZ.out HS1.out HSTEP.out HI0.out, ← HZ.out]⟩, Lib.hid (by have := HSZ.out; have := HL0.out; have := HZL.out; have := HN.out; simp only [List.length_append, bytesOf_length, ByteArray.size_extract] at *; omega), rfl⟩
      have hx := bt0 (s := s')
      have b34 : (bt s' 0 == 34) = false := beq_eq_false_iff_ne.mpr hc34
      have b92 : (bt s' 0 == 92) = false := beq_eq_false_iff_ne.mpr hc92
      have b47 : (bt s' 0 == 47) = false := beq_eq_false_iff_ne.mpr hc47
      have b98 : (bt s' 0 == 98) = false := beq_eq_false_iff_ne.mpr hc98
      have b102 : (bt s' 0 == 102) = false := beq_eq_false_iff_ne.mpr hc102
      have b110 : (bt s' 0 == 110) = false := beq_eq_false_iff_ne.mpr hc110
      have b114 : (bt s' 0 == 114) = false := beq_eq_false_iff_ne.mpr hc114
      have b116 : (bt s' 0 == 116) = false := beq_eq_false_iff_ne.mpr hc116
      have b117 : (bt s' 0 == 117) = false := beq_eq_false_iff_ne.mpr hc117
      go_upto_region 10 with (fail)
      obtain ⟨s1, hs1⟩ : ∃ s1, s'.extract 1 s'.size = s1 := ⟨_, rfl⟩
      rw [hs1]
      have hs1z : s1.size + 1 = s'.size := by rw [← hs1, ByteArray.size_extract]; omega
      have HS1 := Lib.hid hs1
      clear hs1
      as_aux_lemma =>
        have HSTEP := Lib.hid (show uStep (bt s' 0) s1 = ([92, bt s' 0], s1) from by simp [uStep, hc34, hc92, hc47, hc98, hc102, hc110, hc114, hc116, hc117])
        obtain ⟨Z, hZ⟩ : ∃ Z, Z = xs ++ [92, bt s' 0] := ⟨_, rfl⟩
        have HZ := Lib.hid hZ
        have HZL := Lib.hid (show Z.length ≤ xs.length + 6 from by rw [hZ]; simp)
        clear hZ
        go_upto_region 48 with (first | (at_builtin; refine br_append (w0 := w) w.heap.size rfl (.tmp 33) (.tmp 35) 22 rfl Tryd.underlying22 infoB (.slice (some ⟨g0, 0, none⟩) n0 c0) xs [92, bt s' 0] rfl rfl HR.out HB.out HB.out.size (by have := HL.out; simp only [List.length_append, List.length_cons, List.length_nil] at this ⊢; omega) ?_; intro v1 w1 row1 bel1; replace row1 : BR w1 w.heap.size v1 Z := (by rw [HZ.out]; exact row1); obtain ⟨g1, c1, n1, rfl⟩ := br_form row1; have ROW1 := Lib.hid row1; have BEL1 := Lib.hid bel1; clear row1 bel1))
        have hsz : s1.size + 1 ≤ s'.size := by omega
        have HSZ := Lib.hid hsz
        clear hsz
        rcases ix_cases s1 with hix | ⟨n, hix, hn⟩
        · have HI0 := Lib.hid hix
          have HIX := Lib.hid (show strings_IndexByte.f s1 92 = some (-1) from congrArg some hix)
          clear hix
          go_wp2_with (first | (go_at_call 37; refine (strings_IndexByte.calls s1 92 (-1) _ HIX.out).mono ?_; rintro e w7 ⟨rfl, ⟨nd7, rfl⟩⟩) | (at_builtin; refine br_append_str (w0 := w) w.heap.size rfl (.tmp 152) (.tmp 153) 22 9 rfl Tryd.underlying22 Tryd.underlying9 infoB (.slice (some ⟨g1, 0, none⟩) n1 c1) Z s1 rfl rfl (ROW1.out.drewN _) (pw_below_drewN BEL1.out _) (pw_below_drewN BEL1.out _).size (by have h1 := HL.out; have h2 := HZL.out; have h3 := HSZ.out; (try simp only [ByteArray.size_extract]); omega) ?_; intro v8 w8 row8 bel8; obtain ⟨g8, c8, n8, rfl⟩ := br_form row8; have ROW8 := Lib.hid row8; have BEL8 := Lib.hid bel8; clear row8 bel8) | (go_at_call 43; refine (b2s_br ROW8.out).mono ?_; rintro e w9 ⟨rfl, rfl⟩))
          go_ret
          exact ⟨by rw [← HRES.out, uL_done HNZ.out HS1.out HSTEP.out HI0.out, ← HZ.out]; rfl, BEL8.out⟩
        · have HI0 := Lib.hid hix
          have HIX := Lib.hid (show strings_IndexByte.f s1 92 = some (n : Int) from congrArg some hix)
          have hn0 : (0 : Int) ≤ (n : Int) := by omega
          have hns : (n : Int) ≤ (s1.size : Int) := by omega
          have hw1 : IntKind.i64.wrap ((n : Int) + 1) = (n : Int) + 1 := by rw [IntKind.wrap_i64]; have := HL.out; have := HSZ.out; omega
          have hn1 : (n : Int) + 1 ≤ (s1.size : Int) := by omega
          have hn2 : (0 : Int) ≤ (n : Int) + 1 := by omega
          have hn3 : ((n : Int) + 1).toNat = n + 1 := by omega
          have HN := Lib.hid hn
          clear hix hn
          go_wp2_with (first | (go_at_call 37; refine (strings_IndexByte.calls s1 92 (n : Int) _ HIX.out).mono ?_; rintro e w7 ⟨rfl, ⟨nd7, rfl⟩⟩) | (at_builtin; refine br_append_str (w0 := w) w.heap.size rfl (.tmp 155) (.tmp 158) 22 9 rfl Tryd.underlying22 Tryd.underlying9 infoB (.slice (some ⟨g1, 0, none⟩) n1 c1) Z (s1.extract 0 n) rfl rfl (ROW1.out.drewN _) (pw_below_drewN BEL1.out _) (pw_below_drewN BEL1.out _).size (by have h1 := HL.out; have h2 := HZL.out; have h3 := HSZ.out; (try simp only [ByteArray.size_extract]); omega) ?_; intro v8 w8 row8 bel8; obtain ⟨g8, c8, n8, rfl⟩ := br_form row8; have ROW8 := Lib.hid row8; have BEL8 := Lib.hid bel8; clear row8 bel8))
          go_roundg ((s1.extract (n + 1) s1.size).size + 1)
          case measure => have := HSZ.out; have := HK.out; simp only [ByteArray.size_extract]; omega
          case rel => exact ⟨k, (s1.extract (n + 1) s1.size), _, _, _, _, rfl, rfl, ROW8, BEL8, Lib.hid ⟨by have := HSZ.out; have := HKR.out.1; have := HN.out; simp only [ByteArray.size_extract]; omega, by rw [← HRES.out, uL_more HNZ.out HS1.out HSTEP.out HI0.out, ← HZ.out]⟩, Lib.hid (by have := HSZ.out; have := HL0.out; have := HZL.out; have := HN.out; simp only [List.length_append, bytesOf_length, ByteArray.size_extract] at *; omega), rfl⟩

end Go.Proofs.YtkhgbacbnkgafaaDoor.Un
