/- The reference's reader in memory, its small parts: what each leaves of the place where it stands. -/
import Derived.Test.YtkhgbacbnkgafaaDoorFrm
import Derived.Test.YtkhgbacbnkgafaaDoorJTree
import Derived.Test.YtkhgbacbnkgafaaDoorStr
import Derived.Deep.QuietTactic
import Derived.BigQuiet
import Derived.BigRegion
import Derived.Deep.LoopGhost
import Derived.Great.Walk
set_option linter.unusedVariables false
set_option linter.unusedSimpArgs false
namespace Go.Proofs.YtkhgbacbnkgafaaDoor.Spr
open Go Go.RowKit Go.Proofs.YtkhgbacbnkgafaaDoorW.PrintWords Go.Proofs.YtkhgbacbnkgafaaDoor.Fjh Go.Proofs.YtkhgbacbnkgafaaDoor.JTr

/-- The list l stands in s from k on. -/
def At (s : ByteArray) (k : Nat) (l : List Int) : Prop := k ≤ s.size ∧ (bytesOf s).drop k = l

theorem At.cons {s : ByteArray} {k : Nat} {c : Int} {t : List Int} (h : At s k (c :: t)) : k < s.size ∧ (∀ h : k < s.size, ((s[k]'h).toNat : Int) = c) ∧ At s (k + 1) t ∧ 0 ≤ c ∧ c ≤ 255 := by
  obtain ⟨h1, h2⟩ := h
  have h3 := StrL.bt_of_drop (s := s) (i := (k : Int)) (by omega) (by rw [show (k : Int).toNat = k from by omega]; exact h2)
  obtain ⟨e1, e2, e3⟩ := h3
  have hk : k < s.size := by omega
  have e4 : ((s[k]'hk).toNat : Int) = c := by
    rw [← e1]
    unfold bt
    rw [dif_pos (by omega)]
    rfl
  refine ⟨hk, fun _ => e4, ⟨by omega, ?_⟩, by rw [← e4]; omega, by rw [← e4]; have := (s[k]'hk).toNat_lt; omega⟩
  rw [show ((k : Int) + 1).toNat = k + 1 from by omega] at e3
  exact e3
theorem At.nil {s : ByteArray} {k : Nat} (h : At s k []) : k = s.size := by
  have h2 := congrArg List.length h.2
  have := h.1
  rw [List.length_drop, bytesOf_length] at h2
  simp only [List.length_nil] at h2
  omega
theorem At.len {s : ByteArray} {k : Nat} {l : List Int} (h : At s k l) : k + l.length = s.size := by
  have h2 := congrArg List.length h.2
  have := h.1
  rw [List.length_drop, bytesOf_length] at h2
  omega

/-- The reader at g stands at k of s. -/
structure RdI (w : World) (g : Nat) (s : ByteArray) (k : Nat) : Prop where
  c0 : w.cell? ⟨g, 0, none⟩ = some (.string s)
  f0 : w.frozen? ⟨g, 0, none⟩ = false
  c1 : w.cell? ⟨g, 1, none⟩ = some (.int .i64 k)
  f1 : w.frozen? ⟨g, 1, none⟩ = false
abbrev FrG (g : Nat) (w w' : World) : Prop := Fjh.Frame (fun x => x = ⟨g, 1, none⟩) w w'
/-- What a part of the reader leaves: it stands at k; nothing else of what was has turned. -/
structure RdP (g : Nat) (s : ByteArray) (k : Nat) (w w' : World) : Prop where
  st : RdI w' g s k
  fr : FrG g w w'

theorem RdI.lt {w : World} {g : Nat} {s : ByteArray} {k : Nat} (h : RdI w g s k) : g < w.heap.size := World.block_lt_of_cell? w _ h.c0
theorem RdI.same {w : World} {g : Nat} {s : ByteArray} {k : Nat} (h : RdI w g s k) (n : Nat) : RdP g s k w (w.drewN n) := ⟨⟨h.c0, h.f0, h.c1, h.f1⟩, (Fjh.Frame.refl _ w).drewN n⟩
theorem RdP.trans {g : Nat} {s : ByteArray} {k k' : Nat} {w w1 w2 : World} (h : RdP g s k w w1) (h' : RdP g s k' w1 w2) : RdP g s k' w w2 := ⟨h'.st, h.fr.trans h'.fr⟩
theorem RdP.drewN {g : Nat} {s : ByteArray} {k : Nat} {w w1 : World} (h : RdP g s k w w1) (n : Nat) : RdP g s k w (w1.drewN n) := h.trans (h.st.same n)
/-- The reader goes on to k'. -/
theorem RdP.set {g : Nat} {s : ByteArray} {k : Nat} {w w1 : World} (h : RdP g s k w w1) (k' : Nat) : RdP g s k' w (w1.setCell ⟨g, 1, none⟩ (.int .i64 k')) := by
  refine ⟨⟨(World.cell?_setCell_other _ _ _ _ (by simp)).trans h.st.c0, (World.frozen?_setCell _ _ _ _).trans h.st.f0, World.cell?_setCell_same _ _ _ h.st.c1, (World.frozen?_setCell _ _ _ _).trans h.st.f1⟩, h.fr.setCell rfl _⟩

theorem wrap_k {k n : Nat} (h : k ≤ n) (hn : n ≤ 2147483647) : IntKind.i64.wrap ((k : Int) + 1) = (k : Int) + 1 := by
  rw [IntKind.wrap_i64]
  omega

set_option maxRecDepth 100000 in
set_option maxHeartbeats 4000000 in
theorem rtake_yes {c : Int} {t : List Int} {g k : Nat} {s : ByteArray} {w : World} (hI : RdI w g s k) (hA : At s k (c :: t)) (hs : s.size ≤ 2147483647) :
    Calls Tryd.prog 34 #[.pointer (some ⟨g, 0, none⟩), .int .u8 c] w (fun e w' => e = .returned (.bool true) ∧ RdP g s (k + 1) w w') := by
  obtain ⟨hk, hx, -, -, -⟩ := hA.cons
  have hw := wrap_k (Nat.le_of_lt hk) hs
  have c0 := hI.c0
  have c1 := hI.c1
  have f1 := hI.f1
  have HI := Lib.hid hI
  have hd : decide ((k : Int) < (s.size : Int)) = true := decide_eq_true (by omega)
  have q1 : (k < s.size) = True := eq_true hk
  have h0 : (0 : Int) ≤ (k : Int) := by omega
  clear hI hA hs
  go_enter Tryd.func34, Tryd.ntmps34
  go_wp2
  go_quiet (fail)
  go_wp2
  go_ret
  exact ⟨rfl, ((HI.out.same _).set (k + 1))⟩

set_option maxRecDepth 100000 in
set_option maxHeartbeats 4000000 in
theorem rtake_nil {c : Int} {g k : Nat} {s : ByteArray} {w : World} (hI : RdI w g s k) (hA : At s k []) (hs : s.size ≤ 2147483647) :
    Calls Tryd.prog 34 #[.pointer (some ⟨g, 0, none⟩), .int .u8 c] w (fun e w' => e = .returned (.bool false) ∧ RdP g s k w w') := by
  have hk := hA.nil
  have c0 := hI.c0
  have c1 := hI.c1
  have HI := Lib.hid hI
  have hd : decide ((k : Int) < (s.size : Int)) = false := decide_eq_false (by omega)
  have hdn : decide (k < s.size) = false := decide_eq_false (by omega)
  clear hI hA hs hk
  go_enter Tryd.func34, Tryd.ntmps34
  go_wp2
  go_quiet (fail)
  go_wp2
  go_ret
  exact ⟨rfl, HI.out.same _⟩

set_option maxRecDepth 100000 in
set_option maxHeartbeats 4000000 in
theorem rtake_no {c d : Int} {t : List Int} {g k : Nat} {s : ByteArray} {w : World} (hI : RdI w g s k) (hA : At s k (d :: t)) (hne : d ≠ c) (hs : s.size ≤ 2147483647) :
    Calls Tryd.prog 34 #[.pointer (some ⟨g, 0, none⟩), .int .u8 c] w (fun e w' => e = .returned (.bool false) ∧ RdP g s k w w') := by
  obtain ⟨hk, hx, -, -, -⟩ := hA.cons
  have c0 := hI.c0
  have c1 := hI.c1
  have HI := Lib.hid hI
  have hd : decide ((k : Int) < (s.size : Int)) = true := decide_eq_true (by omega)
  have q1 : (k < s.size) = True := eq_true hk
  have h0 : (0 : Int) ≤ (k : Int) := by omega
  have hb : (d == c) = false := beq_eq_false_iff_ne.mpr hne
  clear hI hA hs hne
  go_enter Tryd.func34, Tryd.ntmps34
  go_wp2
  go_quiet (fail)
  go_wp2
  go_ret
  exact ⟨rfl, HI.out.same _⟩

set_option maxRecDepth 100000 in
set_option maxHeartbeats 4000000 in
theorem rhere_cons {c : Int} {t : List Int} {g k : Nat} {s : ByteArray} {w : World} (hI : RdI w g s k) (hA : At s k (c :: t)) :
    Calls Tryd.prog 23 #[.pointer (some ⟨g, 0, none⟩)] w (fun e w' => e = .returned (.int .u8 c) ∧ RdP g s k w w') := by
  obtain ⟨hk, hx, -, -, -⟩ := hA.cons
  have c0 := hI.c0
  have c1 := hI.c1
  have HI := Lib.hid hI
  have hd : decide ((k : Int) < (s.size : Int)) = true := decide_eq_true (by omega)
  have q1 : (k < s.size) = True := eq_true hk
  have h0 : (0 : Int) ≤ (k : Int) := by omega
  clear hI hA
  go_enter Tryd.func23, Tryd.ntmps23
  go_wp2
  go_quiet (fail)
  go_wp2
  go_quiet (fail)
  go_wp2
  go_ret
  exact ⟨rfl, (HI.out.same _).drewN _⟩

set_option maxRecDepth 100000 in
set_option maxHeartbeats 4000000 in
theorem rhere_nil {g k : Nat} {s : ByteArray} {w : World} (hI : RdI w g s k) (hA : At s k []) :
    Calls Tryd.prog 23 #[.pointer (some ⟨g, 0, none⟩)] w (fun e w' => e = .returned (.int .u8 0) ∧ RdP g s k w w') := by
  have hk := hA.nil
  have c0 := hI.c0
  have c1 := hI.c1
  have HI := Lib.hid hI
  have hd : decide ((k : Int) < (s.size : Int)) = false := decide_eq_false (by omega)
  have hdn : decide (k < s.size) = false := decide_eq_false (by omega)
  clear hI hA hk
  go_enter Tryd.func23, Tryd.ntmps23
  go_wp2
  go_quiet (fail)
  go_wp2
  go_ret
  exact ⟨rfl, HI.out.same _⟩

set_option maxRecDepth 100000 in
set_option maxHeartbeats 4000000 in
theorem rblank {c : Int} {w : World} : Calls Tryd.prog 22 #[.int .u8 c] w (fun e w' => e = .returned (.bool (isWs c)) ∧ w' = w) := by
  by_cases h1 : c = 32
  · have hb : (c == 32) = true := by simp [h1]
    have hr : isWs c = true := by simp [isWs, h1]
    clear h1
    go_enter Tryd.func22, Tryd.ntmps22
    go_wp2
    go_ret
    exact ⟨by rw [hr]; rfl, rfl⟩
  have hb1 : (c == 32) = false := by simp [h1]
  by_cases h2 : c = 9
  · have hb : (c == 9) = true := by simp [h2]
    have hr : isWs c = true := by simp [isWs, h2]
    clear h1 h2
    go_enter Tryd.func22, Tryd.ntmps22
    go_wp2
    go_ret
    exact ⟨by rw [hr]; rfl, rfl⟩
  have hb2 : (c == 9) = false := by simp [h2]
  by_cases h3 : c = 10
  · have hb : (c == 10) = true := by simp [h3]
    have hr : isWs c = true := by simp [isWs, h3]
    clear h1 h2 h3
    go_enter Tryd.func22, Tryd.ntmps22
    go_wp2
    go_ret
    exact ⟨by rw [hr]; rfl, rfl⟩
  have hb3 : (c == 10) = false := by simp [h3]
  have hr : isWs c = (c == 13) := by
    unfold isWs
    rw [Bool.eq_iff_iff]
    simp only [decide_eq_true_eq, beq_iff_eq]
    omega
  clear h1 h2 h3
  go_enter Tryd.func22, Tryd.ntmps22
  go_wp2
  go_ret
  exact ⟨by rw [hr]; rfl, rfl⟩

set_option maxRecDepth 100000 in
set_option maxHeartbeats 4000000 in
theorem rblanks {l : List Int} {g k : Nat} {s : ByteArray} {w : World} (hI : RdI w g s k) (hA : At s k l) (hs : s.size ≤ 2147483647) :
    Calls Tryd.prog 12 #[.pointer (some ⟨g, 0, none⟩)] w (fun e w' => e = .returned (.tuple #[]) ∧ ∃ k', At s k' (ws l) ∧ RdP g s k' w w') := by
  have HI := Lib.hid hI
  have HA := Lib.hid hA
  clear hI hA
  go_enter Tryd.func12, Tryd.ntmps12
  go_wp2
  go_loopg [] (l.length + 1) (fun kq w' => ∃ (k1 : Nat) (l1 : List Int), Hid (kq = l1.length + 1) ∧ Hid (At s k1 l1) ∧ Hid (ws l1 = ws l) ∧ Hid (RdP g s k1 w w'))
  case atStart => exact ⟨k, l, Lib.hid rfl, HA, Lib.hid rfl, Lib.hid (HI.out.same 0)⟩
  case round =>
    obtain ⟨k1, l1, HK, HA1, HW, HP⟩ := hrel
    have c0 := HP.out.st.c0
    have c1 := HP.out.st.c1
    have f1 := HP.out.st.f1
    cases l1 with
    | nil =>
      have hd : decide ((k1 : Int) < (s.size : Int)) = false := decide_eq_false (by have := HA1.out.nil; omega)
      have hdn : decide (k1 < s.size) = false := decide_eq_false (by have := HA1.out.nil; omega)
      go_wp2
      go_quiet (fail)
      go_wp2
      refine Go.Great.bodyPost_end0 rfl rfl ?_
      refine ⟨rfl, k1, ?_, HP.out.drewN _⟩
      rw [← HW.out]; exact HA1.out
    | cons c t =>
      obtain ⟨hk, hx, hA2, -, -⟩ := HA1.out.cons
      have HA2 := Lib.hid hA2
      have hw := wrap_k (Nat.le_of_lt hk) hs
      have hd : decide ((k1 : Int) < (s.size : Int)) = true := decide_eq_true (by omega)
      have q1 : (k1 < s.size) = True := eq_true hk
      have h0 : (0 : Int) ≤ (k1 : Int) := by omega
      have HC := Lib.hid (show ∀ n, Calls Tryd.prog 22 #[.int .u8 c] (wr.drewN n) (fun e w' => e = .returned (.bool (isWs c)) ∧ w' = wr.drewN n) from fun n => rblank)
      clear hA2
      cases hwc : isWs c with
      | true =>
        rw [hwc] at HC
        have HWC := Lib.hid hwc
        clear hwc
        go_wp2
        go_quiet ((go_at_call 22; exact Calls.quiet_of_same (HC.out _)))
        go_wp2
        go_roundg (t.length + 1)
        case measure => rw [HK.out]; simp
        case rel => exact ⟨k1 + 1, t, Lib.hid rfl, HA2, Lib.hid (by rw [← HW.out]; simp only [ws]; rw [if_pos HWC.out]), Lib.hid ((HP.out.drewN _).set (k1 + 1))⟩
      | false =>
        rw [hwc] at HC
        have HWC := Lib.hid hwc
        clear hwc
        go_wp2
        go_quiet ((go_at_call 22; exact Calls.quiet_of_same (HC.out _)))
        go_wp2
        refine Go.Great.bodyPost_end0 rfl rfl ?_
        refine ⟨rfl, k1, ?_, HP.out.drewN _⟩
        rw [← HW.out, ws_cons_not (by rw [HWC.out]; simp)]; exact HA1.out

theorem isDig_le {c : Int} (h : isDig c = true) : 48 ≤ c ∧ c ≤ 57 := by simpa [isDig] using h

/-- The first of a list, 0 if there is none. -/
def hd0 : List Int → Int
  | [] => 0
  | c :: _ => c

/-- What stands here, 0 at the end. -/
theorem rhere {l : List Int} {g k : Nat} {s : ByteArray} {w : World} (hI : RdI w g s k) (hA : At s k l) :
    Calls Tryd.prog 23 #[.pointer (some ⟨g, 0, none⟩)] w (fun e w' => e = .returned (.int .u8 (hd0 l)) ∧ RdP g s k w w') := by
  cases l with
  | nil => exact rhere_nil hI hA
  | cons c t => exact rhere_cons hI hA

set_option maxRecDepth 100000 in
set_option maxHeartbeats 4000000 in
theorem rdigits {l : List Int} {g k : Nat} {s : ByteArray} {w : World} (hI : RdI w g s k) (hA : At s k l) (hs : s.size ≤ 2147483647) :
    Calls Tryd.prog 36 #[.pointer (some ⟨g, 0, none⟩)] w (fun e w' => e = .returned (.bool (digs1 l).isSome) ∧ ∃ k', At s k' (digs l) ∧ RdP g s k' w w') := by
  have HI := Lib.hid hI
  have HA := Lib.hid hA
  have c1 := hI.c1
  clear hI hA
  go_enter Tryd.func36, Tryd.ntmps36
  go_wp2_with (first | (go_at_call 23; refine (rhere HI.out HA.out).mono ?_; rintro e w1 ⟨rfl, hp⟩; have HP1 := Lib.hid hp; clear hp; try exact ⟨rfl, ‹_›⟩))
  go_loopg [4] (l.length + 1) (fun kq v4 w' => ∃ (k1 : Nat) (l1 : List Int) (c : Int), v4 = .int .u8 c ∧ Hid (c = hd0 l1) ∧ Hid (kq = l1.length + 1) ∧ Hid (At s k1 l1) ∧ Hid (digs l1 = digs l) ∧ Hid ((k1 = k ∧ l1 = l) ∨ (k < k1 ∧ (digs1 l).isSome = true)) ∧ Hid (RdP g s k1 w w'))
  case atStart => exact ⟨k, l, _, rfl, Lib.hid rfl, Lib.hid rfl, HA, Lib.hid rfl, Lib.hid (.inl ⟨rfl, rfl⟩), HP1⟩
  case round =>
    obtain ⟨k1, l1, c, rfl, HC, HK, HA1, HD, HW, HP⟩ := hrel
    have c1r := HP.out.st.c1
    have f1r := HP.out.st.f1
    by_cases hdg : isDig c = true
    · obtain ⟨d1, d2⟩ := isDig_le hdg
      have t1 : decide (48 ≤ c) = true := decide_eq_true d1
      have t2 : decide (c ≤ 57) = true := decide_eq_true d2
      have HDG := Lib.hid hdg
      cases l1 with
      | nil => have := HC.out; simp [hd0] at this; omega
      | cons c' t =>
        obtain rfl : c = c' := HC.out
        obtain ⟨hk, hx, hA2, -, -⟩ := HA1.out.cons
        have HA2 := Lib.hid hA2
        have hw := wrap_k (Nat.le_of_lt hk) hs
        have hP2 := HP.out.set (k1 + 1)
        have HP2 := Lib.hid hP2
        clear hP2 hA2 hdg d1 d2
        go_wp2_with (first | (go_at_call 23; refine (rhere HP2.out.st HA2.out).mono ?_; rintro e w4 ⟨rfl, hp⟩; have HP4 := Lib.hid (HP2.out.trans hp); clear hp; try exact ⟨rfl, ‹_›⟩))
        go_roundg (t.length + 1)
        case measure => rw [HK.out]; simp
        case rel =>
          refine ⟨k1 + 1, t, _, rfl, Lib.hid rfl, Lib.hid rfl, HA2, Lib.hid ?_, Lib.hid (.inr ?_), HP4⟩
          · rw [← HD.out]; simp only [digs]; rw [if_pos HDG.out]
          · rcases HW.out with ⟨e1, e2⟩ | ⟨e1, e2⟩
            · refine ⟨by omega, ?_⟩
              rw [← e2]
              simp only [digs1]
              rw [if_pos HDG.out]; rfl
            · exact ⟨by omega, e2⟩
    · have hstop : digs l1 = l1 := by
        cases l1 with
        | nil => rfl
        | cons c' t =>
          obtain rfl : c = c' := HC.out
          simp only [digs]
          rw [if_neg hdg]
      have hres : (k1 = k ∧ (digs1 l).isSome = false) ∨ (k < k1 ∧ (digs1 l).isSome = true) := by
        rcases HW.out with ⟨e1, e2⟩ | h2
        · refine .inl ⟨e1, ?_⟩
          rw [← e2]
          cases l1 with
          | nil => rfl
          | cons c' t =>
            obtain rfl : c = c' := HC.out
            simp only [digs1]
            rw [if_neg hdg]; rfl
        · exact .inr h2
      have hA9 : At s k1 (digs l) := by rw [← HD.out, hstop]; exact HA1.out
      have HA9 := Lib.hid hA9
      have ht : (decide (48 ≤ c) = true ∧ decide (c ≤ 57) = false) ∨ decide (48 ≤ c) = false := by
        by_cases h1 : 48 ≤ c
        · refine .inl ⟨decide_eq_true h1, decide_eq_false (fun h2 => hdg (by simp [isDig, h1, h2]))⟩
        · exact .inr (decide_eq_false h1)
      clear hdg hstop hA9
      rcases hres with ⟨rfl, hr⟩ | ⟨hlt, hr⟩
      · rcases ht with ⟨t1, t2⟩ | t1
        · go_wp2
          go_ret
          exact ⟨by first | rfl | (rw [hr]; rfl), k1, HA9.out, HP.out⟩
        · go_wp2
          go_ret
          exact ⟨by first | rfl | (rw [hr]; rfl), k1, HA9.out, HP.out⟩
      · have hd : decide ((k : Int) < (k1 : Int)) = true := decide_eq_true (by omega)
        have hdn : decide (k < k1) = true := decide_eq_true hlt
        rcases ht with ⟨t1, t2⟩ | t1
        · go_wp2
          go_ret
          exact ⟨by first | rfl | (rw [hr]; rfl), k1, HA9.out, HP.out⟩
        · go_wp2
          go_ret
          exact ⟨by first | rfl | (rw [hr]; rfl), k1, HA9.out, HP.out⟩
end Go.Proofs.YtkhgbacbnkgafaaDoor.Spr

/- The reference's reader in memory: digits of escapes, strings. -/
set_option linter.unusedVariables false
set_option linter.unusedSimpArgs false
namespace Go.Proofs.YtkhgbacbnkgafaaDoor.Spr
open Go Go.RowKit Go.Proofs.YtkhgbacbnkgafaaDoorW.PrintWords Go.Proofs.YtkhgbacbnkgafaaDoor.Fjh Go.Proofs.YtkhgbacbnkgafaaDoor.JTr

/-- A hexadecimal digit's value. -/
def hexv (c : Int) : Int := if 48 ≤ c ∧ c ≤ 57 then c - 48 else if 97 ≤ c ∧ c ≤ 102 then c - 97 + 10 else if 65 ≤ c ∧ c ≤ 70 then c - 65 + 10 else 0
theorem wrap_u8 {x : Int} (h0 : 0 ≤ x) (h1 : x ≤ 255) : IntKind.u8.wrap x = x := by rw [IntKind.wrap_u8]; omega
theorem wrap_sm {x : Int} (h0 : 0 ≤ x) (h1 : x ≤ 2147483648) : IntKind.i64.wrap x = x := by rw [IntKind.wrap_i64]; omega
set_option maxRecDepth 100000 in
set_option maxHeartbeats 4000000 in
theorem rhex {c : Int} (h0 : 0 ≤ c) (h9 : c ≤ 255) {w : World} : Calls Tryd.prog 46 #[.int .u8 c] w (fun e w' => e = .returned (.tuple #[.int .i64 (hexv c), .bool (isHex c)]) ∧ w' = w) := by
  by_cases a1 : 48 ≤ c ∧ c ≤ 57
  · have t1 : decide (48 ≤ c) = true := decide_eq_true a1.1
    have t2 : decide (c ≤ 57) = true := decide_eq_true a1.2
    have w1 := wrap_u8 (x := c - 48) (by omega) (by omega)
    have w2 := wrap_sm (x := c - 48) (by omega) (by omega)
    have hr : hexv c = c - 48 ∧ isHex c = true := ⟨by simp [hexv, a1], by simp [isHex, a1]⟩
    clear a1 h0 h9
    go_enter Tryd.func46, Tryd.ntmps46
    go_wp2
    go_ret2
    exact ⟨by rw [hr.1, hr.2]; rfl, rfl⟩
  have t1 : (decide (48 ≤ c) = true ∧ decide (c ≤ 57) = false) ∨ decide (48 ≤ c) = false := by
    by_cases h : 48 ≤ c
    · exact .inl ⟨decide_eq_true h, decide_eq_false (fun h' => a1 ⟨h, h'⟩)⟩
    · exact .inr (decide_eq_false h)
  by_cases a2 : 97 ≤ c ∧ c ≤ 102
  · have t3 : decide (97 ≤ c) = true := decide_eq_true a2.1
    have t4 : decide (c ≤ 102) = true := decide_eq_true a2.2
    have w1 := wrap_u8 (x := c - 97) (by omega) (by omega)
    have w2 := wrap_sm (x := c - 97) (by omega) (by omega)
    have w3 := wrap_sm (x := c - 97 + 10) (by omega) (by omega)
    have hr : hexv c = c - 97 + 10 ∧ isHex c = true := ⟨by simp [hexv, a1, a2], by simp [isHex, a2]⟩
    clear a1 a2 h0 h9
    rcases t1 with ⟨t1, t2⟩ | t1
    all_goals
      go_enter Tryd.func46, Tryd.ntmps46
      go_wp2
      go_ret2
      exact ⟨by rw [hr.1, hr.2]; rfl, rfl⟩
  have t3 : (decide (97 ≤ c) = true ∧ decide (c ≤ 102) = false) ∨ decide (97 ≤ c) = false := by
    by_cases h : 97 ≤ c
    · exact .inl ⟨decide_eq_true h, decide_eq_false (fun h' => a2 ⟨h, h'⟩)⟩
    · exact .inr (decide_eq_false h)
  by_cases a3 : 65 ≤ c ∧ c ≤ 70
  · have t5 : decide (65 ≤ c) = true := decide_eq_true a3.1
    have t6 : decide (c ≤ 70) = true := decide_eq_true a3.2
    have w1 := wrap_u8 (x := c - 65) (by omega) (by omega)
    have w2 := wrap_sm (x := c - 65) (by omega) (by omega)
    have w3 := wrap_sm (x := c - 65 + 10) (by omega) (by omega)
    have hr : hexv c = c - 65 + 10 ∧ isHex c = true := ⟨by simp [hexv, a1, a2, a3], by simp [isHex, a3]⟩
    clear a1 a2 a3 h0 h9
    rcases t1 with ⟨t1, t2⟩ | t1 <;> rcases t3 with ⟨t3, t4⟩ | t3
    all_goals
      go_enter Tryd.func46, Tryd.ntmps46
      go_wp2
      go_ret2
      exact ⟨by rw [hr.1, hr.2]; rfl, rfl⟩
  have t5 : (decide (65 ≤ c) = true ∧ decide (c ≤ 70) = false) ∨ decide (65 ≤ c) = false := by
    by_cases h : 65 ≤ c
    · exact .inl ⟨decide_eq_true h, decide_eq_false (fun h' => a3 ⟨h, h'⟩)⟩
    · exact .inr (decide_eq_false h)
  have hr : hexv c = 0 ∧ isHex c = false := ⟨by simp [hexv, a1, a2, a3], by simp only [isHex, decide_eq_false_iff_not]; omega⟩
  clear a1 a2 a3 h0 h9
  rcases t1 with ⟨t1, t2⟩ | t1 <;> rcases t3 with ⟨t3, t4⟩ | t3 <;> rcases t5 with ⟨t5, t6⟩ | t5
  all_goals
    go_enter Tryd.func46, Tryd.ntmps46
    go_wp2
    go_ret2
    exact ⟨by rw [hr.1, hr.2]; rfl, rfl⟩

/-- What stands behind a backslash. -/
def esc (l : List Int) : Option (List Int) := match l with
  | [] => none
  | d :: t' => if isShort d = true then some t' else if d = 117 then hexs 4 t' else none
theorem str_cons (n : Nat) (c : Int) (t : List Int) : str (n + 1) (c :: t) = if c = 34 then some t else if c < 32 then none else if c = 92 then (esc t).bind (str n) else str n t := by
  simp only [str]
  congr 1
  congr 1
  congr 1
  cases t with
  | nil => rfl
  | cons d t' =>
    simp only [esc]
    split
    · rfl
    · split <;> rfl
set_option maxRecDepth 100000 in
set_option maxHeartbeats 4000000 in
theorem resc_short {d : Int} {t : List Int} {g k : Nat} {s : ByteArray} {w : World} (hI : RdI w g s k) (hA : At s k (d :: t)) (hs : s.size ≤ 2147483647) (hd : isShort d = true) :
    Calls Tryd.prog 35 #[.pointer (some ⟨g, 0, none⟩)] w (fun e w' => e = .returned (.bool true) ∧ RdP g s (k + 1) w w') := by
  have HI := Lib.hid hI
  have HA := Lib.hid hA
  have hw := wrap_k (Nat.le_of_lt hA.cons.1) hs
  have hd' : d = 34 ∨ d = 92 ∨ d = 47 ∨ d = 98 ∨ d = 102 ∨ d = 110 ∨ d = 114 ∨ d = 116 := by simpa [isShort] using hd
  clear hI hA hd
  rcases hd' with rfl | rfl | rfl | rfl | rfl | rfl | rfl | rfl
  all_goals
    go_enter Tryd.func35, Tryd.ntmps35
    go_wp2_with (first | (go_at_call 23; refine (rhere HI.out HA.out).mono ?_; rintro e w1 ⟨rfl, hp⟩; have HP1 := Lib.hid hp; have c11 := hp.st.c1; have f11 := hp.st.f1; clear hp; simp only [hd0]; try exact ⟨rfl, ‹_›⟩))
    go_ret
    exact ⟨rfl, HP1.out.set (k + 1)⟩
set_option maxRecDepth 100000 in
set_option maxHeartbeats 4000000 in
theorem resc_none {l : List Int} {g k : Nat} {s : ByteArray} {w : World} (hI : RdI w g s k) (hA : At s k l) (hs : s.size ≤ 2147483647) (hd : isShort (hd0 l) = false) (hu : hd0 l ≠ 117) :
    Calls Tryd.prog 35 #[.pointer (some ⟨g, 0, none⟩)] w (fun e w' => e = .returned (.bool false) ∧ RdP g s k w w') := by
  have HI := Lib.hid hI
  have HA := Lib.hid hA
  obtain ⟨d, he⟩ : ∃ d, d = hd0 l := ⟨_, rfl⟩
  rw [← he] at hd hu
  have hn : ¬ (d = 34 ∨ d = 92 ∨ d = 47 ∨ d = 98 ∨ d = 102 ∨ d = 110 ∨ d = 114 ∨ d = 116) := by simpa [isShort] using hd
  have b1 : (d == 34) = false := beq_eq_false_iff_ne.mpr (by omega)
  have b2 : (d == 92) = false := beq_eq_false_iff_ne.mpr (by omega)
  have b3 : (d == 47) = false := beq_eq_false_iff_ne.mpr (by omega)
  have b4 : (d == 98) = false := beq_eq_false_iff_ne.mpr (by omega)
  have b5 : (d == 102) = false := beq_eq_false_iff_ne.mpr (by omega)
  have b6 : (d == 110) = false := beq_eq_false_iff_ne.mpr (by omega)
  have b7 : (d == 114) = false := beq_eq_false_iff_ne.mpr (by omega)
  have b8 : (d == 116) = false := beq_eq_false_iff_ne.mpr (by omega)
  have b9 : (d == 117) = false := beq_eq_false_iff_ne.mpr hu
  have HE := Lib.hid he
  clear hI hA hd hn hu he
  go_enter Tryd.func35, Tryd.ntmps35
  go_wp2_with (first | (go_at_call 23; refine (rhere HI.out HA.out).mono ?_; rintro e w1 ⟨rfl, hp⟩; have HP1 := Lib.hid hp; clear hp; rw [← HE.out]; try exact ⟨rfl, ‹_›⟩))
  go_ret
  exact ⟨rfl, HP1.out⟩
set_option maxRecDepth 100000 in
set_option maxHeartbeats 4000000 in
theorem resc_u {t : List Int} {g k : Nat} {s : ByteArray} {w : World} (hI : RdI w g s k) (hA : At s k (117 :: t)) (hs : s.size ≤ 2147483647) :
    Calls Tryd.prog 35 #[.pointer (some ⟨g, 0, none⟩)] w (fun e w' => e = .returned (.bool (hexs 4 t).isSome) ∧ ∃ k', (∀ r, hexs 4 t = some r → At s k' r) ∧ RdP g s k' w w') := by
  have HI := Lib.hid hI
  have HA := Lib.hid hA
  obtain ⟨hk, -, hA2, -, -⟩ := hA.cons
  have hw := wrap_k (Nat.le_of_lt hk) hs
  have HA2 := Lib.hid hA2
  clear hI hA hA2 hk
  go_enter Tryd.func35, Tryd.ntmps35
  go_wp2_with (first | (go_at_call 23; refine (rhere HI.out HA.out).mono ?_; rintro e w1 ⟨rfl, hp⟩; have HP1 := Lib.hid hp; have c11 := hp.st.c1; have f11 := hp.st.f1; clear hp; simp only [hd0]; try exact ⟨rfl, ‹_›⟩))
  go_loopg [3] 5 (fun kq v3 w' => ∃ (i k1 : Nat) (l1 : List Int), v3 = .int .i64 i ∧ i ≤ 4 ∧ Hid (kq = 5 - i) ∧ Hid (At s k1 l1) ∧ Hid (hexs (4 - i) l1 = hexs 4 t) ∧ Hid (RdP g s k1 w w'))
  case atStart => exact ⟨0, k + 1, t, rfl, by omega, Lib.hid rfl, HA2, Lib.hid rfl, Lib.hid (HP1.out.set (k + 1))⟩
  case round =>
    clear c11 f11 hw
    obtain ⟨i, k1, l1, rfl, hi, HK, HA1, HX, HP⟩ := hrel
    rcases Nat.lt_or_ge i 4 with hlt | hge
    · have hd1 : decide ((i : Int) < 4) = true := decide_eq_true (by omega)
      have hwi : IntKind.i64.wrap ((i : Int) + 1) = (i : Int) + 1 := wrap_sm (by omega) (by omega)
      obtain ⟨n, hn⟩ : ∃ n, 4 - i = n + 1 := ⟨3 - i, by omega⟩
      cases l1 with
      | nil =>
        have hr : hexs 4 t = none := by rw [← HX.out, hn]; rfl
        have hh : isHex (hd0 []) = false := by decide
        have HC := Lib.hid (fun w2 => rhex (c := hd0 []) (by decide) (by decide) (w := w2))
        rw [hh] at HC
        go_wp2_with (first | (go_at_call 23; refine (rhere HP.out.st HA1.out).mono ?_; rintro e w4 ⟨rfl, hp⟩; have HP4 := Lib.hid (HP.out.trans hp); clear hp; try exact ⟨rfl, ‹_›⟩) | (go_at_call 46; refine (HC.out _).mono ?_; rintro e w5 ⟨rfl, rfl⟩; try exact ⟨rfl, ‹_›⟩))
        go_ret
        rw [hr]
        exact ⟨rfl, k1, (fun r h => by cases h), HP4.out⟩
      | cons c t1 =>
        obtain ⟨hk, -, hA2, h0, h9⟩ := HA1.out.cons
        have hw := wrap_k (Nat.le_of_lt hk) hs
        have HA2 := Lib.hid hA2
        have HC := Lib.hid (fun w2 => rhex (c := hd0 (c :: t1)) h0 h9 (w := w2))
        cases hh : isHex c with
        | false =>
          have hr : hexs 4 t = none := by rw [← HX.out, hn]; simp [hexs, hh]
          rw [show isHex (hd0 (c :: t1)) = false from hh] at HC
          clear hA2 h0 h9 hh
          go_wp2_with (first | (go_at_call 23; refine (rhere HP.out.st HA1.out).mono ?_; rintro e w4 ⟨rfl, hp⟩; have HP4 := Lib.hid (HP.out.trans hp); clear hp; try exact ⟨rfl, ‹_›⟩) | (go_at_call 46; refine (HC.out _).mono ?_; rintro e w5 ⟨rfl, rfl⟩; try exact ⟨rfl, ‹_›⟩))
          go_ret
          rw [hr]
          exact ⟨rfl, k1, (fun r h => by cases h), HP4.out⟩
        | true =>
          have hr : hexs n t1 = hexs 4 t := by rw [← HX.out, hn]; simp [hexs, hh]
          have HR := Lib.hid hr
          rw [show isHex (hd0 (c :: t1)) = true from hh] at HC
          clear hA2 h0 h9 hh hr
          go_wp2_with (first | (go_at_call 23; refine (rhere HP.out.st HA1.out).mono ?_; rintro e w4 ⟨rfl, hp⟩; have HP4 := Lib.hid (HP.out.trans hp); have c14 := hp.st.c1; have f14 := hp.st.f1; clear hp; try exact ⟨rfl, ‹_›⟩) | (go_at_call 46; refine (HC.out _).mono ?_; rintro e w5 ⟨rfl, rfl⟩; try exact ⟨rfl, ‹_›⟩))
          go_roundg (4 - i)
          case measure => rw [HK.out]; omega
          case rel => exact ⟨i + 1, k1 + 1, t1, rfl, by omega, Lib.hid (by omega), HA2, Lib.hid (by rw [← HR.out]; congr 1; omega), Lib.hid (HP4.out.set (k1 + 1))⟩
    · have hd1 : decide ((i : Int) < 4) = false := decide_eq_false (by omega)
      have hr : hexs 4 t = some l1 := by rw [← HX.out, show 4 - i = 0 from by omega]; rfl
      go_wp2
      go_ret
      rw [hr]
      exact ⟨rfl, k1, (fun r h => by obtain rfl := Option.some.inj h; exact HA1.out), HP.out⟩

theorem resc {l : List Int} {g k : Nat} {s : ByteArray} {w : World} (hI : RdI w g s k) (hA : At s k l) (hs : s.size ≤ 2147483647) :
    Calls Tryd.prog 35 #[.pointer (some ⟨g, 0, none⟩)] w (fun e w' => e = .returned (.bool (esc l).isSome) ∧ ∃ k', (∀ r, esc l = some r → At s k' r) ∧ RdP g s k' w w') := by
  cases l with
  | nil =>
    refine (resc_none hI hA hs (by decide) (by decide)).mono ?_
    rintro e w' ⟨rfl, hp⟩
    exact ⟨rfl, k, fun r h => by simp [esc] at h, hp⟩
  | cons d t =>
    by_cases h1 : isShort d = true
    · refine (resc_short hI hA hs h1).mono ?_
      rintro e w' ⟨rfl, hp⟩
      have he : esc (d :: t) = some t := by simp only [esc]; rw [if_pos h1]
      rw [he]
      exact ⟨rfl, k + 1, fun r h => by obtain rfl := Option.some.inj h; exact hA.cons.2.2.1, hp⟩
    · by_cases h2 : d = 117
      · subst h2
        have he : esc (117 :: t) = hexs 4 t := by simp only [esc]; rw [if_neg h1]; simp
        rw [he]
        exact resc_u hI hA hs
      · have he : esc (d :: t) = none := by simp only [esc]; rw [if_neg h1, if_neg h2]
        rw [he]
        refine (resc_none hI hA hs (show isShort d = false by simpa using h1) h2).mono ?_
        rintro e w' ⟨rfl, hp⟩
        exact ⟨rfl, k, fun r h => by simp at h, hp⟩
end Go.Proofs.YtkhgbacbnkgafaaDoor.Spr

/- The reference's reader in memory: strings, words, numbers. -/
set_option linter.unusedVariables false
set_option linter.unusedSimpArgs false
namespace Go.Proofs.YtkhgbacbnkgafaaDoor.Spr
open Go Go.RowKit Go.Proofs.YtkhgbacbnkgafaaDoorW.PrintWords Go.Proofs.YtkhgbacbnkgafaaDoor.Fjh Go.Proofs.YtkhgbacbnkgafaaDoor.JTr

set_option maxRecDepth 100000 in
set_option maxHeartbeats 4000000 in
theorem rquoted {n : Nat} {q : Int} {l : List Int} {g k : Nat} {s : ByteArray} {w : World} (hI : RdI w g s k) (hA : At s k (q :: l)) (hs : s.size ≤ 2147483647) (hn : l.length < n) :
    Calls Tryd.prog 26 #[.pointer (some ⟨g, 0, none⟩)] w (fun e w' => e = .returned (.bool (str n l).isSome) ∧ ∃ k', (∀ r, str n l = some r → At s k' r) ∧ RdP g s k' w w') := by
  have HI := Lib.hid hI
  obtain ⟨hk, -, hA1, -, -⟩ := hA.cons
  have hw := wrap_k (Nat.le_of_lt hk) hs
  have HA1 := Lib.hid hA1
  have HN := Lib.hid hn
  have c1 := hI.c1
  have f1 := hI.f1
  clear hI hA hA1 hn
  go_enter Tryd.func26, Tryd.ntmps26
  go_wp2
  go_loopg [3] (n + 1) (fun kq v3 w' => ∃ (k1 n1 : Nat) (l1 : List Int), Hid (kq = n1 + 1) ∧ Hid (l1.length < n1) ∧ Hid (At s k1 l1) ∧ Hid (str n1 l1 = str n l) ∧ Hid (RdP g s k1 w w'))
  case atStart => exact ⟨k + 1, n, l, Lib.hid rfl, HN, HA1, Lib.hid rfl, Lib.hid ((HI.out.same 0).set (k + 1))⟩
  case round =>
    clear c1 f1 hw hk
    obtain ⟨k1, n1, l1, HK, HL, HA2, HX, HP⟩ := hrel
    have c0 := HP.out.st.c0
    have c1 := HP.out.st.c1
    have f1 := HP.out.st.f1
    cases n1 with
    | zero => have := HL.out; omega
    | succ n2 =>
    cases l1 with
    | nil =>
      have hd : decide ((k1 : Int) < (s.size : Int)) = false := decide_eq_false (by have := HA2.out.nil; omega)
      have hdn : decide (k1 < s.size) = false := decide_eq_false (by have := HA2.out.nil; omega)
      have hr : str n l = none := by rw [← HX.out]; rfl
      go_wp2
      go_quiet (fail)
      go_wp2
      go_ret
      rw [hr]
      exact ⟨rfl, k1, (fun r h => by cases h), HP.out.drewN _⟩
    | cons c t =>
      obtain ⟨hk, hx, hA3, h0, h9⟩ := HA2.out.cons
      have HA3 := Lib.hid hA3
      have hw := wrap_k (Nat.le_of_lt hk) hs
      have hd : decide ((k1 : Int) < (s.size : Int)) = true := decide_eq_true (by omega)
      have q1 : (k1 < s.size) = True := eq_true hk
      have hk0 : (0 : Int) ≤ (k1 : Int) := by omega
      have hl := HL.out
      simp only [List.length_cons] at hl
      have HLT := Lib.hid (show t.length < n2 by omega)
      clear hA3 hl
      have hst := HX.out
      rw [str_cons] at hst
      by_cases e34 : c = 34
      · rw [if_pos e34] at hst
        have b1 : (c == 34) = true := by simp [e34]
        clear e34
        go_wp2
        go_quiet (fail)
        go_wp2
        go_quiet (fail)
        go_wp2
        go_ret
        rw [← hst]
        exact ⟨rfl, k1 + 1, (fun r h => by obtain rfl := Option.some.inj h; exact HA3.out), (HP.out.drewN _).set (k1 + 1)⟩
      rw [if_neg e34] at hst
      have b1 : (c == 34) = false := by simp [e34]
      by_cases e32 : c < 32
      · rw [if_pos e32] at hst
        have b2 : decide (c < 32) = true := decide_eq_true e32
        clear e34 e32
        go_wp2
        go_quiet (fail)
        go_wp2
        go_quiet (fail)
        go_wp2
        go_ret
        rw [← hst]
        exact ⟨rfl, k1 + 1, (fun r h => by cases h), (HP.out.drewN _).set (k1 + 1)⟩
      rw [if_neg e32] at hst
      have b2 : decide (c < 32) = false := decide_eq_false e32
      by_cases e92 : c = 92
      · rw [if_pos e92] at hst
        have b3 : (c == 92) = true := by simp [e92]
        have HE := Lib.hid (fun w2 (h : RdI w2 g s (k1 + 1)) => resc h HA3.out hs)
        have HST := Lib.hid hst
        clear e34 e32 e92 hst
        cases he : esc t with
        | none =>
          rw [he] at HE
          have hr : str n l = none := by rw [← HST.out, he]; rfl
          clear he
          go_wp2
          go_quiet (fail)
          go_wp2
          go_quiet (fail)
          have hP4 := fun m => (HP.out.drewN m).set (k1 + 1)
          have HP4 := Lib.hid hP4
          clear hP4
          go_wp2_with (first | (go_at_call 35; refine (HE.out _ (HP4.out _).st).mono ?_; rintro e w5 ⟨rfl, k5, hk5, hp⟩; have HP5 := Lib.hid ((HP4.out _).trans hp); clear hp hk5; try exact ⟨rfl, ‹_›⟩))
          go_ret
          rw [hr]
          exact ⟨rfl, k5, (fun r h => by cases h), HP5.out⟩
        | some l2 =>
          rw [he] at HE
          have hr : str n2 l2 = str n l := by rw [← HST.out, he]; rfl
          have HR := Lib.hid hr
          have hlen : l2.length ≤ t.length := by
            cases t with
            | nil => simp [esc] at he
            | cons d t' =>
              simp only [esc] at he
              split at he
              · injection he with he; subst he; simp
              · split at he
                · obtain ⟨x, hx, -, -⟩ := hexs_split 4 he
                  rw [hx]; simp; omega
                · cases he
          have HL2 := Lib.hid hlen
          clear he hr hlen
          go_wp2
          go_quiet (fail)
          go_wp2
          go_quiet (fail)
          have hP4 := fun m => (HP.out.drewN m).set (k1 + 1)
          have HP4 := Lib.hid hP4
          clear hP4
          go_wp2_with (first | (go_at_call 35; refine (HE.out _ (HP4.out _).st).mono ?_; rintro e w5 ⟨rfl, k5, hk5, hp⟩; have HP5 := Lib.hid ((HP4.out _).trans hp); have HK5 := Lib.hid (hk5 l2 rfl); clear hp hk5; try exact ⟨rfl, ‹_›⟩))
          go_roundg (n2 + 1)
          case measure => rw [HK.out]; omega
          case rel => exact ⟨k5, n2, l2, Lib.hid rfl, Lib.hid (by have := HL2.out; have := HLT.out; omega), HK5, HR, HP5⟩
      · rw [if_neg e92] at hst
        have b3 : (c == 92) = false := by simp [e92]
        have HR := Lib.hid hst
        clear e34 e32 e92 hst
        go_wp2
        go_quiet (fail)
        go_wp2
        go_quiet (fail)
        go_wp2
        go_roundg (n2 + 1)
        case measure => rw [HK.out]; omega
        case rel => exact ⟨k1 + 1, n2, t, Lib.hid rfl, HLT, HA3, HR, Lib.hid ((HP.out.drewN _).set (k1 + 1))⟩

/-- A byte is gone over if it stands first. -/
def tk (c : Int) : List Int → Bool × List Int
  | [] => (false, [])
  | d :: t => if d = c then (true, t) else (false, d :: t)
theorem rtake {c : Int} {l : List Int} {g k : Nat} {s : ByteArray} {w : World} (hI : RdI w g s k) (hA : At s k l) (hs : s.size ≤ 2147483647) :
    Calls Tryd.prog 34 #[.pointer (some ⟨g, 0, none⟩), .int .u8 c] w (fun e w' => ∃ b l', tk c l = (b, l') ∧ (b = false → l' = l) ∧ e = .returned (.bool b) ∧ ∃ k', At s k' l' ∧ RdP g s k' w w') := by
  cases l with
  | nil =>
    refine (rtake_nil hI hA hs).mono ?_
    rintro e w' ⟨rfl, hp⟩
    exact ⟨_, _, rfl, fun _ => rfl, rfl, k, hA, hp⟩
  | cons d t =>
    by_cases h : d = c
    · subst h
      refine (rtake_yes hI hA hs).mono ?_
      rintro e w' ⟨rfl, hp⟩
      exact ⟨_, _, show tk d (d :: t) = (true, t) by simp [tk], (fun h => by cases h), rfl, k + 1, hA.cons.2.2.1, hp⟩
    · refine (rtake_no hI hA h hs).mono ?_
      rintro e w' ⟨rfl, hp⟩
      exact ⟨_, _, show tk c (d :: t) = (false, d :: t) by simp [tk, h], fun _ => rfl, rfl, k, hA, hp⟩
/-- Digits, or none. -/
def dg (l : List Int) : Bool × List Int := ((digs1 l).isSome, digs l)
theorem rdg {l : List Int} {g k : Nat} {s : ByteArray} {w : World} (hI : RdI w g s k) (hA : At s k l) (hs : s.size ≤ 2147483647) :
    Calls Tryd.prog 36 #[.pointer (some ⟨g, 0, none⟩)] w (fun e w' => ∃ b l', dg l = (b, l') ∧ e = .returned (.bool b) ∧ ∃ k', At s k' l' ∧ RdP g s k' w w') := by
  refine (rdigits hI hA hs).mono ?_
  rintro e w' ⟨rfl, k', hA', hp⟩
  exact ⟨_, _, rfl, rfl, k', hA', hp⟩
theorem digs1_dg (l : List Int) : digs1 l = if (dg l).1 = true then some (dg l).2 else none := by
  cases l with
  | nil => rfl
  | cons c t =>
    by_cases h : isDig c = true
    · simp [dg, digs1, digs, h]
    · simp [dg, digs1, h]

theorem whole_tk (l : List Int) : whole l = if (tk 48 l).1 = true then some (tk 48 l).2 else digs1 l := by
  cases l with
  | nil => rfl
  | cons d t =>
    by_cases h : d = 48
    · simp [whole, tk, h]
    · simp [whole, tk, h, digs1]
theorem frac_tk (l : List Int) : frac l = if (tk 46 l).1 = true then digs1 (tk 46 l).2 else some (tk 46 l).2 := by
  cases l with
  | nil => rfl
  | cons d t =>
    by_cases h : d = 46
    · simp [frac, tk, h]
    · simp [frac, tk, h]
/-- Digits behind a sign or none. -/
def sg (l : List Int) : Option (List Int) := if (tk 43 l).1 = true then digs1 (tk 43 l).2 else digs1 (tk 45 (tk 43 l).2).2
theorem expo_tk (l : List Int) : expo l = if (tk 101 l).1 = true then sg (tk 101 l).2 else if (tk 69 (tk 101 l).2).1 = true then sg (tk 69 (tk 101 l).2).2 else some (tk 69 (tk 101 l).2).2 := by
  have hsg : ∀ t : List Int, (match t with | [] => none | d :: t' => if d = 43 ∨ d = 45 then digs1 t' else digs1 (d :: t')) = sg t := by
    intro t
    cases t with
    | nil => rfl
    | cons d t' =>
      by_cases h1 : d = 43
      · simp [sg, tk, h1]
      · by_cases h2 : d = 45
        · simp [sg, tk, h2]
        · simp [sg, tk, h1, h2]
  cases l with
  | nil => rfl
  | cons d t =>
    by_cases h1 : d = 101
    · simp only [expo, h1, true_or, if_true]; simp [tk]; exact hsg t
    · by_cases h2 : d = 69
      · simp only [expo, h2, or_true, if_true]; simp [tk]; exact hsg t
      · simp [expo, tk, h1, h2]
theorem num_tk (c : Int) (t : List Int) : num (c :: t) = (whole (tk 45 (c :: t)).2).bind fun l => (frac l).bind expo := by
  by_cases h : c = 45
  · simp [num, tk, h]
  · simp [num, tk, h]

theorem num_ok {o : Option (List Int)} {l' : List Int} {g k : Nat} {s : ByteArray} {w w' : World} (hP : RdP g s k w w') (hA : At s k l') (ho : o = some l') : (Ending.returned (.bool true) = .returned (.bool o.isSome)) ∧ ∃ k', (∀ r, o = some r → At s k' r) ∧ RdP g s k' w w' := by
  subst ho
  exact ⟨rfl, k, fun r h => by obtain rfl := Option.some.inj h; exact hA, hP⟩
theorem num_bad {o : Option (List Int)} {g k : Nat} {s : ByteArray} {w w' : World} (hP : RdP g s k w w') (ho : o = none) : (Ending.returned (.bool false) = .returned (.bool o.isSome)) ∧ ∃ k', (∀ r, o = some r → At s k' r) ∧ RdP g s k' w w' := by
  subst ho
  exact ⟨rfl, k, fun r h => (by cases h), hP⟩

set_option maxRecDepth 100000 in
set_option maxHeartbeats 8000000 in
theorem rnumber {c : Int} {t : List Int} {g k : Nat} {s : ByteArray} {w : World} (hI : RdI w g s k) (hA : At s k (c :: t)) (hs : s.size ≤ 2147483647) :
    Calls Tryd.prog 27 #[.pointer (some ⟨g, 0, none⟩)] w (fun e w' => e = .returned (.bool (num (c :: t)).isSome) ∧ ∃ k', (∀ r, num (c :: t) = some r → At s k' r) ∧ RdP g s k' w w') := by
  have HP := Lib.hid (show RdP g s k w w from ⟨hI, Fjh.Frame.refl _ w⟩)
  have HA := Lib.hid hA
  clear hI hA
  go_enter Tryd.func27, Tryd.ntmps27
  go_wp2_with (first
    | (go_at_call 34; with_reducible refine (rtake (c := 45) HP.out.st HA.out hs).mono ?_; rintro e w1 ⟨b, l', hb45, hf, rfl, k1, hA, hp⟩; replace HP := Lib.hid (HP.out.trans hp); replace HA := Lib.hid hA; clear hA hp; cases b <;> (try obtain rfl := hf rfl) <;> (try clear hf) <;> (try exact ⟨rfl, ‹_›⟩))
    | (go_at_call 34; with_reducible refine (rtake (c := 48) HP.out.st HA.out hs).mono ?_; rintro e w1 ⟨b, l', hb48, hf, rfl, k1, hA, hp⟩; replace HP := Lib.hid (HP.out.trans hp); replace HA := Lib.hid hA; clear hA hp; cases b <;> (try obtain rfl := hf rfl) <;> (try clear hf) <;> (try exact ⟨rfl, ‹_›⟩))
    | (go_at_call 34; with_reducible refine (rtake (c := 46) HP.out.st HA.out hs).mono ?_; rintro e w1 ⟨b, l', hb46, hf, rfl, k1, hA, hp⟩; replace HP := Lib.hid (HP.out.trans hp); replace HA := Lib.hid hA; clear hA hp; cases b <;> (try obtain rfl := hf rfl) <;> (try clear hf) <;> (try exact ⟨rfl, ‹_›⟩))
    | (go_at_call 34; with_reducible refine (rtake (c := 101) HP.out.st HA.out hs).mono ?_; rintro e w1 ⟨b, l', hb101, hf, rfl, k1, hA, hp⟩; replace HP := Lib.hid (HP.out.trans hp); replace HA := Lib.hid hA; clear hA hp; cases b <;> (try obtain rfl := hf rfl) <;> (try clear hf) <;> (try exact ⟨rfl, ‹_›⟩))
    | (go_at_call 34; with_reducible refine (rtake (c := 69) HP.out.st HA.out hs).mono ?_; rintro e w1 ⟨b, l', hb69, hf, rfl, k1, hA, hp⟩; replace HP := Lib.hid (HP.out.trans hp); replace HA := Lib.hid hA; clear hA hp; cases b <;> (try obtain rfl := hf rfl) <;> (try clear hf) <;> (try exact ⟨rfl, ‹_›⟩))
    | (go_at_call 34; with_reducible refine (rtake (c := 43) HP.out.st HA.out hs).mono ?_; rintro e w1 ⟨b, l', hb43, hf, rfl, k1, hA, hp⟩; replace HP := Lib.hid (HP.out.trans hp); replace HA := Lib.hid hA; clear hA hp; cases b <;> (try obtain rfl := hf rfl) <;> (try clear hf) <;> (try exact ⟨rfl, ‹_›⟩))
    | (go_at_call 36; with_reducible refine (rdg HP.out.st HA.out hs).mono ?_; rintro e w1 ⟨b, l', hbd, rfl, k1, hA, hp⟩; replace HP := Lib.hid (HP.out.trans hp); replace HA := Lib.hid hA; clear hA hp; cases b <;> (try exact ⟨rfl, ‹_›⟩)))
  all_goals go_ret
  all_goals first
    | exact num_ok HP.out HA.out (by simp [num_tk, whole_tk, frac_tk, expo_tk, sg, digs1_dg, *])
    | exact num_bad HP.out (by simp [num_tk, whole_tk, frac_tk, expo_tk, sg, digs1_dg, *])

theorem at_extract {s wd : ByteArray} {k : Nat} {l : List Int} (hA : At s k l) (hl : wd.size ≤ l.length) : (s.extract k (k + wd.size)).toList = wd.toList ↔ l.take wd.size = bytesOf wd := by
  rw [StrL.toList_eq_iff, StrL.ints_extract, show k + wd.size - k = wd.size from by omega]
  rw [show (StrL.ints s).drop k = l from hA.2]
  exact Iff.rfl

set_option maxRecDepth 100000 in
set_option maxHeartbeats 8000000 in
theorem rword {wd : ByteArray} {l : List Int} {g k : Nat} {s : ByteArray} {w : World} (hI : RdI w g s k) (hA : At s k l) (hs : s.size ≤ 2147483647) (hwd : wd.size ≤ 100) :
    Calls Tryd.prog 28 #[.pointer (some ⟨g, 0, none⟩), .string wd] w (fun e w' => ∃ b, (b = true ↔ l.take wd.size = bytesOf wd) ∧ e = .returned (.bool b) ∧ (b = true → ∃ k', At s k' (l.drop wd.size) ∧ RdP g s k' w w') ∧ (b = false → RdP g s k w w')) := by
  have c0 := hI.c0
  have c1 := hI.c1
  have f1 := hI.f1
  have HI := Lib.hid hI
  have hlen := hA.len
  have w1 : IntKind.i64.wrap ((s.size : Int) - (k : Int)) = (s.size : Int) - (k : Int) := wrap_sm (by omega) (by omega)
  by_cases h1 : l.length < wd.size
  · have hd : decide ((s.size : Int) - (k : Int) < (wd.size : Int)) = true := decide_eq_true (by omega)
    have hne : ¬ l.take wd.size = bytesOf wd := by
      intro h
      have := congrArg List.length h
      rw [List.length_take, bytesOf_length] at this
      omega
    have HN := Lib.hid hne
    clear hI hA hs hwd h1 hlen hne
    go_enter Tryd.func28, Tryd.ntmps28
    go_wp2
    go_quiet (fail)
    go_wp2
    go_ret
    exact ⟨false, ⟨(fun h => by cases h), fun h => absurd h HN.out⟩, rfl, (fun h => by cases h), fun _ => HI.out.same _⟩
  · have hd : decide ((s.size : Int) - (k : Int) < (wd.size : Int)) = false := decide_eq_false (by omega)
    have w2 : IntKind.i64.wrap ((k : Int) + (wd.size : Int)) = (k : Int) + (wd.size : Int) := wrap_sm (by omega) (by omega)
    have h0 : (0 : Int) ≤ (k : Int) := by omega
    have h2 : (k : Int) ≤ (k : Int) + (wd.size : Int) := by omega
    have h3 : (k : Int) + (wd.size : Int) ≤ (s.size : Int) := by omega
    have hN : ((k : Int) + (wd.size : Int)).toNat = k + wd.size := by omega
    have hext := at_extract hA (by omega : wd.size ≤ l.length)
    by_cases hq : l.take wd.size = bytesOf wd
    · have e1 : ((s.extract k (k + wd.size)).toList == wd.toList) = true := beq_iff_eq.mpr (hext.2 hq)
      have e2 : ((s.extract k (k + wd.size)).toList != wd.toList) = false := by rw [bne, e1]; rfl
      have HQ := Lib.hid hq
      have hA' : At s (k + wd.size) (l.drop wd.size) := ⟨by omega, by rw [← hA.2, List.drop_drop]⟩
      have HA' := Lib.hid hA'
      clear hI hA hs hwd h1 hext hq hA'
      go_enter Tryd.func28, Tryd.ntmps28
      go_wp2
      go_quiet (fail)
      go_wp2
      go_ret
      exact ⟨true, ⟨fun _ => HQ.out, fun _ => rfl⟩, rfl, (fun _ => ⟨k + wd.size, HA'.out, (HI.out.same _).set (k + wd.size)⟩), fun h => by cases h⟩
    · have e1 : ((s.extract k (k + wd.size)).toList == wd.toList) = false := beq_eq_false_iff_ne.mpr (fun h => hq (hext.1 h))
      have e2 : ((s.extract k (k + wd.size)).toList != wd.toList) = true := by rw [bne, e1]; rfl
      have HQ := Lib.hid hq
      clear hI hA hs hwd h1 hext hq
      go_enter Tryd.func28, Tryd.ntmps28
      go_wp2
      go_quiet (fail)
      go_wp2
      go_ret
      exact ⟨false, ⟨(fun h => by cases h), fun h => absurd h HQ.out⟩, rfl, (fun h => by cases h), fun _ => HI.out.same _⟩
end Go.Proofs.YtkhgbacbnkgafaaDoor.Spr

/- The reference's places in memory: what a Place's value stands for, cs a tree. -/
set_option linter.unusedVariables false
set_option linter.unusedSimpArgs false
namespace Go.Proofs.YtkhgbacbnkgafaaDoor.Spr
open Go Go.RowKit Go.Proofs.YtkhgbacbnkgafaaDoorW.PrintWords Go.Proofs.YtkhgbacbnkgafaaDoor.Fjh Go.Proofs.YtkhgbacbnkgafaaDoor.JTr

/-- From w to w' all blocks that were there, but g, are cs they were. -/
structure Kb (g : Nat) (w w' : World) : Prop where
  os : w'.os = w.os
  tape : w'.tape = w.tape
  output : w'.output = w.output
  size : w.heap.size ≤ w'.heap.size
  block : ∀ k, k < w.heap.size → k ≠ g → w'.heap[k]? = w.heap[k]?
theorem Kb.refl (g : Nat) (w : World) : Kb g w w := ⟨rfl, rfl, rfl, Nat.le_refl _, fun _ _ _ => rfl⟩
theorem Kb.trans {g : Nat} {a b c : World} (h : Kb g a b) (k : Kb g b c) : Kb g a c :=
  ⟨k.os.trans h.os, k.tape.trans h.tape, k.output.trans h.output, Nat.le_trans h.size k.size, fun i hi hg => (k.block i (Nat.lt_of_lt_of_le hi h.size) hg).trans (h.block i hi hg)⟩
theorem RdP.kb {g : Nat} {s : ByteArray} {k : Nat} {w w' : World} (h : RdP g s k w w') : Kb g w w' :=
  ⟨h.fr.os, h.fr.tape, h.fr.output, h.fr.size, fun k hk hg => h.fr.block k hk (fun x hx e => hg (by rw [← e, hx]))⟩
theorem Kb.below {g : Nat} {w w' : World} (h : Below w.heap.size w w') : Kb g w w' := ⟨h.os, h.tape, h.output, h.size, fun k hk _ => h.block k hk⟩
theorem Kb.grown {g B : Nat} {w0 w w' : World} {row : Option Nat} (h : Kb g w0 w) (hg : w.grownBy w' row) (hr : ∀ k, row = some k → w0.heap.size ≤ k) : Kb g w0 w' :=
  ⟨hg.os.trans h.os, hg.tape.trans h.tape, hg.output.trans h.output, Nat.le_trans h.size hg.size, fun k hk hk' => (hg.block k (Nat.lt_of_lt_of_le hk h.size) (fun e => by have := hr k e.symm; omega)).trans (h.block k hk hk')⟩
/-- What is in the reader's two cells stands where their block does. -/
theorem RdI.of_block {w w' : World} {g : Nat} {s : ByteArray} {k : Nat} (h : RdI w g s k) (e : w'.heap[g]? = w.heap[g]?) : RdI w' g s k :=
  ⟨(World.cell?_of_block (a := ⟨g, 0, none⟩) e).trans h.c0, (World.frozen?_of_block (a := ⟨g, 0, none⟩) e).trans h.f0, (World.cell?_of_block (a := ⟨g, 1, none⟩) e).trans h.c1, (World.frozen?_of_block (a := ⟨g, 1, none⟩) e).trans h.f1⟩

theorem own_keep {w w' : World} {base : Nat} {e : TypeId} {size : Nat} {v : Value} {n : Nat} {xs : List Value} (h : w.ownsRow base e size v n xs) (hk : ∀ k, v.ownBlock = some k → w'.heap[k]? = w.heap[k]?) : w'.ownsRow base e size v n xs := by
  refine ⟨h.1, ?_⟩
  rcases h.2 with h | ⟨g, cap, cur, rfl, hb, hg, r⟩
  · exact .inl h
  · exact .inr ⟨g, cap, cur, rfl, hb, (hk g rfl).trans hg, r⟩

/-- The part of s from b to e is the list l. -/
def Seg (s : ByteArray) (b e : Nat) (l : List Int) : Prop := e = b + l.length ∧ e ≤ s.size ∧ ((bytesOf s).drop b).take l.length = l

def flat (cs : List (Array Value)) : List Value := cs.flatMap Array.toList
theorem flat_append (cs bs : List (Array Value)) : flat (cs ++ bs) = flat cs ++ flat bs := by simp [flat]

/-- The rows of a Place's names: where each stands, with its marks. -/
def Names (s : ByteArray) : List (Array Value) → List (List Int) → Prop
  | [], [] => True
  | a :: cs, k :: ks => (∃ b e : Nat, a = #[.int .i64 b, .int .i64 e] ∧ Seg s b e (34 :: (k ++ [34]))) ∧ Names s cs ks
  | _, _ => False
theorem Names.push {s : ByteArray} {a : Array Value} {k : List Int} (h : ∃ b e : Nat, a = #[.int .i64 b, .int .i64 e] ∧ Seg s b e (34 :: (k ++ [34]))) : ∀ {cs : List (Array Value)} {ks : List (List Int)}, Names s cs ks → Names s (cs ++ [a]) (ks ++ [k])
  | [], [], _ => ⟨h, trivial⟩
  | _ :: _, _ :: _, hn => ⟨hn.1, Names.push h hn.2⟩
  | [], _ :: _, hn => hn.elim
  | _ :: _, [], hn => hn.elim
theorem Names.len {s : ByteArray} : ∀ {cs : List (Array Value)} {ks : List (List Int)}, Names s cs ks → cs.length = ks.length
  | [], [], _ => rfl
  | _ :: _, _ :: _, hn => by simp [Names.len hn.2]
  | [], _ :: _, hn => hn.elim
  | _ :: _, [], hn => hn.elim

/-- A Place's five cells. -/
abbrev pl (k b e : Int) (N K : Value) : Array Value := #[.int .i64 k, .int .i64 b, .int .i64 e, N, K]
abbrev nilS : Value := .slice none 0 0

/-- What a Place stands for; its rows lie in the blocks 'own'. -/
inductive PRep (w : World) (s : ByteArray) : (Nat → Prop) → Array Value → JT → Prop
  | num {own : Nat → Prop} {b e : Nat} {l : List Int} (h : Seg s b e l) : PRep w s own (pl 3 b e nilS nilS) (.num l)
  | str {own : Nat → Prop} {b e : Nat} {l : List Int} (h : Seg s b e (34 :: (l ++ [34]))) : PRep w s own (pl 4 b e nilS nilS) (.str l)
  | lit {own : Nat → Prop} {b e : Nat} {k t : Int} (h : (k = 0 ∧ t = 0) ∨ (k = 1 ∧ t = 6) ∨ (k = 2 ∧ t = 5)) : PRep w s own (pl k b e nilS nilS) (.lit t)
  | arr {own : Nat → Prop} {b e : Nat} {K : Value} {cs : List (Array Value)} {vs : List JT} {O : Nat → Prop} (hl : cs.length = vs.length) (hK : w.ownsRow 0 32 5 K cs.length (flat cs)) (ho : ∀ k, K.ownBlock = some k → own k) (hO : ∀ k, O k → own k)
      (hk : ∀ (i : Nat) (a : Array Value) (v : JT), cs[i]? = some a → vs[i]? = some v → PRep w s O a v) : PRep w s own (pl 5 b e nilS K) (.arr vs)
  | obj {own : Nat → Prop} {b e : Nat} {N K : Value} {ns cs : List (Array Value)} {ks : List (List Int)} {vs : List JT} {O : Nat → Prop} (hn : Names s ns ks) (hN : w.ownsRow 0 69 2 N ns.length (flat ns)) (hl : cs.length = vs.length) (hkl : ks.length = vs.length) (hK : w.ownsRow 0 32 5 K cs.length (flat cs))
      (hoN : ∀ k, N.ownBlock = some k → own k) (ho : ∀ k, K.ownBlock = some k → own k) (hO : ∀ k, O k → own k)
      (hk : ∀ (i : Nat) (a : Array Value) (v : JT), cs[i]? = some a → vs[i]? = some v → PRep w s O a v) : PRep w s own (pl 6 b e N K) (.obj ks vs)

theorem PRep.mono {w w' : World} {s : ByteArray} {own own' : Nat → Prop} (hm : ∀ k, own k → own' k ∧ w'.heap[k]? = w.heap[k]?) {a : Array Value} {t : JT} (h : PRep w s own a t) : PRep w' s own' a t := by
  induction h generalizing own' with
  | num h => exact .num h
  | str h => exact .str h
  | lit h => exact .lit h
  | arr hl hK ho hO hk ih => exact .arr hl (own_keep hK (fun k hk => (hm k (ho k hk)).2)) (fun k hk => (hm k (ho k hk)).1) (fun k hk => (hm k (hO k hk)).1) (fun i a v ha hv => ih i a v ha hv (fun k hk => ⟨hk, (hm k (hO k hk)).2⟩))
  | obj hn hN hl hkl hK hoN ho hO hk ih => exact .obj hn (own_keep hN (fun k hk => (hm k (hoN k hk)).2)) hl hkl (own_keep hK (fun k hk => (hm k (ho k hk)).2)) (fun k hk => (hm k (hoN k hk)).1) (fun k hk => (hm k (ho k hk)).1) (fun k hk => (hm k (hO k hk)).1) (fun i a v ha hv => ih i a v ha hv (fun k hk => ⟨hk, (hm k (hO k hk)).2⟩))

/-- A Place's cells are five, each one cell. -/
theorem PRep.form {w : World} {s : ByteArray} {own : Nat → Prop} {a : Array Value} {t : JT} (h : PRep w s own a t) : ∃ (k b e : Int) (N K : Value), a = pl k b e N K ∧ (∃ A n c, N = .slice A n c) ∧ (∃ A n c, K = .slice A n c) := by
  have row : ∀ {base : Nat} {e : TypeId} {size : Nat} {v : Value} {n : Nat} {xs : List Value}, w.ownsRow base e size v n xs → ∃ A n c, v = .slice A n c := by
    intro base e size v n xs h
    rcases h.2 with ⟨rfl, _⟩ | ⟨g, cap, cur, rfl, _⟩
    · exact ⟨_, _, _, rfl⟩
    · exact ⟨_, _, _, rfl⟩
  cases h with
  | num h => exact ⟨_, _, _, _, _, rfl, ⟨_, _, _, rfl⟩, ⟨_, _, _, rfl⟩⟩
  | str h => exact ⟨_, _, _, _, _, rfl, ⟨_, _, _, rfl⟩, ⟨_, _, _, rfl⟩⟩
  | lit h => exact ⟨_, _, _, _, _, rfl, ⟨_, _, _, rfl⟩, ⟨_, _, _, rfl⟩⟩
  | arr hl hK ho hO hk => exact ⟨_, _, _, _, _, rfl, ⟨_, _, _, rfl⟩, row hK⟩
  | obj hn hN hl hkl hK hoN ho hO hk => exact ⟨_, _, _, _, _, rfl, row hN, row hK⟩

/-- Blocks between two worlds. -/
def Btw (w w' : World) (k : Nat) : Prop := w.heap.size ≤ k ∧ k < w'.heap.size

/-- What value() leaves. -/
def VR (g : Nat) (s : ByteArray) (w : World) (o : Option (JT × List Int)) (e : Ending) (w' : World) : Prop :=
  match o with
  | some (t, r) => ∃ (a : Array Value) (k : Nat), e = .returned (.tuple #[.agg a, .bool true]) ∧ PRep w' s (Btw w w') a t ∧ At s k r ∧ RdI w' g s k ∧ Kb g w w'
  | none => ∃ (x y z : Int) (A1 A2 : Option Addr) (n1 c1 n2 c2 k : Nat), e = .returned (.tuple #[.agg (pl x y z (.slice A1 n1 c1) (.slice A2 n2 c2)), .bool false]) ∧ RdI w' g s k ∧ Kb g w w'
/-- What elements() leaves. -/
def ER (g : Nat) (s : ByteArray) (w : World) (o : Option (List JT × List Int)) (e : Ending) (w' : World) : Prop :=
  match o with
  | some (vs, r) => ∃ (K : Value) (cs : List (Array Value)) (k : Nat), e = .returned (.tuple #[K, .bool true]) ∧ cs.length = vs.length ∧ w'.ownsRow w.heap.size 32 5 K cs.length (flat cs) ∧ (∀ (i : Nat) (a : Array Value) (v : JT), cs[i]? = some a → vs[i]? = some v → PRep w' s (Btw w w') a v) ∧ At s k r ∧ RdI w' g s k ∧ Kb g w w'
  | none => ∃ k, e = .returned (.tuple #[nilS, .bool false]) ∧ RdI w' g s k ∧ Kb g w w'
/-- What members() leaves. -/
def MbR (g : Nat) (s : ByteArray) (w : World) (o : Option (List (List Int) × List JT × List Int)) (e : Ending) (w' : World) : Prop :=
  match o with
  | some (ks, vs, r) => ∃ (N K : Value) (ns cs : List (Array Value)) (k : Nat), e = .returned (.tuple #[N, K, .bool true]) ∧ Names s ns ks ∧ w'.ownsRow w.heap.size 69 2 N ns.length (flat ns) ∧ cs.length = vs.length ∧ ks.length = vs.length ∧ w'.ownsRow w.heap.size 32 5 K cs.length (flat cs) ∧ (∀ (i : Nat) (a : Array Value) (v : JT), cs[i]? = some a → vs[i]? = some v → PRep w' s (Btw w w') a v) ∧ At s k r ∧ RdI w' g s k ∧ Kb g w w'
  | none => ∃ k, e = .returned (.tuple #[nilS, nilS, .bool false]) ∧ RdI w' g s k ∧ Kb g w w'

def ValOk (n : Nat) : Prop := ∀ (l : List Int) (g k : Nat) (s : ByteArray) (w : World), RdI w g s k → At s k l → s.size ≤ 1000000000 → 2 * l.length + 1 < n →
  Calls Tryd.prog 13 #[.pointer (some ⟨g, 0, none⟩)] w (VR g s w (tval n l))

end Go.Proofs.YtkhgbacbnkgafaaDoor.Spr
