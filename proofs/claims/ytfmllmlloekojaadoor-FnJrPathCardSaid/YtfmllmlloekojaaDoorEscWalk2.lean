/- jsonparser.unescapeToUTF8Config (function 123): its contract, whole. -/
import Derived.Test.YtfmllmlloekojaaDoorEscWalk
set_option linter.unusedVariables false
namespace Go.Proofs.YtfmllmlloekojaaDoor.Esc
open Go Go.RowKit Go.Proofs.YtfmllmlloekojaaDoorW.PrintWords Go.Proofs.YtfmllmlloekojaaDoor.LaidL Go.Proofs.YtfmllmlloekojaaDoor.PFnJrPath
variable {E : ErrTab}

set_option maxHeartbeats 4000000 in
set_option maxRecDepth 100000 in
theorem esc_quote (u : Bool) (m : Int) (A : Option Addr) (ci : Nat) (t : List Int) (g off n c : Nat) (L : List Int) (w : World) (hr : RowIs g L w)
    (hC : Kd.C (Kd.int .u8) w A (92 :: 39 :: t).length (92 :: 39 :: t)) (ho : off < L.length) (hn : 0 < n) :
    Calls Tryd.prog 123 #[.agg #[.bool true, .bool u, .int .i64 m], .slice A (92 :: 39 :: t).length ci, .slice (some ⟨g, off, none⟩) n c] w (EscPost true u (92 :: 39 :: t) g off L w) := by
  have hE : escOne true u (92 :: 39 :: t) = some (2, [39]) := by simp [escOne]
  have HP' := Lib.hid (HPsome (off := off) (w := w) (g := g) (L := L) hE)
  obtain ⟨ad, rfl, cc⟩ := two_cells hC
  obtain ⟨c0, c1⟩ := cc (Obj.cells #[.bool true, .bool u, .int .i64 m] 134)
  have hr1 := hr.alloc (Obj.cells #[.bool true, .bool u, .int .i64 m] 134)
  obtain ⟨c2, f2⟩ := hr1.cell ho
  have HS := Lib.hid (hr1.set ho 39)
  obtain ⟨N, hN⟩ : ∃ N, N = ((92 : Int) :: 39 :: t).length := ⟨_, rfl⟩
  have h2 : 2 ≤ N := by rw [hN]; simp
  rw [← hN]
  clear hr hE hC hN cc hr1
  go_enter Tryd.func123, Tryd.ntmps123
  go_wp2
  go_ret2
  exact HP'.out _ (grown_trans (grown_alloc _ _ _) HS.out.2) HS.out.1

set_option maxHeartbeats 4000000 in
set_option maxRecDepth 100000 in
theorem esc_other (q u : Bool) (m : Int) (A : Option Addr) (ci : Nat) (e : Int) (t : List Int) (g off n c : Nat) (L : List Int) (w : World) (hr : RowIs g L w)
    (hC : Kd.C (Kd.int .u8) w A (92 :: e :: t).length (92 :: e :: t)) (ho : off < L.length) (hn : 0 < n)
    (n1 : e ≠ 34) (n2 : e ≠ 92) (n3 : e ≠ 47) (n4 : e ≠ 98) (n5 : e ≠ 102) (n6 : e ≠ 110) (n7 : e ≠ 114) (n8 : e ≠ 116) (n9 : e ≠ 117) (nq : ¬ (e = 39 ∧ q = true)) :
    Calls Tryd.prog 123 #[.agg #[.bool q, .bool u, .int .i64 m], .slice A (92 :: e :: t).length ci, .slice (some ⟨g, off, none⟩) n c] w (EscPost q u (92 :: e :: t) g off L w) := by
  have hE : escOne q u (92 :: e :: t) = if u = true then some (2, [e]) else none := by
    simp only [escOne]
    rw [if_neg (by simp), if_neg (by omega), if_neg nq, if_neg n9]
  obtain ⟨ad, rfl, cc⟩ := two_cells hC
  obtain ⟨c0, c1⟩ := cc (Obj.cells #[.bool q, .bool u, .int .i64 m] 134)
  have hr1 := hr.alloc (Obj.cells #[.bool q, .bool u, .int .i64 m] 134)
  obtain ⟨c2, f2⟩ := hr1.cell ho
  have HS := Lib.hid (hr1.set ho e)
  have HR := Lib.hid hr1
  obtain ⟨N, hN⟩ : ∃ N, N = ((92 : Int) :: e :: t).length := ⟨_, rfl⟩
  have h2 : 2 ≤ N := by rw [hN]; simp
  rw [← hN]
  have b1 : (e == 34) = false := by simpa using n1
  have b2 : (e == 92) = false := by simpa using n2
  have b3 : (e == 47) = false := by simpa using n3
  have b4 : (e == 98) = false := by simpa using n4
  have b5 : (e == 102) = false := by simpa using n5
  have b6 : (e == 110) = false := by simpa using n6
  have b7 : (e == 114) = false := by simpa using n7
  have b8 : (e == 116) = false := by simpa using n8
  have b9 : (e == 117) = false := by simpa using n9
  clear hr hC hN cc hr1 n1 n2 n3 n4 n5 n6 n7 n8 n9
  cases u with
  | true =>
    have HP' := Lib.hid (HPsome (off := off) (w := w) (g := g) (L := L) (hE.trans rfl))
    clear hE
    by_cases h39 : e = 39
    · obtain rfl : q = false := by
        cases q with
        | false => rfl
        | true => exact absurd ⟨h39, rfl⟩ nq
      have b0 : (e == 39) = true := by simpa using h39
      clear nq h39
      go_enter Tryd.func123, Tryd.ntmps123
      go_wp2
      go_ret2
      exact HP'.out _ (grown_trans (grown_alloc _ _ _) HS.out.2) HS.out.1
    · have b0 : (e == 39) = false := by simpa using h39
      clear nq h39
      go_enter Tryd.func123, Tryd.ntmps123
      go_wp2
      go_ret2
      exact HP'.out _ (grown_trans (grown_alloc _ _ _) HS.out.2) HS.out.1
  | false =>
    have HP' := Lib.hid (HPnone (off := off) (w := w) (g := g) (L := L) (hE.trans rfl))
    clear hE
    by_cases h39 : e = 39
    · obtain rfl : q = false := by
        cases q with
        | false => rfl
        | true => exact absurd ⟨h39, rfl⟩ nq
      have b0 : (e == 39) = true := by simpa using h39
      clear nq h39
      go_enter Tryd.func123, Tryd.ntmps123
      go_wp2
      go_ret2
      exact HP'.out _ (grown_alloc _ _ _) HR.out
    · have b0 : (e == 39) = false := by simpa using h39
      clear nq h39
      go_enter Tryd.func123, Tryd.ntmps123
      go_wp2
      go_ret2
      exact HP'.out _ (grown_alloc _ _ _) HR.out

theorem splice_splice (L : List Int) (off : Nat) (y : Int) (ys : List Int) (ho : off < L.length) : splice (splice L off [y]) (off + 1) ys = splice L off (y :: ys) := by
  have hl : (L.take off ++ [y]).length = off + 1 := by simp; omega
  have h0 : splice L off [y] = (L.take off ++ [y]) ++ L.drop (off + 1) := by simp [splice]
  rw [h0]
  unfold splice
  rw [List.take_left' hl, List.drop_append, List.drop_eq_nil_of_le (by omega), hl, List.nil_append, List.drop_drop]
  simp only [List.append_assoc, List.length_cons, List.cons_append, List.nil_append]
  rw [show off + 1 + (off + 1 + ys.length - (off + 1)) = off + (ys.length + 1) from by omega]

/-- A row with cells laid over it. -/
theorem RowIs.sets {g : Nat} : ∀ (ys : List Int) {off : Nat} {L : List Int} {w : World}, RowIs g L w → off + ys.length ≤ L.length → RowIs g (splice L off ys) (w.setCells g off (ys.map (Value.int .u8))) ∧ w.grownBy (w.setCells g off (ys.map (Value.int .u8))) (some g)
  | [], off, L, w, h, _ => ⟨by simpa [splice, World.setCells] using h, ⟨rfl, rfl, rfl, Nat.le_refl _, fun _ _ _ => rfl⟩⟩
  | y :: ys, off, L, w, h, ho => by
    rw [List.length_cons] at ho
    obtain ⟨h1, h2⟩ := h.set (off := off) (by omega) y
    have hl : (splice L off [y]).length = L.length := length_splice _ _ _ (by simp; omega)
    obtain ⟨h3, h4⟩ := RowIs.sets ys (off := off + 1) h1 (by omega)
    refine ⟨?_, grown_trans h2 h4⟩
    rw [List.map_cons, World.setCells]
    rw [splice_splice L off y ys (by omega)] at h3
    exact h3

theorem rune_len (r : Int) : 1 ≤ (Lib.encodeRuneZ r).length ∧ (Lib.encodeRuneZ r).length ≤ 4 := by
  unfold Lib.encodeRuneZ
  repeat' split
  all_goals simp

theorem enc_cell {g off : Nat} {L : List Int} {w : World} {r : Int} (h : RowIs g L w) (hl : off + (Lib.encodeRuneZ r).length ≤ L.length) {j : Nat} (hj : j < (Lib.runeCells r).length) : (w.cell? ⟨g, off + j, none⟩).isSome = true := by
  have : j < (Lib.encodeRuneZ r).length := by unfold Lib.runeCells at hj; rwa [List.length_map] at hj
  rw [(h.cell (off := off + j) (by omega)).1]; rfl
theorem enc_frozen {g off : Nat} {L : List Int} {w : World} {r : Int} (h : RowIs g L w) (hl : off + (Lib.encodeRuneZ r).length ≤ L.length) {j : Nat} (hj : j < (Lib.runeCells r).length) : w.frozen? ⟨g, off + j, none⟩ = false := by
  have : j < (Lib.encodeRuneZ r).length := by unfold Lib.runeCells at hj; rwa [List.length_map] at hj
  exact (h.cell (off := off + j) (by omega)).2

set_option maxHeartbeats 8000000 in
set_option maxRecDepth 100000 in
theorem esc_u (q u : Bool) (m : Int) (A : Option Addr) (ci : Nat) (t : List Int) (g off n c : Nat) (L : List Int) (w : World) (hr : RowIs g L w)
    (hC : Kd.C (Kd.int .u8) w A (92 :: 117 :: t).length (92 :: 117 :: t)) (hci : (92 :: 117 :: t).length ≤ ci) (hn : (92 :: 117 :: t).length ≤ n) (ho : off + n ≤ L.length) :
    Calls Tryd.prog 123 #[.agg #[.bool q, .bool u, .int .i64 m], .slice A (92 :: 117 :: t).length ci, .slice (some ⟨g, off, none⟩) n c] w (EscPost q u (92 :: 117 :: t) g off L w) := by
  obtain ⟨r, k, hd, hr0, hr1, hk⟩ := dec_some (92 :: 117 :: t)
  have hE : escOne q u (92 :: 117 :: t) = if k = -1 then none else some (k.toNat, Lib.encodeRuneZ r) := by
    simp only [escOne, hd]
    simp
  obtain ⟨ad, rfl, cc⟩ := two_cells hC
  obtain ⟨O, hO⟩ : ∃ O, O = Obj.cells #[.bool q, .bool u, .int .i64 m] 134 := ⟨_, rfl⟩
  obtain ⟨c0, c1⟩ := cc O
  have hC1 := Lib.hid (Kd.C_alloc hC O)
  have hRow := hr.alloc O
  have HD := Lib.hid hd
  have HCI := Lib.hid hci
  obtain ⟨xs, hxs⟩ : ∃ xs, xs = (92 : Int) :: 117 :: t := ⟨_, rfl⟩
  rw [← hxs] at hC1 HD HCI hE hn hk ⊢
  have h2 : 2 ≤ xs.length := by rw [hxs]; simp
  clear hr hC hd hxs cc hci
  by_cases hk1 : k = -1
  · subst hk1
    rw [if_pos rfl] at hE
    have HP' := Lib.hid (HPnone (off := off) (w := w) (g := g) (L := L) hE)
    have HR := Lib.hid hRow
    clear hE hRow hk
    subst hO
    go_enter Tryd.func123, Tryd.ntmps123
    go_wp2_with (go_at_call 128; (refine (jsonparser_decodeUnicodeEscape.calls 4 (some ad) ci xs r (-1) _ hC1.out HCI.out HD.out).mono ?_); rintro e w' ⟨rfl, ⟨nd, rfl⟩⟩)
    go_ret2
    exact HP'.out _ ⟨rfl, rfl, rfl, (grown_alloc _ _ g).size, fun k hk hn => (grown_alloc w _ g).block k hk hn⟩ HR.out
  · rw [if_neg hk1] at hE
    have hyl := rune_len r
    have hlen : off + (Lib.encodeRuneZ r).length ≤ L.length := by omega
    have HP' := Lib.hid (HPsome (off := off) (w := w) (g := g) (L := L) hE)
    have HR := Lib.hid hRow
    have hk3 : ((k.toNat : Nat) : Int) = k := by omega
    rw [hk3] at HP'
    have hb : (k == -1) = false := by simpa using hk1
    have hln : (Lib.runeCells r).length ≤ n := by unfold Lib.runeCells; rw [List.length_map]; omega
    clear hE hRow hk1 hk3
    subst hO
    go_enter Tryd.func123, Tryd.ntmps123
    go_wp2_with (first | (go_at_call 128; (refine (jsonparser_decodeUnicodeEscape.calls 4 (some ad) ci xs r k _ hC1.out HCI.out HD.out).mono ?_); rintro e w' ⟨rfl, ⟨nd, rfl⟩⟩) | (go_at_call 129; (refine (Tryd.utf8_EncodeRune g off n c r hr0 hr1 _ hln (fun j hj => ?s1) (fun j hj => ?s2)).mono ?_); (case s1 => exact enc_cell HR.out hlen hj); (case s2 => exact enc_frozen HR.out hlen hj); rintro e w' ⟨rfl, rfl⟩))
    go_ret2
    have hs := RowIs.sets (Lib.encodeRuneZ r) (off := off) (L := L) (g := g) (w := (w.alloc (Obj.cells #[.bool q, .bool u, .int .i64 m] 134)).drewN nd) HR.out hlen
    have hg : w.grownBy ((w.alloc (Obj.cells #[.bool q, .bool u, .int .i64 m] 134)).drewN nd) (some g) := ⟨rfl, rfl, rfl, (grown_alloc _ _ g).size, fun k hk hn => (grown_alloc w _ g).block k hk hn⟩
    have hrl : (Lib.runeCells r).length = (Lib.encodeRuneZ r).length := by unfold Lib.runeCells; rw [List.length_map]
    rw [hrl]
    exact HP'.out _ (grown_trans hg hs.2) hs.1

/-- unescapeToUTF8Config, any bytes: room enough in the row. -/
theorem esc_calls (q u : Bool) (m : Int) (A : Option Addr) (ci : Nat) (xs : List Int) (g off n c : Nat) (L : List Int) (w : World) (hL : Laid E w) (hr : RowIs g L w)
    (hC : Kd.C (Kd.int .u8) w A xs.length xs) (hci : xs.length ≤ ci) (hn : xs.length ≤ n) (ho : off + n ≤ L.length) :
    Calls Tryd.prog 123 #[.agg #[.bool q, .bool u, .int .i64 m], .slice A xs.length ci, .slice (some ⟨g, off, none⟩) n c] w (EscPost q u xs g off L w) := by
  match xs, hC, hci, hn with
  | [], hC, hci, hn => exact esc_short q u m A ci [] g off n c L w hr hC (by simp)
  | [b], hC, hci, hn => exact esc_short q u m A ci [b] g off n c L w hr hC (by simp)
  | b :: e :: t, hC, hci, hn =>
    have hl : 2 ≤ n := by simp only [List.length_cons] at hn; omega
    by_cases hb : b = 92
    · subst hb
      by_cases h8 : e = 34 ∨ e = 92 ∨ e = 47 ∨ e = 98 ∨ e = 102 ∨ e = 110 ∨ e = 114 ∨ e = 116
      · exact esc_simple q u m A ci e t g off n c L w hL hr hC (by omega) (by omega) h8
      · by_cases h39 : e = 39 ∧ q = true
        · obtain ⟨rfl, rfl⟩ := h39
          exact esc_quote u m A ci t g off n c L w hr hC (by omega) (by omega)
        · by_cases h117 : e = 117
          · subst h117
            exact esc_u q u m A ci t g off n c L w hr hC hci hn ho
          · exact esc_other q u m A ci e t g off n c L w hr hC (by omega) (by omega) (by omega) (by omega) (by omega) (by omega) (by omega) (by omega) (by omega) (by omega) h117 h39
    · exact esc_nobs q u m A ci b e t g off n c L w hr hC hb

end Go.Proofs.YtfmllmlloekojaaDoor.Esc
