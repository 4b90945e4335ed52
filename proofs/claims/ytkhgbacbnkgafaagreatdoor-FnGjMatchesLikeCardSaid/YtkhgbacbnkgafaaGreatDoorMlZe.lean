/- match.match of an empty text (its bound on calls is zero then). -/
import Derived.Test.YtkhgbacbnkgafaaGreatDoorMlWk
set_option linter.unusedVariables false
set_option linter.unusedSimpArgs false
namespace Go.Proofs.YtkhgbacbnkgafaaGreatDoor.Mlw
open Go Go.RowKit Go.Proofs.YtkhgbacbnkgafaaGreatDoor.PFnGjMatchesLike Go.Proofs.YtkhgbacbnkgafaaGreatDoor.PFnGjMatchesLike.Gb Go.Proofs.YtkhgbacbnkgafaaGreatDoor.PFnGjMatchesLike.Uc Go.Proofs.YtkhgbacbnkgafaaGreatDoorW.PrintWords Go.Proofs.YtkhgbacbnkgafaaGreatDoorW.PrintLast Go.Proofs.YtkhgbacbnkgafaaGreatDoor.EvL Go.Proofs.YtkhgbacbnkgafaaGreatDoor.StrL
attribute [local go_sem ↓] Go.wp_at_zero Go.wp_at_succ

theorem gl_nostar {l : List Int} {b : Int} {ts : List S56} (h : Gl (b :: l) ts) (h0 : 0 ≤ b) (hb : b ≠ 42) : ¬ M ts [] := by
  obtain ⟨c, n, e, hc⟩ := h.head (by simp)
  rcases hc with ⟨rfl, _⟩ | ⟨_, ts', rfl, _⟩ | ⟨_, _, _, ts', _, rfl, _⟩ | ⟨_, _, _, ts', rfl, _⟩
  · exfalso
    simp only [dec] at e
    split at e
    · injection e with e; injection e with e _; exact hb e
    · split at e
      · rename_i h2
        split at e
        · split at e
          · rename_i hc
            injection e with e; injection e with e _
            have := hc.1; omega
          · cases e
        · cases e
      · split at e
        · split at e
          · split at e
            · split at e
              · rename_i hl
                injection e with e; injection e with e _
                have := hl.1; omega
              · cases e
            · cases e
          · cases e
        · split at e
          · split at e
            · split at e
              · split at e
                · rename_i hl
                  injection e with e; injection e with e _
                  have := hl.1; omega
                · cases e
              · cases e
            · cases e
          · cases e
  · exact M_step_nil rfl
  · exact M_step_nil rfl
  · exact M_step_nil rfl

set_option maxRecDepth 100000 in
set_option maxHeartbeats 8000000 in
theorem ma_stop {g : Nat} {s p : ByteArray} {w : World} (hw : w.heap[g]? = some (.cells #[.int .i64 1] 3 (0, 0))) :
    Calls Tryz.prog 39 #[.string s, .string p, .int .i64 0, .pointer (some ⟨g, 0, none⟩), .int .i64 10000, .bool false] w (fun e w' => e = .returned (.int .i64 2) ∧ Below g w w') := by
  have q0 : w.cell? ⟨g, 0, none⟩ = some (.int .i64 1) := blk_cell hw 0
  have f0 : w.frozen? ⟨g, 0, none⟩ = false := blk_frozen hw 0
  have w0 : wrap64 0 = 0 := w64 (by omega) (by omega)
  clear hw
  go_enter Tryz.func39, Tryz.ntmps39
  go_wp2
  go_ret
  exact ⟨rfl, Below.refl _ _⟩

set_option maxRecDepth 100000 in
set_option maxHeartbeats 8000000 in
theorem ma_zero {B g : Nat} (hBg : B ≤ g) {s p : ByteArray} {ts : List S56} {w : World} (hs : s.size = 0) (hp : p.size ≤ 4096) (hg : Gl (ints p) ts) (hw : w.heap[g]? = some (.cells #[.int .i64 ((0 : Nat) : Int)] 3 (0, 0))) (hL : ∀ w', Below B w w' → Laid w') :
    Calls Tryz.prog 39 #[.string s, .string p, .int .i64 0, .pointer (some ⟨g, 0, none⟩), .int .i64 10000, .bool false] w (fun e w' => ∃ r : Int, e = .returned (.int .i64 r) ∧ (r = 1 ↔ M ts []) ∧ Below g w w') := by
  have q0 : w.cell? ⟨g, 0, none⟩ = some (.int .i64 0) := blk_cell hw 0
  have f0 : w.frozen? ⟨g, 0, none⟩ = false := blk_frozen hw 0
  have w0 : wrap64 0 = 0 := w64 (by omega) (by omega)
  have w1 : wrap64 1 = 1 := w64 (by omega) (by omega)
  have HLD := Lib.hid hL
  have HN := Lib.hid (And.intro hs hp)
  have HG := Lib.hid hg
  have HBG := Lib.hid hBg
  have HW0 := Lib.hid hw
  have hd3 : decide ((0 : Int) < (s.size : Int)) = false := decide_eq_false (by omega)
  have hd4 : decide (0 < s.size) = false := decide_eq_false (by omega)
  have he : ((s.size : Int) == 0) = true := beq_iff_eq.mpr (by omega)
  have hTN := Lib.hid (show Txt (ints s) [] from by rw [ints_nil hs]; exact .nil)
  clear hs hp hg hL hBg hw
  go_enter Tryz.func39, Tryz.ntmps39
  go_wp2
  go_loopg [0, 1] (p.size + 1) (fun kq v0 v1 w' => ∃ (p1 : ByteArray) (ts1 : List S56), kq = p1.size + 1 ∧ v0 = .string s ∧ v1 = .string p1 ∧ Hid (Gl (ints p1) ts1) ∧ Hid (M ts [] ↔ M ts1 []) ∧ Hid (p1.size ≤ p.size) ∧ Hid (w'.heap[g]? = some (.cells #[.int .i64 1] 3 (0, 0)) ∧ Below g w w'))
  case atStart =>
    refine ⟨p, ts, rfl, rfl, rfl, HG, Lib.hid Iff.rfl, Lib.hid (Nat.le_refl _), Lib.hid ⟨?_, (Below.refl g w).setCell (Nat.le_refl _) _⟩⟩
    exact blk_put HW0.out 0 (.int .i64 1) rfl
  case round =>
    obtain ⟨p1, ts1, rfl, rfl, rfl, HT, HM, HSZ, HW⟩ := hrel
    clear q0 f0 w0 w1
    by_cases hp0 : p1.size = 0
    · have hd1 : decide ((0 : Int) < (p1.size : Int)) = false := decide_eq_false (by omega)
      have hd2 : decide (0 < p1.size) = false := decide_eq_false (by omega)
      have hts : ts1 = [] := by have h := HT.out; rw [ints_nil hp0] at h; exact h.nil_inv
      go_wp2
      go_ret
      exact ⟨1, rfl, ⟨fun _ => HM.out.2 (by rw [hts]; exact .nil), fun _ => rfl⟩, HW.out.2⟩
    · have hpp : 0 < p1.size := by omega
      have hd1 : decide ((0 : Int) < (p1.size : Int)) = true := decide_eq_true (by omega)
      have hd2 : decide (0 < p1.size) = true := decide_eq_true hpp
      have hi1 : (0 : Int) < (p1.size : Int) := by omega
      obtain ⟨pc, np, hdp, hcase⟩ := HT.out.head (ints_ne hpp)
      obtain ⟨hn1, hn2, hpc0, hpd⟩ := dec_info hdp hpp
      have HPD := Lib.hid hpd
      have HCASE := Lib.hid hcase
      have HNP := Lib.hid (And.intro hn1 (And.intro hn2 hpc0))
      have HDP := Lib.hid hdp
      clear hcase hpd hn1 hn2 hpc0 hdp
      go_upto_if 41 with (fail)
      go_cut [14, 15] (fun v14 v15 wc => v14 = .int .i32 pc ∧ v15 = .int .i64 (np : Int) ∧ Hid (wc.heap[g]? = some (.cells #[.int .i64 1] 3 (0, 0)) ∧ Below g w wc))
      case first =>
        rcases HPD.out with ⟨hv, hlt, rfl⟩ | ⟨hge, hge2, e1, e2⟩
        · have hd5 : decide ((127 : Int) < pc) = false := decide_eq_false (by omega)
          have hw32 : wrap32 pc = pc := by unfold wrap32; omega
          (first | rw [hd5] | (simp only [hv, hd5]) | skip)
          go_wp2
          (first | go_meet)
          case rel => exact ⟨by first | rfl | (rw [hw32]; done) | (rw [hv]; done) | (rw [hv, hw32]; done) | (simp only [hv, hw32]; done), rfl, HW⟩
        · have hd5 : decide ((127 : Int) < ((p1[0]'hpp).toNat : Int)) = true := decide_eq_true hge
          have hd6 : decide (127 < (p1[0]'hpp).toNat) = true := decide_eq_true (by omega)
          have hd7 : decide ((127 : Int) < wrap32 ((p1[0]'hpp).toNat : Int)) = true := by rw [show wrap32 ((p1[0]'hpp).toNat : Int) = ((p1[0]'hpp).toNat : Int) from by unfold wrap32; have := (p1[0]'hpp).toNat_lt; omega]; exact hd5
          (first | rw [hd7] | rw [hd5] | rw [hd6] | skip)
          go_wp2_with (first | (go_at_call 45; refine (dec_calls (HLD.out _ (HW.out.2.mono HBG.out)) e1 e2).mono ?_; rintro e w3 ⟨rfl, hb3⟩; have HW3 := Lib.hid (keepW HW.out hb3); clear hb3))
          (first | go_meet)
          case rel => exact ⟨rfl, rfl, HW3⟩
      case rest =>
        clear HW
        obtain ⟨rfl, rfl, HW⟩ := hcut
        rcases HCASE.out with ⟨rfl, ts2, rfl, hg2⟩ | ⟨rfl, ts2, rfl, hg2⟩ | ⟨rfl, c2, n2, ts2, hd2c, rfl, hg2⟩ | ⟨k1, k2, k3, ts2, rfl, hg2⟩
        · obtain rfl : np = 1 := by
            rcases HPD.out with ⟨_, _, h⟩ | ⟨_, h, _⟩
            · exact h
            · omega
          have hp42 : ints p1 = 42 :: (ints p1).drop 1 := by
            obtain ⟨x, t, e, hx, _⟩ := of_dec (fun b hb => (ints_bytes _ b hb).1) HDP.out
            have hx1 := ch_inv hx (by omega)
            rw [e, hx1]; rfl
          have HP42 := Lib.hid (And.intro hp42 hg2)
          clear hp42 hg2
          go_wp2
          go_loopg [1] (p1.size + 1) (fun kq v1 w' => ∃ (p2 : ByteArray) (pb : List Int) (ts3 : List S56), kq = p2.size + 1 ∧ v1 = .string p2 ∧ Hid (ints p2 = 42 :: pb ∧ Gl pb ts3) ∧ Hid (M ts [] ↔ M (⟨true, false, 0⟩ :: ts3) []) ∧ Hid (p2.size ≤ p1.size) ∧ Hid (w'.heap[g]? = some (.cells #[.int .i64 1] 3 (0, 0)) ∧ Below g w w'))
          case atStart => exact ⟨p1, _, ts2, rfl, rfl, HP42, HM, Lib.hid (Nat.le_refl _), HW⟩
          case round =>
            obtain ⟨p2, pb, ts3, rfl, rfl, HG2, HM2, HB2, HW2⟩ := hrel
            have hz : p2.size = pb.length + 1 := by have h := congrArg List.length HG2.out.1; rw [ints_length, List.length_cons] at h; exact h
            by_cases hp1 : p2.size = 1
            · have hd8 : decide ((1 : Int) < (p2.size : Int)) = false := decide_eq_false (by omega)
              have hd9 : decide (1 < p2.size) = false := decide_eq_false (by omega)
              have he1 : ((p2.size : Int) == 1) = true := beq_iff_eq.mpr (by omega)
              have HNIL := Lib.hid (show ts3 = [] from by
                have h0 : pb = [] := List.eq_nil_of_length_eq_zero (by omega)
                have h := HG2.out.2; rw [h0] at h; exact h.nil_inv)
              clear hz hp1
              go_wp2
              go_ret
              exact ⟨1, rfl, ⟨fun _ => HM2.out.2 (by rw [HNIL.out]; exact M_star_all _), fun _ => rfl⟩, HW2.out.2⟩
            · have hd8 : decide ((1 : Int) < (p2.size : Int)) = true := decide_eq_true (by omega)
              have hd9 : decide (1 < p2.size) = true := decide_eq_true (by omega)
              have hi3 : (1 : Int) < (p2.size : Int) := by omega
              have hi4 : (1 : Int) ≤ (p2.size : Int) := by omega
              have hi5 : 1 < p2.size := by omega
              obtain ⟨b, pb2, hpb⟩ : ∃ b pb2, pb = b :: pb2 := by
                cases pb with
                | nil => rw [List.length_nil] at hz; omega
                | cons b pb2 => exact ⟨b, pb2, rfl⟩
              have hv : ((p2[1]'hi5).toNat : Int) = b := by
                have h := byteAt (s := p2) (i := 1) hi5
                rw [h, HG2.out.1, hpb]; rfl
              have HPB := Lib.hid (And.intro hpb hz)
              clear hpb hz hp1
              by_cases hb42 : b = 42
              · subst hb42
                go_wp2
                have h2 := HG2.out.2
                rw [HPB.out.1] at h2
                obtain ⟨ts4, hts, hg4⟩ := h2.star_inv
                go_roundg (p2.size - 1 + 1)
                case measure => omega
                case rel => exact ⟨p2.extract 1 p2.size, pb2, ts4, by rw [size_drop], rfl, Lib.hid ⟨by rw [ints_drop, HG2.out.1, HPB.out.1]; rfl, hg4⟩, Lib.hid (HM2.out.trans (by rw [hts]; exact M_star_star)), Lib.hid (by rw [size_drop]; have := HB2.out; omega), HW2⟩
              · have hb43 : (b == 42) = false := beq_eq_false_iff_ne.mpr hb42
                have he1 : ((p2.size : Int) == 1) = false := beq_eq_false_iff_ne.mpr (by omega)
                have hnn := HN.out
                have hsz := HSZ.out
                have hb2 := HB2.out
                obtain ⟨kk, ⟨s3, p3, ok⟩, hr, ⟨a, ea⟩, ⟨bb, eb⟩, ⟨pb1, ep⟩, hh⟩ := (trim_f (s := s) (p := p2) (by omega) (by omega) hTN.out HG2.out.1 HG2.out.2).rounds
                replace ea : ints s = ints s3 ++ a := ea
                replace eb : ints p2 = ints p3 ++ bb := eb
                replace ep : ints p3 = 42 :: pb1 := ep
                have l1 := congrArg List.length ea
                rw [List.length_append, ints_length, ints_length] at l1
                have l3 := congrArg List.length ep
                rw [ints_length, List.length_cons] at l3
                have HTR := Lib.hid hr
                have HEA := Lib.hid (And.intro eb ep)
                have hb0 : 0 ≤ b := by omega
                have HB42 := Lib.hid (And.intro hb42 hb0)
                clear hr ea eb ep hnn hsz hb2
                rcases hh with ⟨hok, cs3, pb3, ts5, q1, q2, q3, q4⟩ | ⟨hok, hno⟩
                · obtain rfl : ok = true := hok
                  have hcs3 : cs3 = [] := by
                    have h : Txt (ints s3) cs3 := q1
                    rw [ints_nil (show s3.size = 0 by have := HN.out.1; omega)] at h
                    exact h.nil_inv
                  have q2' : ints p3 = 42 :: pb3 := q2
                  have HQ := Lib.hid (show ints p3 = 42 :: pb3 ∧ Gl pb3 ts5 ∧ (M ts [] ↔ M (⟨true, false, 0⟩ :: ts5) []) from ⟨q2, q3, HM2.out.trans (by rw [hcs3] at q4; exact q4)⟩)
                  clear q1 q2 q3 q4 hcs3
                  have l4 := congrArg List.length q2'
                  rw [ints_length, List.length_cons] at l4
                  clear q2'
                  by_cases hp3 : p3.size = 1
                  · have he3 : ((p3.size : Int) == 1) = true := beq_iff_eq.mpr (by omega)
                    have HNIL := Lib.hid (show ts5 = [] from by
                      have h0 : pb3 = [] := List.eq_nil_of_length_eq_zero (by omega)
                      have h := HQ.out.2.1; rw [h0] at h; exact h.nil_inv)
                    clear l1 l3 l4 hp3
                    go_wp2_with (first | (go_at_call 46; refine (match_matchTrimSuffix.calls kk s p2 false s3 p3 true _ (HLD.out _ (HW2.out.2.mono HBG.out)) HTR.out).mono ?_; rintro e w5 ⟨rfl, hb5⟩; have HW5 := Lib.hid (keepW HW2.out hb5); clear hb5))
                    go_ret
                    exact ⟨1, rfl, ⟨fun _ => HQ.out.2.2.2 (by rw [HNIL.out]; exact M_star_all _), fun _ => rfl⟩, HW5.out.2⟩
                  · have he3 : ((p3.size : Int) == 1) = false := beq_eq_false_iff_ne.mpr (by omega)
                    have hi6 : (1 : Int) ≤ (p3.size : Int) := by omega
                    have HNM := Lib.hid (show ¬ M ts [] from fun h => by
                      have h1 := M_star_nil.1 (HQ.out.2.2.1 h)
                      have h2 := HEA.out.1
                      rw [HG2.out.1, HPB.out.1, HQ.out.1] at h2
                      obtain ⟨d, pb4, hpb4⟩ : ∃ d pb4, pb3 = d :: pb4 := by
                        cases pb3 with
                        | nil => rw [List.length_nil] at l4; omega
                        | cons d pb4 => exact ⟨d, pb4, rfl⟩
                      rw [hpb4] at h2
                      have h3 : b = d := by
                        injection h2 with _ h2
                        injection h2 with h2 _
                      have h5 := HQ.out.2.1
                      rw [hpb4, ← h3] at h5
                      exact gl_nostar h5 HB42.out.2 HB42.out.1 h1)
                    clear l1 l3 l4 hp3
                    go_wp2_with (first | (go_at_call 46; refine (match_matchTrimSuffix.calls kk s p2 false s3 p3 true _ (HLD.out _ (HW2.out.2.mono HBG.out)) HTR.out).mono ?_; rintro e w5 ⟨rfl, hb5⟩; have HW5 := Lib.hid (keepW HW2.out hb5); clear hb5) | (go_at_call 39; refine (ma_stop HW5.out.1).mono ?_; rintro e w6 ⟨rfl, hb6⟩; have HW6 := Lib.hid (HW5.out.2.trans hb6); clear hb6))
                    go_ret
                    exact ⟨2, rfl, ⟨fun h => by omega, fun h => absurd h HNM.out⟩, HW6.out⟩
                · obtain rfl : ok = false := hok
                  have HNO := Lib.hid hno
                  clear hno l1 l3
                  go_wp2_with (first | (go_at_call 46; refine (match_matchTrimSuffix.calls kk s p2 false s3 p3 false _ (HLD.out _ (HW2.out.2.mono HBG.out)) HTR.out).mono ?_; rintro e w5 ⟨rfl, hb5⟩; have HW5 := Lib.hid (keepW HW2.out hb5); clear hb5))
                  go_ret
                  exact ⟨0, rfl, ⟨fun h => by omega, fun h => absurd (HM2.out.1 h) HNO.out⟩, HW5.out.2⟩
        · go_wp2
          go_ret
          exact ⟨0, rfl, ⟨fun h => by omega, fun h => absurd (HM.out.1 h) (M_step_nil rfl)⟩, HW.out.2⟩
        · go_wp2
          go_ret
          exact ⟨0, rfl, ⟨fun h => by omega, fun h => absurd (HM.out.1 h) (M_step_nil rfl)⟩, HW.out.2⟩
        · have e63 : (pc == 63) = false := beq_eq_false_iff_ne.mpr k2
          have e42 : (pc == 42) = false := beq_eq_false_iff_ne.mpr k1
          clear k1 k2 k3
          go_wp2
          go_ret
          exact ⟨0, rfl, ⟨fun h => by omega, fun h => absurd (HM.out.1 h) (M_step_nil rfl)⟩, HW.out.2⟩

end Go.Proofs.YtkhgbacbnkgafaaGreatDoor.Mlw
