/- The law FnGjMatchesLike, walked. -/
import Derived.Test.YtkhgbacbnkgafaaGreatDoorMlEnd
set_option linter.unusedVariables false
set_option linter.unusedSimpArgs false
namespace Go.Proofs.YtkhgbacbnkgafaaGreatDoor.Mlw
open Go Go.RowKit Go.Proofs.YtkhgbacbnkgafaaGreatDoor.PFnGjMatchesLike Go.Proofs.YtkhgbacbnkgafaaGreatDoor.PFnGjMatchesLike.Gb Go.Proofs.YtkhgbacbnkgafaaGreatDoor.PFnGjMatchesLike.Uc Go.Proofs.YtkhgbacbnkgafaaGreatDoorW.PrintWords Go.Proofs.YtkhgbacbnkgafaaGreatDoorW.PrintLast Go.Proofs.YtkhgbacbnkgafaaGreatDoor.EvL Go.Proofs.YtkhgbacbnkgafaaGreatDoor.StrL

theorem told_like {b f : Bool} {ts : List S56} {cs : List Int} (h : Tells ⟨#[37]⟩ ts cs b) (hf : f = true ↔ M ts cs) : f = b := by
  rcases h with ⟨_, h⟩ | ⟨h, _⟩
  · have := hf.trans h.symm
    cases f <;> cases b <;> simp_all
  · exact absurd (congrArg ByteArray.size h) (by decide)
theorem told_unlike {b f : Bool} {ts : List S56} {cs : List Int} (h : Tells ⟨#[33, 37]⟩ ts cs b) (hf : f = true ↔ M ts cs) : b = !f := by
  rcases h with ⟨h, _⟩ | ⟨_, h⟩
  · exact absurd (congrArg ByteArray.size h) (by decide)
  · have h2 : b = true ↔ ¬ (f = true) := h.trans (not_congr hf.symm)
    cases f <;> cases b <;> simp_all
theorem below_drewN {B : Nat} {w w' : World} (h : Below B w w') (n : Nat) : Below B w (w'.drewN n) := ⟨h.os, h.tape, h.output, h.size, h.block⟩

set_option maxRecDepth 100000 in
set_option maxHeartbeats 8000000 in
theorem law_big {s p : ByteArray} {w : World} (h : 2147483647 < s.size ∨ 2147483647 < p.size) : Calls Tryz.prog 3 #[.string s, .string p] w (fun e w' => e = .returned (.bool true) ∧ Below w.heap.size w w') := by
  by_cases hs : 2147483647 < s.size
  · have hd1 : decide ((2147483647 : Int) < (s.size : Int)) = true := decide_eq_true (by omega)
    have hd2 : decide (2147483647 < s.size) = true := decide_eq_true hs
    clear h hs
    go_enter Tryz.func3, Tryz.ntmps3
    go_wp2
    go_ret
    exact ⟨rfl, Below.refl _ _⟩
  · have hp : 2147483647 < p.size := h.resolve_left hs
    have hd1 : decide ((2147483647 : Int) < (s.size : Int)) = false := decide_eq_false (by omega)
    have hd2 : decide (2147483647 < s.size) = false := decide_eq_false hs
    have hd3 : decide ((2147483647 : Int) < (p.size : Int)) = true := decide_eq_true (by omega)
    have hd4 : decide (2147483647 < p.size) = true := decide_eq_true hp
    clear h hs hp
    go_enter Tryz.func3, Tryz.ntmps3
    go_wp2
    go_ret
    exact ⟨rfl, Below.refl _ _⟩

set_option maxRecDepth 100000 in
set_option maxHeartbeats 8000000 in
theorem law_ok {s p : ByteArray} {w : World} (hL : ∀ w', Below w.heap.size w w' → Laid w') : Calls Tryz.prog 3 #[.string s, .string p] w (fun e w' => e = .returned (.bool true) ∧ Below w.heap.size w w') := by
  by_cases hbig : 2147483647 < s.size ∨ 2147483647 < p.size
  · exact law_big hbig
  have hs : s.size ≤ 2147483647 := by omega
  have hp : p.size ≤ 2147483647 := by omega
  have hd1 : decide ((2147483647 : Int) < (s.size : Int)) = false := decide_eq_false (by omega)
  have hd2 : decide (2147483647 < s.size) = false := decide_eq_false (by omega)
  have hd3 : decide ((2147483647 : Int) < (p.size : Int)) = false := decide_eq_false (by omega)
  have hd4 : decide (2147483647 < p.size) = false := decide_eq_false (by omega)
  obtain ⟨k1, ⟨fits, good⟩, h1, ht⟩ := (told_f s p hs hp).rounds
  obtain ⟨k2, light, h2, hl⟩ := (light_f hp).rounds
  have H1 := Lib.hid h1
  have H2 := Lib.hid h2
  have HLD := Lib.hid hL
  have BEL := Lib.hid (Below.refl w.heap.size w)
  have HSS := Lib.hid hs
  cases good with
  | false =>
    clear hL h1 h2 ht hl hs hp hbig
    go_enter Tryz.func3, Tryz.ntmps3
    go_wp2_with (first
      | (go_at_call 4; (with_reducible refine (laws_mtTold.calls k1 s p fits false _ H1.out).mono ?_); rintro e w5 ⟨rfl, hb5⟩; replace BEL := Lib.hid (BEL.out.trans (hb5.mono BEL.out.size)); clear hb5))
    go_ret
    exact ⟨rfl, BEL.out⟩
  | true =>
    cases light with
    | false =>
      clear hL h1 h2 ht hl hs hp hbig
      go_enter Tryz.func3, Tryz.ntmps3
      go_wp2_with (first
        | (go_at_call 4; (with_reducible refine (laws_mtTold.calls k1 s p fits true _ H1.out).mono ?_); rintro e w5 ⟨rfl, hb5⟩; replace BEL := Lib.hid (BEL.out.trans (hb5.mono BEL.out.size)); clear hb5)
        | (go_at_call 5; (with_reducible refine (spec_Light.calls k2 p false _ H2.out).mono ?_); rintro e w6 ⟨rfl, ⟨nd, rfl⟩⟩; replace BEL := Lib.hid (below_drewN BEL.out nd)))
      go_ret
      exact ⟨rfl, BEL.out⟩
    | true =>
      obtain ⟨z0, z1, cs, ts, q1, q2, q3⟩ := ht rfl
      have q3' : fits = true ↔ M ts cs := q3
      have hfair : Fair s p cs ts := ⟨z0, z1, q1, q2, hl.1 rfl⟩
      have HC := Lib.hid (fun (raw op : ByteArray) (ho : op = ⟨#[37]⟩ ∨ op = ⟨#[33, 37]⟩) (h126 : ∀ h : 0 < p.size, ((p[0]'h).toNat : Int) ≠ 126) (w3 : World) (h3 : Below w.heap.size w w3) => gm_ok (raw := raw) (w := w3) hfair (fun w' hb => hL w' (h3.trans (hb.mono h3.size))) h126 ho)
      have HQ := Lib.hid q3'
      by_cases hp0 : p.size = 0
      · have hn1 : (p.toList == ([] : List UInt8)) = true := beq_iff_eq.mpr ((toList_nil p).2 hp0)
        have hn2 : (p.toList != ([] : List UInt8)) = false := by simp [bne, hn1]
        have H126 := Lib.hid (show ∀ h : 0 < p.size, ((p[0]'h).toNat : Int) ≠ 126 from fun h => by omega)
        clear hL h1 h2 ht hl hs hp hbig z0 z1 q1 q2 q3 q3' hfair hp0
        go_enter Tryz.func3, Tryz.ntmps3
        go_wp2_with (first
        | (go_at_call 4; (with_reducible refine (laws_mtTold.calls k1 s p fits true _ H1.out).mono ?_); rintro e w5 ⟨rfl, hb5⟩; replace BEL := Lib.hid (BEL.out.trans (hb5.mono BEL.out.size)); clear hb5)
        | (go_at_call 5; (with_reducible refine (spec_Light.calls k2 p true _ H2.out).mono ?_); rintro e w6 ⟨rfl, ⟨nd, rfl⟩⟩; replace BEL := Lib.hid (below_drewN BEL.out nd))
        | (go_at_call 7; (with_reducible refine (gs_ok (s := s) HSS.out).mono ?_); rintro e w7 ⟨raw, rfl, hb7⟩; replace BEL := Lib.hid (BEL.out.trans (hb7.mono BEL.out.size)); clear hb7)
        | (go_at_call 6; (with_reducible refine (HC.out _ _ ?side H126.out _ BEL.out).mono ?_); (case side => exact .inl rfl); rintro e w8 ⟨b8, rfl, hb8, hbel8⟩; obtain rfl := told_like hb8 HQ.out; have hff : (fits == fits) = true := (by simp); replace BEL := Lib.hid (BEL.out.trans (hbel8.mono BEL.out.size)); clear hb8 hbel8)
        | (go_at_call 6; (with_reducible refine (HC.out _ _ ?side H126.out _ BEL.out).mono ?_); (case side => exact .inr rfl); rintro e w9 ⟨b9, rfl, hb9, hbel9⟩; obtain rfl := told_unlike hb9 HQ.out; have hff9 : ((!fits) == (!fits)) = true := (by simp); replace BEL := Lib.hid (BEL.out.trans (hbel9.mono BEL.out.size)); clear hb9 hbel9))
        go_ret
        exact ⟨by first | rfl | (simp; done), BEL.out⟩
      · have hpp : 0 < p.size := by omega
        have hn1 : (p.toList == ([] : List UInt8)) = false := beq_eq_false_iff_ne.mpr (fun h => hp0 ((toList_nil p).1 h))
        have hn2 : (p.toList != ([] : List UInt8)) = true := by simp [bne, hn1]
        have hi1 : (0 : Int) < (p.size : Int) := by omega
        by_cases h7 : ((p[0]'hpp).toNat : Int) = 126
        · clear hL h1 h2 ht hl hs hp hbig z0 z1 q1 q2 q3 q3' hfair hp0 HC HQ
          go_enter Tryz.func3, Tryz.ntmps3
          go_wp2_with (first
            | (go_at_call 4; (with_reducible refine (laws_mtTold.calls k1 s p fits true _ H1.out).mono ?_); rintro e w5 ⟨rfl, hb5⟩; replace BEL := Lib.hid (BEL.out.trans (hb5.mono BEL.out.size)); clear hb5)
            | (go_at_call 5; (with_reducible refine (spec_Light.calls k2 p true _ H2.out).mono ?_); rintro e w6 ⟨rfl, ⟨nd, rfl⟩⟩; replace BEL := Lib.hid (below_drewN BEL.out nd)))
          go_ret
          exact ⟨rfl, BEL.out⟩
        · have h8 : (((p[0]'hpp).toNat : Int) == 126) = false := beq_eq_false_iff_ne.mpr h7
          have H126 := Lib.hid (show ∀ h : 0 < p.size, ((p[0]'h).toNat : Int) ≠ 126 from fun h => h7)
          clear hL h1 h2 ht hl hs hp hbig z0 z1 q1 q2 q3 q3' hfair hp0 h7
          go_enter Tryz.func3, Tryz.ntmps3
          go_wp2_with (first
        | (go_at_call 4; (with_reducible refine (laws_mtTold.calls k1 s p fits true _ H1.out).mono ?_); rintro e w5 ⟨rfl, hb5⟩; replace BEL := Lib.hid (BEL.out.trans (hb5.mono BEL.out.size)); clear hb5)
        | (go_at_call 5; (with_reducible refine (spec_Light.calls k2 p true _ H2.out).mono ?_); rintro e w6 ⟨rfl, ⟨nd, rfl⟩⟩; replace BEL := Lib.hid (below_drewN BEL.out nd))
        | (go_at_call 7; (with_reducible refine (gs_ok (s := s) HSS.out).mono ?_); rintro e w7 ⟨raw, rfl, hb7⟩; replace BEL := Lib.hid (BEL.out.trans (hb7.mono BEL.out.size)); clear hb7)
        | (go_at_call 6; (with_reducible refine (HC.out _ _ ?side H126.out _ BEL.out).mono ?_); (case side => exact .inl rfl); rintro e w8 ⟨b8, rfl, hb8, hbel8⟩; obtain rfl := told_like hb8 HQ.out; have hff : (fits == fits) = true := (by simp); replace BEL := Lib.hid (BEL.out.trans (hbel8.mono BEL.out.size)); clear hb8 hbel8)
        | (go_at_call 6; (with_reducible refine (HC.out _ _ ?side H126.out _ BEL.out).mono ?_); (case side => exact .inr rfl); rintro e w9 ⟨b9, rfl, hb9, hbel9⟩; obtain rfl := told_unlike hb9 HQ.out; have hff9 : ((!fits) == (!fits)) = true := (by simp); replace BEL := Lib.hid (BEL.out.trans (hbel9.mono BEL.out.size)); clear hb9 hbel9))
          go_ret
          exact ⟨by first | rfl | (simp; done), BEL.out⟩

end Go.Proofs.YtkhgbacbnkgafaaGreatDoor.Mlw
