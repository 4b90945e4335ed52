/- fastjson's parseArray: its walk. -/
import Derived.Test.YtfoloneeibgoiaaDoorFjB
import Derived.Deep.LoopGhost
import Derived.Great.Walk
import Derived.Test.YtfoloneeibgoiaaDoorStr
import Derived.Deep.RegionWith
set_option linter.unusedVariables false
namespace Go.Proofs.YtfoloneeibgoiaaDoor.Fjh
open Go Go.RowKit Go.Proofs.YtfoloneeibgoiaaDoorW.PrintWords Go.Proofs.YtfoloneeibgoiaaDoor.Lex

set_option maxRecDepth 100000 in
set_option maxHeartbeats 4000000 in
theorem array_none {B : Nat} (K : Nat) (cp : Addr) (V : Option Addr) (n c : Nat) (w : World) (s s1 : ByteArray) (d : Nat) (h1 : fastjson_skipWS.f K s = some s1) (h2 : s1.size = 0) (hI : CI B w cp V n c) :
    Calls Tryd.prog 45 #[.pointer (some cp), .string s, .int .i64 d] w (PE B cp w) := by
  have HI := Lib.hid hI
  have H1 := Lib.hid h1
  have hz : ((s1.size : Int) == 0) = true := beq_iff_eq.mpr (by omega)
  clear hI h1 h2
  go_enter Tryd.func45, Tryd.ntmps45
  go_wp2_with (first | (go_at_call 25; (with_reducible refine (fastjson_skipWS.calls K s s1 _ H1.out).mono ?_); rintro e w1 ⟨rfl, ⟨nd, rfl⟩⟩; try exact ⟨rfl, ‹_›⟩) | (go_at_call 29; (with_reducible refine (errors_New.calls _ (some 0) _ rfl).mono ?_); rintro e w9 ⟨x9, rfl, hb9⟩; have HB9 := Lib.hid hb9; clear hb9; simp only [errX_some]; try exact ⟨rfl, ‹_›⟩))
  go_ret3
  exact ⟨_, _, rfl, HI.out.stepB (Below.ofDrewN' (k := nd) HB9.out)⟩

set_option maxRecDepth 100000 in
set_option maxHeartbeats 4000000 in
theorem array_empty {B : Nat} (K : Nat) (cp : Addr) (V : Option Addr) (n c : Nat) (w : World) (s s1 : ByteArray) (d : Nat) (h1 : fastjson_skipWS.f K s = some s1) (h2 : 0 < s1.size) (hb : bt s1 0 = 93) (hle : s1.size ≤ s.size) (hI : CI B w cp V n c) (hm : n + 1 + s.size ≤ 1000000) :
    Calls Tryd.prog 45 #[.pointer (some cp), .string s, .int .i64 d] w (PS B cp (n + 1 + s.size) w (.arr []) (s1.extract 1 s1.size)) := by
  have HI := Lib.hid hI
  have H1 := Lib.hid h1
  have HM := Lib.hid (And.intro hm hle)
  have hx : ∀ h : 0 < s1.size, ((s1[0]'h).toNat : Int) = 93 := fun h => (bt_at s1 0 h).trans hb
  have q1 : 1 ≤ s1.size := h2
  have q : (0 < s1.size) = True := eq_true h2
  have hz : ((s1.size : Int) == 0) = false := beq_eq_false_iff_ne.mpr (by omega)
  clear hI h1 h2 hb hm hle
  go_enter Tryd.func45, Tryd.ntmps45
  go_wp2_with (first | (go_at_call 25; (with_reducible refine (fastjson_skipWS.calls K s s1 _ H1.out).mono ?_); rintro e w1 ⟨rfl, ⟨nd, rfl⟩⟩; try exact ⟨rfl, ‹_›⟩))
  have hI1 : CI B (w.drewN nd) cp V n c := HI.out.drewN nd
  have hm' := HM.out
  refine (getValue_gv cp V n c _ hI1 (by omega)).mono ?_
  rintro e w2 ⟨p, V2, c2, rfl, hp, hI2, hS2, hz2⟩
  obtain ⟨pb, po, rfl⟩ : ∃ pb po, p = ⟨pb, po, none⟩ := ⟨p.block, p.off, by cases p; simp_all⟩
  have hI0 := HI.out
  have hS1 : Step B cp w (w.drewN nd) := (Step.refl B cp w).frame ((Frame.refl (fun _ => False) w).drewN nd) hI0.low (fun hx => hx.elim) hI0.row.block (fun _ hx => hx.elim) (fun _ hx => hx.elim)
  have hA := ArrI.start (m := n + 1 + s1.size) (sz := s1.size) hI2 (hS1.trans hS2) (fun j v hj => by
    obtain ⟨h1, h2, h3⟩ := hz2 j v hj
    exact ⟨h1, h2, h3.1, fun hs => h3.2 (hS1.keep _ hs).1⟩) (Nat.le_refl _) hI0.low (fun w' a ha => hI0.own ha)
  obtain ⟨c2, f2, -⟩ := hz2 2 _ rfl
  obtain ⟨c4, f4, -⟩ := hz2 4 _ rfl
  simp only [fld] at c2 f2 c4 f4
  have HA := Lib.hid hA
  clear hI1 hI2 hS2 hz2 hm' hI0 hS1 hA
  simp only []
  go_wp2
  go_quiet (fail)
  go_wp2
  go_ret3
  have hm' := HM.out
  refine PS.drewN (w' := (w2.setCell ⟨pb, po + 4, none⟩ (.int .i64 2)).setCell ⟨pb, po + 2, none⟩ (.slice none 0 0)) ?_ _
  exact HA.out.fin rfl (by rw [ByteArray.size_extract]; omega) rfl

theorem infoP : (Tryd.prog.info? 40).map (fun i => (i.zero, i.size, i.bytes)) = some (some (.pointer none), 1, 8) := by kernel_rfl

set_option maxRecDepth 100000 in
set_option maxHeartbeats 4000000 in
theorem array_loop {pv : ByteArray → Nat → PRes} (HV : PVok pv) {B : Nat} (K : Nat) (cp : Addr) (V : Option Addr) (n c : Nat) (w : World) (s s1 : ByteArray) (d : Nat) (hd : d ≤ 300) (h1 : fastjson_skipWS.f K s = some s1) (h2 : 0 < s1.size) (hb : bt s1 0 ≠ 93) (hle : s1.size ≤ s.size) (r : Option (JV × ByteArray)) (hr : pArrL pv K d K s1 [] = some r) (hI : CI B w cp V n c) (hm : n + 1 + s.size ≤ 1000000) :
    Calls Tryd.prog 45 #[.pointer (some cp), .string s, .int .i64 d] w (PV B cp (n + 1 + s.size) w r) := by
  have HI := Lib.hid hI
  have H1 := Lib.hid h1
  have HM := Lib.hid (And.intro hm hle)
  have HD := Lib.hid hd
  have HR := Lib.hid hr
  have HVh := Lib.hid HV
  have hx : ∀ h : 0 < s1.size, ((s1[0]'h).toNat : Int) = bt s1 0 := bt_at s1 0
  have q1 : 1 ≤ s1.size := h2
  have q : (0 < s1.size) = True := eq_true h2
  have hz : ((s1.size : Int) == 0) = false := beq_eq_false_iff_ne.mpr (by omega)
  have b93 : (bt s1 0 == 93) = false := beq_eq_false_iff_ne.mpr hb
  clear hI h1 h2 hb hm hle hd hr HV
  obtain ⟨i0, hi, hz0, hz1, hz2⟩ := info_parts infoP
  go_enter Tryd.func45, Tryd.ntmps45
  go_wp2_with (first | (go_at_call 25; (with_reducible refine (fastjson_skipWS.calls K s s1 _ H1.out).mono ?_); rintro e w1 ⟨rfl, ⟨nd, rfl⟩⟩; try exact ⟨rfl, ‹_›⟩))
  have hI1 : CI B (w.drewN nd) cp V n c := HI.out.drewN nd
  have hm' := HM.out
  refine (getValue_gv cp V n c _ hI1 (by omega)).mono ?_
  rintro e w2 ⟨p, V2, c2, rfl, hp, hI2, hS2, hz2⟩
  obtain ⟨pb, po, rfl⟩ : ∃ pb po, p = ⟨pb, po, none⟩ := ⟨p.block, p.off, by cases p; simp_all⟩
  have hI0 := HI.out
  have hS1 : Step B cp w (w.drewN nd) := (Step.refl B cp w).frame ((Frame.refl (fun _ => False) w).drewN nd) hI0.low (fun hx => hx.elim) hI0.row.block (fun _ hx => hx.elim) (fun _ hx => hx.elim)
  have hA := ArrI.start (m := n + 1 + s1.size) (sz := s1.size) hI2 (hS1.trans hS2) (fun j v hj => by
    obtain ⟨h1, h2, h3⟩ := hz2 j v hj
    exact ⟨h1, h2, h3.1, fun hs => h3.2 (hS1.keep _ hs).1⟩) (Nat.le_refl _) hI0.low (fun w' a ha => hI0.own ha)
  obtain ⟨c2, f2, -⟩ := hz2 2 _ rfl
  obtain ⟨c4, f4, -⟩ := hz2 4 _ rfl
  simp only [fld] at c2 f2 c4 f4
  have HA := Lib.hid hA
  clear hI1 hI2 hS2 hz2 hm' hI0 hS1 hA
  simp only []
  go_wp2
  (try simp only [Act.put, List.setIfInBounds_toArray, List.set_cons_zero, List.set_cons_succ])
  go_loopg [1] K (fun kq v1 w' => ∃ (s2 : ByteArray) (acc : List JV) (A : Option Addr) (ca : Nat) (ps : Nat → Addr) (O : Nat → Addr → Prop), v1 = .string s2 ∧ Hid (pArrL pv K d kq s2 acc = some r) ∧ Hid (ArrI B cp (n + 1 + s1.size) w ⟨pb, po, none⟩ A ca ps O acc s2.size w') ∧ Hid (acc.length + s2.size ≤ n + 1 + s1.size))
  case atStart => exact ⟨s1, [], none, 0, _, _, rfl, HR, HA, Lib.hid (by simp)⟩
  case round =>
    clear HR HA c2 f2 c4 f4 hx q1 q hz b93
    obtain ⟨s2, acc, A, ca, ps, O, rfl, HL, HA, HLen⟩ := hrel
    cases gk with
    | zero => exact absurd HL.out (by simp [pArrL])
    | succ k2 =>
      have hL := HL.out
      clear HL
      unfold pArrL at hL
      obtain ⟨s3, e3, hL1⟩ := Option.bind_eq_some_iff.mp hL
      obtain ⟨rv, e4, hL2⟩ := Option.bind_eq_some_iff.mp hL1
      obtain ⟨e3, l3⟩ := sk_some e3
      have hA := HA.out
      obtain ⟨V3, n3, c3, hI3, hn3⟩ := hA.ci
      have hm' := HM.out
      have hcall : ∀ k, Calls Tryd.prog 27 #[.pointer (some cp), .string s3, .int .i64 d] (wr.drewN k) (PV B cp (n3 + s3.size) (wr.drewN k) rv) := fun k => HVh.out s3 d rv HD.out e4 B cp V3 n3 c3 _ (hI3.drewN k) (by omega)
      have E3 := Lib.hid e3
      have HC := Lib.hid hcall
      have HN := Lib.hid (And.intro l3 hn3)
      have HL := Lib.hid hL2
      have HI3 := Lib.hid hI3
      clear hA hI3 hn3 hm' hcall e3 e4 l3 hL hL1 hL2
      cases rv with
      | none =>
        have hr := Option.some.inj HL.out
        subst hr
        clear HL
        go_wp2_with (first | (go_at_call 25; (with_reducible refine (fastjson_skipWS.calls K s2 s3 _ E3.out).mono ?_); rintro e w1 ⟨rfl, ⟨nd3, rfl⟩⟩; try exact ⟨rfl, ‹_›⟩) | (go_at_call 27; (refine (HC.out _).mono ?_); rintro e w4 ⟨tl, x, rfl, hb1⟩; have HB1 := Lib.hid hb1; clear hb1; try exact ⟨rfl, ‹_›⟩) | (go_at_call 29; (with_reducible refine (errors_New.calls _ (some 0) _ rfl).mono ?_); rintro e w9 ⟨x9, rfl, hb9⟩; have HB9 := Lib.hid hb9; clear hb9; simp only [errX_some]; try exact ⟨rfl, ‹_›⟩))
        go_wp2
        go_ret3
        have hs1 := (HA.out.frame ((Frame.refl (fun _ => False) wr).drewN nd3)).st
        exact ⟨_, _, rfl, (hs1.trans HB1.out).then HI.out HB9.out⟩
      | some vt =>
        obtain ⟨v, t⟩ := vt
        have hL := HL.out
        clear HL
        simp only at hL
        by_cases l4' : ¬ t.size ≤ s3.size
        · rw [if_neg l4'] at hL; cases hL
        have l4 : t.size ≤ s3.size := Decidable.not_not.mp l4'
        clear l4'
        rw [if_pos l4] at hL
        obtain ⟨t1, e5, hL1⟩ := Option.bind_eq_some_iff.mp hL
        obtain ⟨e5, l5⟩ := sk_some e5
        have E5 := Lib.hid e5
        have L5 := Lib.hid (And.intro l4 l5)
        clear hL e5 l5 l4
        by_cases z1 : t1.size = 0
        · rw [if_pos z1] at hL1
          have hr := Option.some.inj hL1
          subst hr
          clear hL1
          have hz : ((t1.size : Int) == 0) = true := beq_iff_eq.mpr (by omega)
          clear z1
          go_wp2_with (first | (go_at_call 25; (with_reducible refine (fastjson_skipWS.calls K s2 s3 _ E3.out).mono ?_); rintro e w1 ⟨rfl, ⟨nd3, rfl⟩⟩; try exact ⟨rfl, ‹_›⟩) | (go_at_call 27; (refine (HC.out _).mono ?_); rintro e w4 ⟨p4, V4, n4, c4, rfl, hp4, hI4, hn4, hS4, hR4⟩; have hN := HN.out; have hA4 := ((HA.out.frame ((Frame.refl (fun _ => False) wr).drewN nd3)).child (sz' := t.size) hI4 (by omega) hS4); have hK4 := (HA.out.frame ((Frame.refl (fun _ => False) wr).drewN nd3)).kidRep hR4; have c42 := hA4.c2; have f42 := hA4.f2; simp only [fld] at c42 f42; have HA4 := Lib.hid hA4; have HK4 := Lib.hid hK4; have HP4 := Lib.hid hp4; clear hA4 hK4 hp4 hI4 hn4 hS4 hR4 hN; try exact ⟨rfl, ‹_›⟩) | (refine wpList_append_ptr rfl (.tmp 70) (.tmp 72) 69 rfl 40 i0 (.pointer none) 8 Tryd.underlying69 hi hz0 hz1 hz2 rfl (by omega) A acc.length ca rfl (HA4.out.frame ((Frame.refl (fun _ => False) w4).alloc (.cells #[.pointer (some p4)] 40))).row (by have := HLen.out; have := HM.out; omega) _ (some p4) _ rfl (news_at (a := 0)) ?_; intro V5 ca5 w5 HAR; have hA5 := HA4.out.frame ((Frame.refl (fun _ => False) w4).alloc (.cells #[.pointer (some p4)] 40)); have hK5 := HA4.out.kidFrame HK4.out ((Frame.refl (fun _ => False) w4).alloc (.cells #[.pointer (some p4)] 40)); have c25 := (hA5.field HAR.out).1; have f25 := (hA5.field HAR.out).2; simp only [fld] at c25 f25; have HP5 := Lib.hid (hA5.push hK5 HAR.out); clear hA5 hK5) | (go_at_call 25; (with_reducible refine (fastjson_skipWS.calls K t t1 _ E5.out).mono ?_); rintro e w1 ⟨rfl, ⟨nd5, rfl⟩⟩; try exact ⟨rfl, ‹_›⟩) | (go_at_call 29; (with_reducible refine (errors_New.calls _ (some 0) _ rfl).mono ?_); rintro e w9 ⟨x9, rfl, hb9⟩; have HB9 := Lib.hid hb9; clear hb9; simp only [errX_some]; try exact ⟨rfl, ‹_›⟩))
          go_ret3
          exact ⟨_, _, rfl, HP5.out.st.then HI.out (Below.ofDrewN' (k := nd5) HB9.out)⟩
        rw [if_neg z1] at hL1
        have q1 : 1 ≤ t1.size := by omega
        have q : (0 < t1.size) = True := eq_true (by omega)
        have hz : ((t1.size : Int) == 0) = false := beq_eq_false_iff_ne.mpr (by omega)
        clear z1
        by_cases z2 : bt t1 0 = 44
        · rw [if_pos z2] at hL1
          have HL := Lib.hid hL1
          have hx : ∀ h : 0 < t1.size, ((t1[0]'h).toNat : Int) = 44 := fun h => (bt_at t1 0 h).trans z2
          clear z2 hL1
          go_wp2_with (first | (go_at_call 25; (with_reducible refine (fastjson_skipWS.calls K s2 s3 _ E3.out).mono ?_); rintro e w1 ⟨rfl, ⟨nd3, rfl⟩⟩; try exact ⟨rfl, ‹_›⟩) | (go_at_call 27; (refine (HC.out _).mono ?_); rintro e w4 ⟨p4, V4, n4, c4, rfl, hp4, hI4, hn4, hS4, hR4⟩; have hN := HN.out; have hA4 := ((HA.out.frame ((Frame.refl (fun _ => False) wr).drewN nd3)).child (sz' := t.size) hI4 (by omega) hS4); have hK4 := (HA.out.frame ((Frame.refl (fun _ => False) wr).drewN nd3)).kidRep hR4; have c42 := hA4.c2; have f42 := hA4.f2; simp only [fld] at c42 f42; have HA4 := Lib.hid hA4; have HK4 := Lib.hid hK4; have HP4 := Lib.hid hp4; clear hA4 hK4 hp4 hI4 hn4 hS4 hR4 hN; try exact ⟨rfl, ‹_›⟩) | (refine wpList_append_ptr rfl (.tmp 70) (.tmp 72) 69 rfl 40 i0 (.pointer none) 8 Tryd.underlying69 hi hz0 hz1 hz2 rfl (by omega) A acc.length ca rfl (HA4.out.frame ((Frame.refl (fun _ => False) w4).alloc (.cells #[.pointer (some p4)] 40))).row (by have := HLen.out; have := HM.out; omega) _ (some p4) _ rfl (news_at (a := 0)) ?_; intro V5 ca5 w5 HAR; have hA5 := HA4.out.frame ((Frame.refl (fun _ => False) w4).alloc (.cells #[.pointer (some p4)] 40)); have hK5 := HA4.out.kidFrame HK4.out ((Frame.refl (fun _ => False) w4).alloc (.cells #[.pointer (some p4)] 40)); have c25 := (hA5.field HAR.out).1; have f25 := (hA5.field HAR.out).2; simp only [fld] at c25 f25; have HP5 := Lib.hid (hA5.push hK5 HAR.out); clear hA5 hK5) | (go_at_call 25; (with_reducible refine (fastjson_skipWS.calls K t t1 _ E5.out).mono ?_); rintro e w1 ⟨rfl, ⟨nd5, rfl⟩⟩; try exact ⟨rfl, ‹_›⟩) | (go_at_call 29; (with_reducible refine (errors_New.calls _ (some 0) _ rfl).mono ?_); rintro e w9 ⟨x9, rfl, hb9⟩; have HB9 := Lib.hid hb9; clear hb9; simp only [errX_some]; try exact ⟨rfl, ‹_›⟩))
          go_roundg k2
          case measure => omega
          case rel =>
            have hsz : (t1.extract 1 t1.size).size = t1.size - 1 := by rw [ByteArray.size_extract]; omega
            have hl5 := L5.out
            have hlen := HLen.out
            have hn := HN.out
            refine ⟨t1.extract 1 t1.size, acc ++ [v], V5, ca5, _, _, rfl, HL, Lib.hid ((HP5.out.frame ((Frame.refl (fun _ => False) _).drewN nd5)).less (by omega)), Lib.hid ?_⟩
            rw [hsz, List.length_append, List.length_singleton]
            omega
        rw [if_neg z2] at hL1
        have b44 : (bt t1 0 == 44) = false := beq_eq_false_iff_ne.mpr z2
        clear z2
        by_cases z3 : bt t1 0 = 93
        · rw [if_pos z3] at hL1
          have hr := Option.some.inj hL1
          subst hr
          have hx : ∀ h : 0 < t1.size, ((t1[0]'h).toNat : Int) = 93 := fun h => (bt_at t1 0 h).trans z3
          clear z3 hL1 b44
          go_wp2_with (first | (go_at_call 25; (with_reducible refine (fastjson_skipWS.calls K s2 s3 _ E3.out).mono ?_); rintro e w1 ⟨rfl, ⟨nd3, rfl⟩⟩; try exact ⟨rfl, ‹_›⟩) | (go_at_call 27; (refine (HC.out _).mono ?_); rintro e w4 ⟨p4, V4, n4, c4, rfl, hp4, hI4, hn4, hS4, hR4⟩; have hN := HN.out; have hA4 := ((HA.out.frame ((Frame.refl (fun _ => False) wr).drewN nd3)).child (sz' := t.size) hI4 (by omega) hS4); have hK4 := (HA.out.frame ((Frame.refl (fun _ => False) wr).drewN nd3)).kidRep hR4; have c42 := hA4.c2; have f42 := hA4.f2; simp only [fld] at c42 f42; have HA4 := Lib.hid hA4; have HK4 := Lib.hid hK4; have HP4 := Lib.hid hp4; clear hA4 hK4 hp4 hI4 hn4 hS4 hR4 hN; try exact ⟨rfl, ‹_›⟩) | (refine wpList_append_ptr rfl (.tmp 70) (.tmp 72) 69 rfl 40 i0 (.pointer none) 8 Tryd.underlying69 hi hz0 hz1 hz2 rfl (by omega) A acc.length ca rfl (HA4.out.frame ((Frame.refl (fun _ => False) w4).alloc (.cells #[.pointer (some p4)] 40))).row (by have := HLen.out; have := HM.out; omega) _ (some p4) _ rfl (news_at (a := 0)) ?_; intro V5 ca5 w5 HAR; have hA5 := HA4.out.frame ((Frame.refl (fun _ => False) w4).alloc (.cells #[.pointer (some p4)] 40)); have hK5 := HA4.out.kidFrame HK4.out ((Frame.refl (fun _ => False) w4).alloc (.cells #[.pointer (some p4)] 40)); have c25 := (hA5.field HAR.out).1; have f25 := (hA5.field HAR.out).2; simp only [fld] at c25 f25; have HP5 := Lib.hid (hA5.push hK5 HAR.out); clear hA5 hK5) | (go_at_call 25; (with_reducible refine (fastjson_skipWS.calls K t t1 _ E5.out).mono ?_); rintro e w1 ⟨rfl, ⟨nd5, rfl⟩⟩; try exact ⟨rfl, ‹_›⟩) | (go_at_call 29; (with_reducible refine (errors_New.calls _ (some 0) _ rfl).mono ?_); rintro e w9 ⟨x9, rfl, hb9⟩; have HB9 := Lib.hid hb9; clear hb9; simp only [errX_some]; try exact ⟨rfl, ‹_›⟩))
          go_ret3
          have hsz : (t1.extract 1 t1.size).size = t1.size - 1 := by rw [ByteArray.size_extract]; omega
          have hl5 := L5.out
          have hm' := HM.out
          exact (HP5.out.frame ((Frame.refl (fun _ => False) _).drewN nd5)).fin rfl (by omega) rfl
        · rw [if_neg z3] at hL1
          have hr := Option.some.inj hL1
          subst hr
          have b93 : (bt t1 0 == 93) = false := beq_eq_false_iff_ne.mpr z3
          have hx : ∀ h : 0 < t1.size, ((t1[0]'h).toNat : Int) = bt t1 0 := bt_at t1 0
          clear z3 hL1
          go_wp2_with (first | (go_at_call 25; (with_reducible refine (fastjson_skipWS.calls K s2 s3 _ E3.out).mono ?_); rintro e w1 ⟨rfl, ⟨nd3, rfl⟩⟩; try exact ⟨rfl, ‹_›⟩) | (go_at_call 27; (refine (HC.out _).mono ?_); rintro e w4 ⟨p4, V4, n4, c4, rfl, hp4, hI4, hn4, hS4, hR4⟩; have hN := HN.out; have hA4 := ((HA.out.frame ((Frame.refl (fun _ => False) wr).drewN nd3)).child (sz' := t.size) hI4 (by omega) hS4); have hK4 := (HA.out.frame ((Frame.refl (fun _ => False) wr).drewN nd3)).kidRep hR4; have c42 := hA4.c2; have f42 := hA4.f2; simp only [fld] at c42 f42; have HA4 := Lib.hid hA4; have HK4 := Lib.hid hK4; have HP4 := Lib.hid hp4; clear hA4 hK4 hp4 hI4 hn4 hS4 hR4 hN; try exact ⟨rfl, ‹_›⟩) | (refine wpList_append_ptr rfl (.tmp 70) (.tmp 72) 69 rfl 40 i0 (.pointer none) 8 Tryd.underlying69 hi hz0 hz1 hz2 rfl (by omega) A acc.length ca rfl (HA4.out.frame ((Frame.refl (fun _ => False) w4).alloc (.cells #[.pointer (some p4)] 40))).row (by have := HLen.out; have := HM.out; omega) _ (some p4) _ rfl (news_at (a := 0)) ?_; intro V5 ca5 w5 HAR; have hA5 := HA4.out.frame ((Frame.refl (fun _ => False) w4).alloc (.cells #[.pointer (some p4)] 40)); have hK5 := HA4.out.kidFrame HK4.out ((Frame.refl (fun _ => False) w4).alloc (.cells #[.pointer (some p4)] 40)); have c25 := (hA5.field HAR.out).1; have f25 := (hA5.field HAR.out).2; simp only [fld] at c25 f25; have HP5 := Lib.hid (hA5.push hK5 HAR.out); clear hA5 hK5) | (go_at_call 25; (with_reducible refine (fastjson_skipWS.calls K t t1 _ E5.out).mono ?_); rintro e w1 ⟨rfl, ⟨nd5, rfl⟩⟩; try exact ⟨rfl, ‹_›⟩) | (go_at_call 29; (with_reducible refine (errors_New.calls _ (some 0) _ rfl).mono ?_); rintro e w9 ⟨x9, rfl, hb9⟩; have HB9 := Lib.hid hb9; clear hb9; simp only [errX_some]; try exact ⟨rfl, ‹_›⟩))
          go_ret3
          exact ⟨_, _, rfl, HP5.out.st.then HI.out (Below.ofDrewN' (k := nd5) HB9.out)⟩

/-- parseArray does as pArr says. -/
theorem pArr_ok {pv : ByteArray → Nat → PRes} (HV : PVok pv) (K : Nat) : PAok (pArr pv K) := by
  intro s d r hd h B cp V n c w hI hm
  unfold pArr at h
  obtain ⟨s1, h1, h2⟩ := Option.bind_eq_some_iff.mp h
  obtain ⟨e1, l1⟩ := sk_some h1
  by_cases z1 : s1.size = 0
  · rw [if_pos z1] at h2
    obtain rfl := Option.some.inj h2
    exact array_none K cp V n c w s s1 d e1 z1 hI
  rw [if_neg z1] at h2
  by_cases z2 : bt s1 0 = 93
  · rw [if_pos z2] at h2
    obtain rfl := Option.some.inj h2
    exact array_empty K cp V n c w s s1 d e1 (by omega) z2 l1 hI hm
  rw [if_neg z2] at h2
  exact array_loop HV K cp V n c w s s1 d hd e1 (by omega) z2 l1 r h2 hI hm

end Go.Proofs.YtfoloneeibgoiaaDoor.Fjh

/- fastjson's (*Object).reset of an object without members. -/
set_option linter.unusedVariables false
namespace Go.Proofs.YtfoloneeibgoiaaDoor.Fjh
open Go Go.RowKit Go.Proofs.YtfoloneeibgoiaaDoorW.PrintWords Go.Proofs.YtfoloneeibgoiaaDoor.Lex

theorem run_clear_nil {P : Program} {w : World} {t e : TypeId} (ht : P.underlying t = some (.slice e)) (ty : TypeId) (n c : Nat) : Sem.run P (Builtin.clear_ #[t] ty #[.slice none n c]) w = .ok (.tuple #[]) w := by
  simp [Builtin.clear_, run_underlying ht, Result.andThen]

set_option maxRecDepth 100000 in
set_option maxHeartbeats 4000000 in
theorem oreset_nil (pb po : Nat) (w : World) (c0 : w.cell? ⟨pb, po, none⟩ = some (.slice none 0 0)) (f0 : w.frozen? ⟨pb, po, none⟩ = false) (c1 : w.cell? ⟨pb, po + 1, none⟩ = some (.bool false)) (f1 : w.frozen? ⟨pb, po + 1, none⟩ = false) :
    Calls Tryd.prog 66 #[.pointer (some ⟨pb, po, none⟩)] w (fun e w' => e = .returned (.tuple #[]) ∧ ∃ k, w' = ((w.setCell ⟨pb, po, none⟩ (.slice none 0 0)).setCell ⟨pb, po + 1, none⟩ (.bool false)).drewN k) := by
  have hcl := fun ty => run_clear_nil (P := Tryd.prog) (w := w) Tryd.underlying66 ty 0 0
  go_enter Tryd.func66, Tryd.ntmps66
  go_wp2
  refine Go.Great.bodyPost_end0 rfl rfl ?_
  exact ⟨rfl, 0, rfl⟩

end Go.Proofs.YtfoloneeibgoiaaDoor.Fjh

/- fastjson's parseObject: what its loop keeps, each step in plain Lean. -/
set_option linter.unusedVariables false
namespace Go.Proofs.YtfoloneeibgoiaaDoor.Fjh
open Go Go.RowKit Go.Proofs.YtfoloneeibgoiaaDoorW.PrintWords

/-- Of an object that is being read: ks and vs are read, x (0 or 1) members are begun, sz bytes at most are still to come. -/
structure ObjI (B : Nat) (cp : Addr) (m : Nat) (w0 : World) (p : Addr) (A : Option Addr) (ca : Nat) (ps : Nat → Addr) (O : Nat → Addr → Prop) (ks : List ByteArray) (vs : List JV) (x : Nat) (sz : Nat) (w : World) : Prop where
  ci : ∃ V n c, CI B w cp V n c ∧ n + sz ≤ m
  st : Step B cp w0 w
  low : B ≤ w0.heap.size
  own : ∀ w' x, Own cp w0 w' x → B ≤ x.block
  row : RowI 97 2 zeroK w (fld p 0) A (vs.length + x) ca
  o : ∀ j, j < 5 → Own cp w0 w (fld p j)
  c1 : w.cell? (fld p 1) = some (.bool false)
  f1 : w.frozen? (fld p 1) = false
  c4 : w.cell? (fld p 4) = some (.int .i64 1)
  f4 : w.frozen? (fld p 4) = false
  len : ks.length = vs.length
  rown : ∀ b, A = some b → b = ⟨b.block, 0, none⟩ ∧ b.block ≠ p.block ∧ ∀ i, Own cp w0 w ⟨b.block, i, none⟩
  ptr : ∀ b, A = some b → ∀ i, i < vs.length → w.cell? ⟨b.block, 2 * i, none⟩ = some (.string (ks.getD i emptyS)) ∧ w.cell? ⟨b.block, 2 * i + 1, none⟩ = some (.pointer (some (ps i)))
  kO : ∀ i x, O i x → AOwn cp w0 w p A x
  kD : ∀ i j x, i < j → O i x → O j x → False
  kE : ∀ i x, vs.length ≤ i → ¬ O i x
  kid : ∀ (i : Nat) (v : JV), vs[i]? = some v → Rep w (O i) (ps i) v

section
variable {B : Nat} {cp : Addr} {m : Nat} {w0 w w2 : World} {p q : Addr} {A : Option Addr} {ca : Nat} {ps : Nat → Addr} {O : Nat → Addr → Prop} {ks : List ByteArray} {vs : List JV} {x sz sz' : Nat} {t : JV}

theorem ObjI.o0 (h : ObjI B cp m w0 p A ca ps O ks vs x sz w) : Own cp w0 w (fld p 0) := h.o 0 (by omega)
theorem ObjI.o1 (h : ObjI B cp m w0 p A ca ps O ks vs x sz w) : Own cp w0 w (fld p 1) := h.o 1 (by omega)
theorem ObjI.o4 (h : ObjI B cp m w0 p A ca ps O ks vs x sz w) : Own cp w0 w (fld p 4) := h.o 4 (by omega)

/-- A child is read: all stands as it did. -/
theorem ObjI.child {V' : Option Addr} {n' c' : Nat} (h : ObjI B cp m w0 p A ca ps O ks vs x sz w) (hI : CI B w2 cp V' n' c') (hn : n' + sz' ≤ m) (hS : Step B cp w w2) : ObjI B cp m w0 p A ca ps O ks vs x sz' w2 := by
  have up : ∀ x, Own cp w0 w x → Own cp w0 w2 x := fun x hx => ⟨(hS.keep x hx.1).1, hx.2⟩
  have ce : ∀ x, Own cp w0 w x → w2.cell? x = w.cell? x := fun x hx => (hS.keep x hx.1).2.1
  have fe : ∀ x, Own cp w0 w x → w2.frozen? x = w.frozen? x := fun x hx => (hS.keep x hx.1).2.2
  exact ⟨⟨V', n', c', hI, hn⟩, h.st.trans hS, h.low, h.own,
    h.row.step hS.below.size ⟨ce _ h.o0, fe _ h.o0⟩ (fun b hb i => ⟨ce _ ((h.rown b hb).2.2 i), fe _ ((h.rown b hb).2.2 i)⟩), (fun j hj => up _ (h.o j hj)), (ce _ h.o1).trans h.c1, (fe _ h.o1).trans h.f1, (ce _ h.o4).trans h.c4, (fe _ h.o4).trans h.f4, h.len,
    fun b hb => ⟨(h.rown b hb).1, (h.rown b hb).2.1, fun i => up _ ((h.rown b hb).2.2 i)⟩,
    fun b hb i hi => ⟨(ce _ ((h.rown b hb).2.2 _)).trans (h.ptr b hb i hi).1, (ce _ ((h.rown b hb).2.2 _)).trans (h.ptr b hb i hi).2⟩, fun i x hx => ⟨up x (h.kO i x hx).1, (h.kO i x hx).2⟩, h.kD, h.kE, fun i v hv => (h.kid i v hv).mono (fun x hx => ⟨hx, ce x (h.kO i x hx).1, fe x (h.kO i x hx).1⟩)⟩

theorem ObjI.cellKeep {b : Nat} (h : ObjI B cp m w0 p (some ⟨b, 0, none⟩) ca ps O ks vs x sz w) (hS : Step B cp w w2) (i : Nat) : w2.cell? ⟨b, i, none⟩ = w.cell? ⟨b, i, none⟩ ∧ w2.frozen? ⟨b, i, none⟩ = w.frozen? ⟨b, i, none⟩ :=
  (hS.keep _ ((h.rown _ rfl).2.2 i).1).2

theorem ObjI.kidRep (h : ObjI B cp m w0 p A ca ps O ks vs x sz w) (hR : Rep w2 (Own cp w w2) q t) : Rep w2 (QOwn cp w0 w2 p A O) q t := by
  refine hR.mono (fun x hx => ⟨⟨⟨⟨hx.1, fun h0 => hx.2 (h.st.keep x h0).1⟩, fun j hj e => hx.2 (e ▸ (h.o j hj).1), fun b hb e => hx.2 ?_⟩, fun i hi => hx.2 (h.kO i x hi).1.1⟩, rfl, rfl⟩)
  have := (h.rown b hb).2.2 x.off
  rw [← e, ← spot_eq hx.1.2.2.1] at this
  exact this.1

theorem ObjI.less (h : ObjI B cp m w0 p A ca ps O ks vs x sz w) (hl : sz' ≤ sz) : ObjI B cp m w0 p A ca ps O ks vs x sz' w := by
  obtain ⟨V, n, c, hI, hn⟩ := h.ci
  exact { h with ci := ⟨V, n, c, hI, by omega⟩ }

theorem step_false {V : Option Addr} {n c : Nat} (hI : CI B w cp V n c) (f : Frame (fun _ => False) w w2) : Step B cp w w2 :=
  (Step.refl B cp w).frame f hI.low (fun hx => hx.elim) hI.row.block (fun _ hx => hx.elim) (fun _ hx => hx.elim)

theorem ObjI.stepF (h : ObjI B cp m w0 p A ca ps O ks vs x sz w) (f : Frame (fun _ => False) w w2) : Step B cp w w2 := by
  obtain ⟨V, n, c, hI, hn⟩ := h.ci
  exact step_false hI f

theorem ObjI.frame (h : ObjI B cp m w0 p A ca ps O ks vs x sz w) (f : Frame (fun _ => False) w w2) : ObjI B cp m w0 p A ca ps O ks vs x sz w2 := by
  obtain ⟨V, n, c, hI, hn⟩ := h.ci
  exact h.child (hI.frame f (fun _ hx => hx.elim)) hn (h.stepF f)

theorem ObjI.kidFrame (h : ObjI B cp m w0 p A ca ps O ks vs x sz w) (hR : Rep w (QOwn cp w0 w p A O) q t) (f : Frame (fun _ => False) w w2) : Rep w2 (QOwn cp w0 w2 p A O) q t := by
  obtain ⟨V, n, c, hI, hn⟩ := h.ci
  exact hR.mono (fun x hx => ⟨⟨⟨⟨hx.1.1.1.frame f (fun hx => hx.elim) hI.row.block, hx.1.1.2⟩, hx.1.2⟩, hx.2⟩, f.cell x (fun hx => hx.elim) hx.1.1.1.1, f.frozen x hx.1.1.1.1⟩)

theorem Step.drewL {k : Nat} (h : Step B cp (w.drewN k) w2) : Step B cp w w2 := ⟨⟨h.below.os, h.below.tape, h.below.output, h.below.size, h.below.block⟩, h.keep⟩

/-- Behind a child a cell of the begun member is written: still all that was stands. -/
theorem ObjI.stepSet {b : Nat} (h : ObjI B cp m w0 p (some ⟨b, 0, none⟩) ca ps O ks vs x sz w) (hs : Step B cp w w2) (i : Nat) (v : Value) : Step B cp w0 (w2.setCell ⟨b, i, none⟩ v) := by
  obtain ⟨V, n, c, hI, hn⟩ := h.ci
  have hO := (h.rown _ rfl).2.2 i
  simp only at hO
  have F : Frame (fun x => x = ⟨b, i, none⟩) w2 (w2.setCell ⟨b, i, none⟩ v) := (Frame.refl (fun x => x = (⟨b, i, none⟩ : Addr)) w2).setCell (x := ⟨b, i, none⟩) rfl _
  exact (h.st.trans hs).frame F (Nat.le_trans hI.low hs.below.size) (fun e => hO.1.2.1 e.symm) (Nat.lt_of_lt_of_le hI.row.block hs.below.size) (fun x hx => hx ▸ h.own w _ hO) (fun x hx => hx ▸ hO.2)

/-- A cell of the member that is begun is written. -/
theorem ObjI.turn {b : Nat} (h : ObjI B cp m w0 p (some ⟨b, 0, none⟩) ca ps O ks vs 1 sz w) (j : Nat) (hj : j < 2) (v : Value) :
    ObjI B cp m w0 p (some ⟨b, 0, none⟩) ca ps O ks vs 1 sz (w.setCell ⟨b, vs.length * 2 + j, none⟩ v) ∧ (∀ q t, Rep w (QOwn cp w0 w p (some ⟨b, 0, none⟩) O) q t → Rep (w.setCell ⟨b, vs.length * 2 + j, none⟩ v) (QOwn cp w0 (w.setCell ⟨b, vs.length * 2 + j, none⟩ v) p (some ⟨b, 0, none⟩) O) q t) := by
  obtain ⟨V, n, c, hI, hn⟩ := h.ci
  obtain ⟨w2, hw2⟩ : ∃ w2, w2 = w.setCell ⟨b, vs.length * 2 + j, none⟩ v := ⟨_, rfl⟩
  rw [← hw2]
  have F : Frame (fun x => x = ⟨b, vs.length * 2 + j, none⟩) w w2 := by rw [hw2]; exact (Frame.refl (fun x => x = (⟨b, vs.length * 2 + j, none⟩ : Addr)) w).setCell (x := ⟨b, vs.length * 2 + j, none⟩) rfl _
  have hO := (h.rown _ rfl).2.2 (vs.length * 2 + j)
  simp only at hO
  have hcb := hI.row.block
  have hcp : ¬ (cp = (⟨b, vs.length * 2 + j, none⟩ : Addr)) := fun e => hO.1.2.1 e.symm
  have hbp : b ≠ p.block := (h.rown _ rfl).2.1
  have hf : ∀ i, fld p i ≠ (⟨b, vs.length * 2 + j, none⟩ : Addr) := fun i e => hbp (by have := congrArg Addr.block e; simpa [fld] using this.symm)
  have up : ∀ x, Own cp w0 w x → Own cp w0 w2 x := fun x hx => ⟨hx.1.frame F hcp hcb, hx.2⟩
  have hout : ∀ x, AOwn cp w0 w p (some ⟨b, 0, none⟩) x → AOwn cp w0 w2 p (some ⟨b, 0, none⟩) x ∧ w2.cell? x = w.cell? x ∧ w2.frozen? x = w.frozen? x := fun x hx =>
    ⟨⟨up x hx.1, hx.2⟩, F.cell x (fun e => hx.2.2 _ rfl (by rw [e])) hx.1.1.1, F.frozen x hx.1.1.1⟩
  refine ⟨⟨⟨V, n, c, hI.frame F (fun x hx => hx ▸ hO.1), hn⟩, h.st.frame F hI.low hcp hcb (fun x hx => hx ▸ h.own w _ hO) (fun x hx => hx ▸ hO.2), h.low, h.own,
    h.row.frame F (hf 0) (fun x hx b' hb' e => ?_), (fun j hj => up _ (h.o j hj)), (F.cell _ (hf 1) h.o1.1.1).trans h.c1, (F.frozen _ h.o1.1.1).trans h.f1, (F.cell _ (hf 4) h.o4.1.1).trans h.c4, (F.frozen _ h.o4.1.1).trans h.f4, h.len,
    fun b' hb' => ⟨(h.rown b' hb').1, (h.rown b' hb').2.1, fun i => up _ ((h.rown b' hb').2.2 i)⟩, fun b' hb' i hi => ?_, fun i x hx => (hout x (h.kO i x hx)).1, h.kD, h.kE, fun i v hv => (h.kid i v hv).mono (fun x hx => ⟨hx, (hout x (h.kO i x hx)).2⟩)⟩, fun q t hR => hR.mono (fun x hx => ⟨⟨(hout x hx.1).1, hx.2⟩, (hout x hx.1).2⟩)⟩
  · rw [hx]; simp only; omega
  · obtain rfl := Option.some.inj hb'
    have h1 := h.ptr _ rfl i hi
    have hlt : b < w.heap.size := ((h.rown _ rfl).2.2 0).1.1
    simp only at h1 ⊢
    exact ⟨(F.cell ⟨b, 2 * i, none⟩ (fun e => by have := congrArg Addr.off e; simp only at this; omega) hlt).trans h1.1, (F.cell ⟨b, 2 * i + 1, none⟩ (fun e => by have := congrArg Addr.off e; simp only at this; omega) hlt).trans h1.2⟩

/-- The begun member is whole. -/
theorem ObjI.push {b : Nat} {key : ByteArray} (h : ObjI B cp m w0 p (some ⟨b, 0, none⟩) ca ps O ks vs 1 sz w) (hk : w.cell? ⟨b, vs.length * 2, none⟩ = some (.string key)) (hv : w.cell? ⟨b, vs.length * 2 + 1, none⟩ = some (.pointer (some q))) (hR : Rep w (QOwn cp w0 w p (some ⟨b, 0, none⟩) O) q t) :
    ObjI B cp m w0 p (some ⟨b, 0, none⟩) ca (fun i => if i = vs.length then q else ps i) (fun i => if i = vs.length then QOwn cp w0 w p (some ⟨b, 0, none⟩) O else O i) (ks ++ [key]) (vs ++ [t]) 0 sz w := by
  have hlen : (vs ++ [t]).length = vs.length + 1 := by simp
  refine ⟨h.ci, h.st, h.low, h.own, by rw [hlen]; exact h.row, h.o, h.c1, h.f1, h.c4, h.f4, by simp [h.len], h.rown, fun b' hb' i hi => ?_, fun i x hx => ?_, fun i j x hij hi hj => ?_, fun i x hi hx => ?_, fun i v hv' => ?_⟩
  · obtain rfl := Option.some.inj hb'
    rw [hlen] at hi
    by_cases ei : i = vs.length
    · subst ei
      rw [if_pos rfl, List.getD_eq_getElem?_getD, List.getElem?_append_right (by rw [h.len]; exact Nat.le_refl _), h.len, Nat.sub_self, Nat.mul_comm 2]
      exact ⟨hk, hv⟩
    · rw [if_neg ei]
      have := h.ptr _ rfl i (by omega)
      rw [List.getD_eq_getElem?_getD, List.getElem?_append_left (by rw [h.len]; omega), ← List.getD_eq_getElem?_getD]
      exact this
  · by_cases ei : i = vs.length
    · rw [if_pos ei] at hx
      exact hx.1
    · rw [if_neg ei] at hx
      exact h.kO i x hx
  · by_cases ei : i = vs.length
    · rw [if_neg (by omega)] at hj
      exact h.kE j x (by omega) hj
    · rw [if_neg ei] at hi
      by_cases ej : j = vs.length
      · rw [if_pos ej] at hj
        exact hj.2 i hi
      · rw [if_neg ej] at hj
        exact h.kD i j x hij hi hj
  · rw [hlen] at hi
    rw [if_neg (by omega)] at hx
    exact h.kE i x (by omega) hx
  · rw [List.getElem?_append] at hv'
    split at hv'
    · rename_i hlt
      rw [if_neg (by omega), if_neg (by omega)]
      exact h.kid i v hv'
    · rename_i hge
      have : i = vs.length := by
        rcases Nat.lt_or_ge (i - vs.length) 1 with h1 | h1
        · omega
        · rw [List.getElem?_eq_none (by simpa using h1)] at hv'; cases hv'
      subst this
      simp only [Nat.sub_self, List.getElem?_cons_zero, Option.some.injEq] at hv'
      subst hv'
      rw [if_pos rfl, if_pos rfl]
      exact hR

/-- getKV begins a member. -/
theorem ObjI.get {e : Ending} (h : ObjI B cp m w0 p A ca ps O ks vs 0 sz w) (hg : GR 97 2 zeroK (fld p 0) A vs.length w e w2) :
    ∃ b ca', e = .returned (.pointer (some ⟨b, vs.length * 2, none⟩)) ∧ ObjI B cp m w0 p (some ⟨b, 0, none⟩) ca' ps O ks vs 1 sz w2 ∧ w2.cell? ⟨b, vs.length * 2, none⟩ = some (.string emptyS) ∧ w2.cell? ⟨b, vs.length * 2 + 1, none⟩ = some (.pointer none) ∧ w2.frozen? ⟨b, vs.length * 2, none⟩ = false ∧ w2.frozen? ⟨b, vs.length * 2 + 1, none⟩ = false := by
  obtain ⟨b, ca', he, hrow, F, hV, hlt, hne, hz, hf, hold⟩ := hg
  obtain ⟨V, n, c, hI, hn⟩ := h.ci
  have hcb := hI.row.block
  have hcp : ¬ (cp = fld p 0) := fun e => h.o0.1.2.1 e.symm
  have up : ∀ x, Own cp w0 w x → Own cp w0 w2 x := fun x hx => ⟨hx.1.frame F hcp hcb, hx.2⟩
  have hI2 : CI B w2 cp V n c := hI.frame F (fun x hx => hx ▸ h.o0.1)
  have hS2 : Step B cp w0 w2 := h.st.frame F hI.low hcp hcb (fun x hx => hx ▸ h.own w _ h.o0) (fun x hx => hx ▸ h.o0.2)
  have hb0 : A = some ⟨b, 0, none⟩ → ∀ i, Own cp w0 w2 ⟨b, i, none⟩ := fun e i => up _ ((h.rown _ e).2.2 i)
  have hrown : ∀ i, Own cp w0 w2 ⟨b, i, none⟩ := by
    intro i
    rcases hV with e | hge
    · exact hb0 e i
    · refine ⟨⟨hlt, fun e2 => by rw [← e2] at hcb; simp only at hcb; omega, rfl, ?_⟩, fun h0 => by have h1 := h0.1; have h2 := h.st.below.size; simp only at h1; omega⟩
      rintro ⟨vb, n1, c1, e1, e2, e3⟩
      rw [hI2.row.cell] at e1
      simp only [Option.some.injEq, Value.slice.injEq] at e1
      have hc0 : 0 < c := by
        rcases Nat.eq_zero_or_pos c with h0 | h0
        · have := hI.row.nil h0
          rw [e1.1] at this; cases this
        · exact h0
      obtain ⟨vb2, e4, _, hg2, _⟩ := hI.row.arr hc0
      rw [e1.1] at e4
      obtain rfl := (Addr.mk.inj (Option.some.inj e4)).1
      simp only at e2
      omega
  have hA0 : ∀ b', A = some b' → b' = ⟨b'.block, 0, none⟩ := fun b' hb' => (h.rown b' hb').1
  have e1 : fld p 1 ≠ fld p 0 := by simp [fld]
  have e4 : fld p 4 ≠ fld p 0 := by simp [fld]
  have hout : ∀ x, AOwn cp w0 w p A x → AOwn cp w0 w2 p (some ⟨b, 0, none⟩) x ∧ w2.cell? x = w.cell? x ∧ w2.frozen? x = w.frozen? x := by
    intro x hx
    refine ⟨⟨up x hx.1, hx.2.1, fun b' hb' e => ?_⟩, F.cell x (hx.2.1 0 (by omega)) hx.1.1.1, F.frozen x hx.1.1.1⟩
    obtain rfl := Option.some.inj hb'
    rcases hV with e5 | hge
    · exact hx.2.2 _ e5 e
    · have h1 := hx.1.1.1
      simp only at e
      omega
  refine ⟨b, ca', he, ⟨⟨V, n, c, hI2, hn⟩, hS2, h.low, h.own, hrow, (fun j hj => up _ (h.o j hj)), (F.cell _ e1 h.o1.1.1).trans h.c1, (F.frozen _ h.o1.1.1).trans h.f1, (F.cell _ e4 h.o4.1.1).trans h.c4, (F.frozen _ h.o4.1.1).trans h.f4, h.len, fun b' hb' => ?_, fun b' hb' i hi => ?_, fun i x hx => (hout x (h.kO i x hx)).1, h.kD, h.kE, fun i v hv => (h.kid i v hv).mono (fun x hx => ⟨hx, (hout x (h.kO i x hx)).2⟩)⟩, ?_, ?_, ?_, ?_⟩
  · obtain rfl := Option.some.inj hb'
    exact ⟨rfl, hne, hrown⟩
  · obtain rfl := Option.some.inj hb'
    have hc0 : 0 < ca := by have := h.row.le; omega
    obtain ⟨vb, e5, _⟩ := h.row.arr hc0
    have h1 := h.ptr _ e5 i hi
    simp only at h1 ⊢
    rw [hold vb e5 (2 * i) (by omega), hold vb e5 (2 * i + 1) (by omega)]
    exact h1
  · exact hz 0 _ rfl
  · exact hz 1 _ rfl
  · exact hf 0 (by omega)
  · exact hf 1 (by omega)

/-- All is read. -/
theorem ObjI.fin {m' : Nat} {tl : ByteArray} {e : Ending} (h : ObjI B cp m w0 p A ca ps O ks vs 0 sz w) (hp : p.spot = none) (hm : tl.size + m ≤ m' + sz) (he : e = .returned (.tuple #[.pointer (some p), .string tl, .nilIface])) : PS B cp m' w0 (.obj false ks vs) tl e w := by
  obtain ⟨V, n, c, hI, hn⟩ := h.ci
  refine ⟨p, V, n, c, he, hp, hI, by omega, h.st, .obj hp h.len ⟨h.row.cell, h.row.free⟩ ⟨h.c1, h.f1⟩ ⟨h.c4, h.f4⟩ h.o0 h.o1 h.o4 ⟨h.row.le, h.row.room, fun h0 => ?_, h.row.nil⟩ h.ptr (fun i a ha => ⟨(h.kO i a ha).1, (h.kO i a ha).2⟩) h.kD h.kid⟩
  obtain ⟨vb, e, hne, _, hg, _⟩ := h.row.arr h0
  exact ⟨vb, e, hne, fun i hi => ⟨(hg i hi).1, (hg i hi).2, (h.rown _ e).2.2 i⟩⟩

/-- A new object. -/
theorem ObjI.start {n : Nat} {w1 : World} {V : Option Addr} {c : Nat} (hI : CI B w1 cp V (n + 1) c) (hS : Step B cp w0 w1) (hz : ∀ j v, zeroV[j]? = some v → w1.cell? (fld p j) = some v ∧ w1.frozen? (fld p j) = false ∧ Own cp w0 w1 (fld p j))
    (hm : n + 1 + sz ≤ m) (hlow : B ≤ w0.heap.size) (hB : ∀ w' a, Own cp w0 w' a → B ≤ a.block) :
    ObjI B cp m w0 p none 0 (fun _ => p) (fun _ _ => False) [] [] 0 sz (((w1.setCell (fld p 4) (.int .i64 1)).setCell (fld p 0) (.slice none 0 0)).setCell (fld p 1) (.bool false)) := by
  obtain ⟨c0, f0, o0⟩ := hz 0 _ rfl
  obtain ⟨c1, f1, o1⟩ := hz 1 _ rfl
  obtain ⟨c4, f4, o4⟩ := hz 4 _ rfl
  obtain ⟨w2, e2⟩ : ∃ w2, w2 = ((w1.setCell (fld p 4) (.int .i64 1)).setCell (fld p 0) (.slice none 0 0)).setCell (fld p 1) (.bool false) := ⟨_, rfl⟩
  rw [← e2]
  have h40 : fld p 4 ≠ fld p 0 := by simp [fld]
  have h41 : fld p 4 ≠ fld p 1 := by simp [fld]
  have h01 : fld p 0 ≠ fld p 1 := by simp [fld]
  have F : Frame (fun x => x = fld p 4 ∨ x = fld p 0 ∨ x = fld p 1) w1 w2 := by
    rw [e2]; exact (((Frame.refl _ w1).setCell (.inl rfl) _).setCell (.inr (.inl rfl)) _).setCell (.inr (.inr rfl)) _
  have hst : ∀ x, (x = fld p 4 ∨ x = fld p 0 ∨ x = fld p 1) → Own cp w0 w1 x := by rintro x (rfl | rfl | rfl) <;> assumption
  have hcb := hI.row.block
  have hcp : ¬ (cp = fld p 4 ∨ cp = fld p 0 ∨ cp = fld p 1) := fun h => (hst _ h).1.2.1 rfl
  refine ⟨⟨V, n + 1, c, hI.frame F (fun x hx => (hst x hx).1), hm⟩, hS.frame F hI.low hcp hcb (fun x hx => hB w1 x (hst x hx)) (fun x hx => (hst x hx).2), hlow, hB,
    ⟨?_, (F.frozen _ o0.1.1).trans f0, rfl, Nat.le_refl _, by omega, fun h => absurd h (by omega), fun _ => rfl⟩, (fun j hj => ?_), ?_, (F.frozen _ o1.1.1).trans f1, ?_, (F.frozen _ o4.1.1).trans f4, rfl, (fun b hb => nomatch hb), (fun b hb => nomatch hb), (fun i x hx => hx.elim), (fun i j x _ hx _ => hx.elim), (fun i x _ hx => hx), (fun i v hv => by simp at hv)⟩
  · rw [e2]; exact (World.cell?_setCell_other _ _ _ _ (fun h => h01 h.symm)).trans (World.cell?_setCell_same _ _ _ ((World.cell?_setCell_other _ _ _ _ h40).trans c0))
  · obtain ⟨_, _, oj⟩ := hz j _ (zeroV_at hj)
    exact ⟨oj.1.frame F hcp hcb, oj.2⟩
  · rw [e2]; exact World.cell?_setCell_same _ _ _ (((World.cell?_setCell_other _ _ _ _ h01).trans (World.cell?_setCell_other _ _ _ _ h41)).trans c1)
  · rw [e2]; exact ((World.cell?_setCell_other _ _ _ _ (fun h => h41 h.symm)).trans (World.cell?_setCell_other _ _ _ _ (fun h => h40 h.symm))).trans (World.cell?_setCell_same _ _ _ c4)
end

end Go.Proofs.YtfoloneeibgoiaaDoor.Fjh

/- fastjson's parseObject: its walk. -/
set_option linter.unusedVariables false
namespace Go.Proofs.YtfoloneeibgoiaaDoor.Fjh
open Go Go.RowKit Go.Proofs.YtfoloneeibgoiaaDoorW.PrintWords Go.Proofs.YtfoloneeibgoiaaDoor.Lex

set_option maxRecDepth 100000 in
set_option maxHeartbeats 8000000 in
theorem object_none  {B : Nat} (K : Nat) (cp : Addr) (V : Option Addr) (n c : Nat) (w : World) (s s1 : ByteArray) (d : Nat) (hd : d ≤ 300) (h1 : fastjson_skipWS.f K s = some s1) (hle : s1.size ≤ s.size) (hI : CI B w cp V n c) (hm : n + 1 + s.size ≤ 1000000) (h2 : s1.size = 0) :
    Calls Tryd.prog 44 #[.pointer (some cp), .string s, .int .i64 d] w (PE B cp w) := by
  have HI := Lib.hid hI
  have H1 := Lib.hid h1
  have HM := Lib.hid (And.intro hm hle)
  have HD := Lib.hid hd
  have hz : ((s1.size : Int) == 0) = true := beq_iff_eq.mpr (by omega)
  clear hI h1 hm hle hd h2
  go_enter Tryd.func44, Tryd.ntmps44
  go_wp2_with (first | (go_at_call 25; (with_reducible refine (fastjson_skipWS.calls K s s1 _ H1.out).mono ?_); rintro e w1 ⟨rfl, ⟨nd, rfl⟩⟩; try exact ⟨rfl, ‹_›⟩) | (go_at_call 29; (with_reducible refine (errors_New.calls _ (some 0) _ rfl).mono ?_); rintro e w9 ⟨x9, rfl, hb9⟩; have HB9 := Lib.hid hb9; clear hb9; simp only [errX_some]; try exact ⟨rfl, ‹_›⟩))
  go_ret3
  exact ⟨_, _, rfl, HI.out.stepB (Below.ofDrewN' (k := nd) HB9.out)⟩

set_option maxRecDepth 100000 in
set_option maxHeartbeats 8000000 in
theorem object_empty  {B : Nat} (K : Nat) (cp : Addr) (V : Option Addr) (n c : Nat) (w : World) (s s1 : ByteArray) (d : Nat) (hd : d ≤ 300) (h1 : fastjson_skipWS.f K s = some s1) (hle : s1.size ≤ s.size) (hI : CI B w cp V n c) (hm : n + 1 + s.size ≤ 1000000) (h2 : 0 < s1.size) (hb : bt s1 0 = 125) :
    Calls Tryd.prog 44 #[.pointer (some cp), .string s, .int .i64 d] w (PS B cp (n + 1 + s.size) w (.obj false [] []) (s1.extract 1 s1.size)) := by
  have HI := Lib.hid hI
  have H1 := Lib.hid h1
  have HM := Lib.hid (And.intro hm hle)
  have HD := Lib.hid hd
  have q1 : 1 ≤ s1.size := h2
  have q : (0 < s1.size) = True := eq_true h2
  have hz : ((s1.size : Int) == 0) = false := beq_eq_false_iff_ne.mpr (by omega)
  have hx : ∀ h : 0 < s1.size, ((s1[0]'h).toNat : Int) = 125 := fun h => (bt_at s1 0 h).trans hb
  clear hI h1 hm hle hd h2 hb
  go_enter Tryd.func44, Tryd.ntmps44
  go_wp2_with (first | (go_at_call 25; (with_reducible refine (fastjson_skipWS.calls K s s1 _ H1.out).mono ?_); rintro e w1 ⟨rfl, ⟨nd, rfl⟩⟩; try exact ⟨rfl, ‹_›⟩))
  have hI1 : CI B (w.drewN nd) cp V n c := HI.out.drewN nd
  have hm' := HM.out
  refine (getValue_gv cp V n c _ hI1 (by omega)).mono ?_
  rintro e w2 ⟨p, V2, c2, rfl, hp, hI2, hS2, hz2⟩
  obtain ⟨pb, po, rfl⟩ : ∃ pb po, p = ⟨pb, po, none⟩ := ⟨p.block, p.off, by cases p; simp_all⟩
  have hI0 := HI.out
  have hS1 : Step B cp w (w.drewN nd) := hI0.stepB (⟨rfl, rfl, rfl, Nat.le_refl _, fun _ _ => rfl⟩ : Below w.heap.size w (w.drewN nd))
  have hA := ObjI.start (m := n + 1 + s1.size) (sz := s1.size) hI2 (hS1.trans hS2) (fun j v hj => by
    obtain ⟨h1, h2, h3⟩ := hz2 j v hj
    exact ⟨h1, h2, h3.1, fun hs => h3.2 (hS1.keep _ hs).1⟩) (Nat.le_refl _) hI0.low (fun w' a ha => hI0.own ha)
  obtain ⟨c0, f0, -⟩ := hz2 0 _ rfl
  obtain ⟨c1, f1, -⟩ := hz2 1 _ rfl
  obtain ⟨c4, f4, -⟩ := hz2 4 _ rfl
  have R0 := Lib.hid ((World.cell?_setCell_other w2 (fld ⟨pb, po, none⟩ 4) (fld ⟨pb, po, none⟩ 0) (.int .i64 1) (by simp [fld])).trans c0)
  have R1 := Lib.hid ((World.frozen?_setCell w2 (fld ⟨pb, po, none⟩ 4) (fld ⟨pb, po, none⟩ 0) (.int .i64 1)).trans f0)
  have R2 := Lib.hid ((World.cell?_setCell_other w2 (fld ⟨pb, po, none⟩ 4) (fld ⟨pb, po, none⟩ 1) (.int .i64 1) (by simp [fld])).trans c1)
  have R3 := Lib.hid ((World.frozen?_setCell w2 (fld ⟨pb, po, none⟩ 4) (fld ⟨pb, po, none⟩ 1) (.int .i64 1)).trans f1)
  simp only [fld] at c4 f4
  have HA := Lib.hid hA
  clear hI1 hI2 hS2 hz2 hm' hI0 hS1 hA c0 f0 c1 f1
  simp only []
  go_wp2_with (first | (go_at_call 66; (refine (oreset_nil pb po _ R0.out R1.out R2.out R3.out).mono ?_); rintro e w3 ⟨rfl, ⟨nk, rfl⟩⟩; try exact ⟨rfl, ‹_›⟩))
  go_quiet (fail)
  go_wp2
  go_ret3
  have hm' := HM.out
  refine PS.drewN (w' := ((((w2.setCell ⟨pb, po + 4, none⟩ (.int .i64 1)).setCell ⟨pb, po, none⟩ (.slice none 0 0)).setCell ⟨pb, po + 1, none⟩ (.bool false))).drewN nk) ?_ _
  exact (HA.out.frame ((Frame.refl (fun _ => False) _).drewN nk)).fin rfl (by rw [ByteArray.size_extract]; omega) rfl

theorem bound3 {n m a b : Nat} (h : n + 1 + a ≤ 1000000 ∧ b ≤ a) (h2 : m ≤ n + 1 + b) : m ≤ 1000000 := by omega

set_option maxRecDepth 100000 in
set_option maxHeartbeats 8000000 in
theorem object_loop {pv : ByteArray → Nat → PRes} (HV : PVok pv) {B : Nat} (K : Nat) (cp : Addr) (V : Option Addr) (n c : Nat) (w : World) (s s1 : ByteArray) (d : Nat) (hd : d ≤ 300) (h1 : fastjson_skipWS.f K s = some s1) (hle : s1.size ≤ s.size) (hI : CI B w cp V n c) (hm : n + 1 + s.size ≤ 1000000) (h2 : 0 < s1.size) (hb : bt s1 0 ≠ 125) (r : Option (JV × ByteArray)) (hr : pObjL pv K d K s1 [] [] = some r) :
    Calls Tryd.prog 44 #[.pointer (some cp), .string s, .int .i64 d] w (PV B cp (n + 1 + s.size) w r) := by
  have HI := Lib.hid hI
  have H1 := Lib.hid h1
  have HM := Lib.hid (And.intro hm hle)
  have HD := Lib.hid hd
  have q1 : 1 ≤ s1.size := h2
  have q : (0 < s1.size) = True := eq_true h2
  have hz : ((s1.size : Int) == 0) = false := beq_eq_false_iff_ne.mpr (by omega)
  have HR := Lib.hid hr
  have HVh := Lib.hid HV
  have hx : ∀ h : 0 < s1.size, ((s1[0]'h).toNat : Int) = bt s1 0 := bt_at s1 0
  have b125 : (bt s1 0 == 125) = false := beq_eq_false_iff_ne.mpr hb
  clear hI h1 hm hle hd h2 hb hr HV
  go_enter Tryd.func44, Tryd.ntmps44
  go_wp2_with (first | (go_at_call 25; (with_reducible refine (fastjson_skipWS.calls K s s1 _ H1.out).mono ?_); rintro e w1 ⟨rfl, ⟨nd, rfl⟩⟩; try exact ⟨rfl, ‹_›⟩))
  have hI1 : CI B (w.drewN nd) cp V n c := HI.out.drewN nd
  have hm' := HM.out
  refine (getValue_gv cp V n c _ hI1 (by omega)).mono ?_
  rintro e w2 ⟨p, V2, c2, rfl, hp, hI2, hS2, hz2⟩
  obtain ⟨pb, po, rfl⟩ : ∃ pb po, p = ⟨pb, po, none⟩ := ⟨p.block, p.off, by cases p; simp_all⟩
  have hI0 := HI.out
  have hS1 : Step B cp w (w.drewN nd) := hI0.stepB (⟨rfl, rfl, rfl, Nat.le_refl _, fun _ _ => rfl⟩ : Below w.heap.size w (w.drewN nd))
  have hA := ObjI.start (m := n + 1 + s1.size) (sz := s1.size) hI2 (hS1.trans hS2) (fun j v hj => by
    obtain ⟨h1, h2, h3⟩ := hz2 j v hj
    exact ⟨h1, h2, h3.1, fun hs => h3.2 (hS1.keep _ hs).1⟩) (Nat.le_refl _) hI0.low (fun w' a ha => hI0.own ha)
  obtain ⟨c0, f0, -⟩ := hz2 0 _ rfl
  obtain ⟨c1, f1, -⟩ := hz2 1 _ rfl
  obtain ⟨c4, f4, -⟩ := hz2 4 _ rfl
  have R0 := Lib.hid ((World.cell?_setCell_other w2 (fld ⟨pb, po, none⟩ 4) (fld ⟨pb, po, none⟩ 0) (.int .i64 1) (by simp [fld])).trans c0)
  have R1 := Lib.hid ((World.frozen?_setCell w2 (fld ⟨pb, po, none⟩ 4) (fld ⟨pb, po, none⟩ 0) (.int .i64 1)).trans f0)
  have R2 := Lib.hid ((World.cell?_setCell_other w2 (fld ⟨pb, po, none⟩ 4) (fld ⟨pb, po, none⟩ 1) (.int .i64 1) (by simp [fld])).trans c1)
  have R3 := Lib.hid ((World.frozen?_setCell w2 (fld ⟨pb, po, none⟩ 4) (fld ⟨pb, po, none⟩ 1) (.int .i64 1)).trans f1)
  simp only [fld] at c4 f4
  have HA := Lib.hid hA
  clear hI1 hI2 hS2 hz2 hm' hI0 hS1 hA c0 f0 c1 f1
  simp only []
  go_wp2_with (first | (go_at_call 66; (refine (oreset_nil pb po _ R0.out R1.out R2.out R3.out).mono ?_); rintro e w3 ⟨rfl, ⟨nk, rfl⟩⟩; try exact ⟨rfl, ‹_›⟩))
  (try simp only [Act.put, List.setIfInBounds_toArray, List.set_cons_zero, List.set_cons_succ])
  go_loopg [1] K (fun kq v1 w' => ∃ (s2 : ByteArray) (ks : List ByteArray) (vs : List JV) (A : Option Addr) (ca : Nat) (ps : Nat → Addr) (O : Nat → Addr → Prop), v1 = .string s2 ∧ Hid (pObjL pv K d kq s2 ks vs = some r) ∧ Hid (ObjI B cp (n + 1 + s1.size) w ⟨pb, po, none⟩ A ca ps O ks vs 0 s2.size w') ∧ Hid (vs.length + s2.size ≤ n + 1 + s1.size))
  case atStart => exact ⟨s1, [], [], none, 0, _, _, rfl, HR, Lib.hid (HA.out.frame ((Frame.refl (fun _ => False) _).drewN nk)), Lib.hid (by simp)⟩
  case round =>
    clear HR HA c4 f4 hx q1 q hz b125 R0 R1 R2 R3
    obtain ⟨s2, ks, vs, A, ca, ps, O, rfl, HL, HA, HLen⟩ := hrel
    cases gk with
    | zero => exact absurd HL.out (by simp [pObjL])
    | succ k2 =>
      have hL := HL.out
      clear HL
      unfold pObjL at hL
      obtain ⟨s3, e3, hL1⟩ := Option.bind_eq_some_iff.mp hL
      obtain ⟨e3, l3⟩ := sk_some e3
      have E3 := Lib.hid e3
      have L3 := Lib.hid l3
      clear hL e3 l3
      have HG : Hid (Calls Tryd.prog 67 #[.pointer (some ⟨pb, po, none⟩)] wr (GR 97 2 zeroK (fld ⟨pb, po, none⟩ 0) A vs.length wr)) := Lib.hid (getKV_calls (fld ⟨pb, po, none⟩ 0) A vs.length ca wr HA.out.row (by have := HLen.out; have := HM.out; omega))
      by_cases z1 : s3.size = 0
      · rw [if_pos z1] at hL1
        have hr := Option.some.inj hL1
        subst hr
        have hz : ((s3.size : Int) == 0) = true := beq_iff_eq.mpr (by omega)
        clear hL1 z1
        go_wp2_with (first | (go_at_call 67; (refine HG.out.mono ?_); rintro e w3 hgr; obtain ⟨b, ca3, rfl, hO3, k3, v3, fk3, fv3⟩ := HA.out.get hgr; have HO3 := Lib.hid hO3; have HK3 := Lib.hid k3; have HF3 := Lib.hid fk3; have HW3 := Lib.hid v3; have HG3 := Lib.hid fv3; clear hgr hO3 k3 v3 fk3 fv3; try exact ⟨rfl, ‹_›⟩) | (go_at_call 25; (with_reducible refine (fastjson_skipWS.calls K s2 s3 _ E3.out).mono ?_); rintro e w1 ⟨rfl, ⟨nd3, rfl⟩⟩; try exact ⟨rfl, ‹_›⟩) | (go_at_call 29; (with_reducible refine (errors_New.calls _ (some 0) _ rfl).mono ?_); rintro e w9 ⟨x9, rfl, hb9⟩; have HB9 := Lib.hid hb9; clear hb9; simp only [errX_some]; try exact ⟨rfl, ‹_›⟩))
        go_ret3
        exact ⟨_, _, rfl, HO3.out.st.then HI.out (Below.ofDrewN' (k := nd3) HB9.out)⟩
      rw [if_neg z1] at hL1
      have q1 : 1 ≤ s3.size := by omega
      have q : (0 < s3.size) = True := eq_true (by omega)
      have hz : ((s3.size : Int) == 0) = false := beq_eq_false_iff_ne.mpr (by omega)
      clear z1
      by_cases z2 : ¬ bt s3 0 = 34
      · rw [if_neg z2] at hL1
        have hr := Option.some.inj hL1
        subst hr
        have b34 : (bt s3 0 == 34) = false := beq_eq_false_iff_ne.mpr z2
        have b34b : (bt s3 0 != 34) = true := bne_iff_ne.mpr z2
        have hx : ∀ h : 0 < s3.size, ((s3[0]'h).toNat : Int) = bt s3 0 := bt_at s3 0
        clear hL1 z2
        go_wp2_with (first | (go_at_call 67; (refine HG.out.mono ?_); rintro e w3 hgr; obtain ⟨b, ca3, rfl, hO3, k3, v3, fk3, fv3⟩ := HA.out.get hgr; have HO3 := Lib.hid hO3; have HK3 := Lib.hid k3; have HF3 := Lib.hid fk3; have HW3 := Lib.hid v3; have HG3 := Lib.hid fv3; clear hgr hO3 k3 v3 fk3 fv3; try exact ⟨rfl, ‹_›⟩) | (go_at_call 25; (with_reducible refine (fastjson_skipWS.calls K s2 s3 _ E3.out).mono ?_); rintro e w1 ⟨rfl, ⟨nd3, rfl⟩⟩; try exact ⟨rfl, ‹_›⟩) | (go_at_call 29; (with_reducible refine (errors_New.calls _ (some 0) _ rfl).mono ?_); rintro e w9 ⟨x9, rfl, hb9⟩; have HB9 := Lib.hid hb9; clear hb9; simp only [errX_some]; try exact ⟨rfl, ‹_›⟩))
        go_ret3
        exact ⟨_, _, rfl, HO3.out.st.then HI.out (Below.ofDrewN' (k := nd3) HB9.out)⟩
      have z2' : bt s3 0 = 34 := Decidable.not_not.mp z2
      rw [if_pos z2'] at hL1
      have hx : ∀ h : 0 < s3.size, ((s3[0]'h).toNat : Int) = 34 := fun h => (bt_at s3 0 h).trans z2'
      clear z2 z2'
      obtain ⟨⟨key, s4, r3⟩, ek, hL2⟩ := Option.bind_eq_some_iff.mp hL1
      have EK := Lib.hid ek
      clear ek hL1
      cases r3 with
      | some r3 =>
        have hr := Option.some.inj hL2
        subst hr
        clear hL2
        go_wp2_with (first | (go_at_call 67; (refine HG.out.mono ?_); rintro e w3 hgr; obtain ⟨b, ca3, rfl, hO3, k3, v3, fk3, fv3⟩ := HA.out.get hgr; have HO3 := Lib.hid hO3; have HK3 := Lib.hid k3; have HF3 := Lib.hid fk3; have HW3 := Lib.hid v3; have HG3 := Lib.hid fv3; clear hgr hO3 k3 v3 fk3 fv3; try exact ⟨rfl, ‹_›⟩) | (go_at_call 25; (with_reducible refine (fastjson_skipWS.calls K s2 s3 _ E3.out).mono ?_); rintro e w1 ⟨rfl, ⟨nd3, rfl⟩⟩; try exact ⟨rfl, ‹_›⟩) | (go_at_call 68; (with_reducible refine (fastjson_parseRawKey.calls K (s3.extract 1 s3.size) key s4 (some r3) _ EK.out).mono ?_); rintro e w4 ⟨x4, rfl, hb4⟩; have F4 : Frame (fun _ => False) w3 w4 := Frame.below (Below.ofDrewN' (k := nd3) hb4); have hc4 := fun i => HO3.out.cellKeep (HO3.out.stepF F4) i; have k4 := (hc4 _).1.trans HK3.out; have fk4 := (hc4 _).2.trans HF3.out; have HV4 := Lib.hid ((hc4 _).1.trans HW3.out); have HG4 := Lib.hid ((hc4 _).2.trans HG3.out); have HO4 := Lib.hid ((HO3.out.frame F4).turn 0 (by omega) (.string key)).1; have HK5 := Lib.hid (World.cell?_setCell_same w4 _ (.string key) k4); have HV5 := Lib.hid ((World.cell?_setCell_other w4 ⟨b, vs.length * 2, none⟩ ⟨b, vs.length * 2 + 1, none⟩ (.string key) (by simp)).trans HV4.out); have HG5 := Lib.hid ((World.frozen?_setCell w4 ⟨b, vs.length * 2, none⟩ ⟨b, vs.length * 2 + 1, none⟩ (.string key)).trans HG4.out); clear hb4 F4 hc4; simp only [errX_some]; try exact ⟨rfl, ‹_›⟩) | (go_at_call 29; (with_reducible refine (errors_New.calls _ (some 0) _ rfl).mono ?_); rintro e w9 ⟨x9, rfl, hb9⟩; have HB9 := Lib.hid hb9; clear hb9; simp only [errX_some]; try exact ⟨rfl, ‹_›⟩))
        go_ret3
        exact ⟨_, _, rfl, HO4.out.st.then HI.out HB9.out⟩
      | none =>
        simp only at hL2
        by_cases g1' : ¬ s4.size + 1 ≤ s3.size
        · rw [if_neg g1'] at hL2; cases hL2
        have g1 := Decidable.not_not.mp g1'
        rw [if_pos g1] at hL2
        clear g1'
        obtain ⟨s5, e5, hL3⟩ := Option.bind_eq_some_iff.mp hL2
        obtain ⟨e5, l5⟩ := sk_some e5
        have E5 := Lib.hid e5
        have L5 := Lib.hid (And.intro g1 l5)
        clear hL2 e5 l5 g1
        by_cases z5 : s5.size = 0
        · rw [if_pos z5] at hL3
          have hr := Option.some.inj hL3
          subst hr
          have hz5 : ((s5.size : Int) == 0) = true := beq_iff_eq.mpr (by omega)
          clear hL3 z5
          go_wp2_with (first | (go_at_call 67; (refine HG.out.mono ?_); rintro e w3 hgr; obtain ⟨b, ca3, rfl, hO3, k3, v3, fk3, fv3⟩ := HA.out.get hgr; have HO3 := Lib.hid hO3; have HK3 := Lib.hid k3; have HF3 := Lib.hid fk3; have HW3 := Lib.hid v3; have HG3 := Lib.hid fv3; clear hgr hO3 k3 v3 fk3 fv3; try exact ⟨rfl, ‹_›⟩) | (go_at_call 25; (with_reducible refine (fastjson_skipWS.calls K s2 s3 _ E3.out).mono ?_); rintro e w1 ⟨rfl, ⟨nd3, rfl⟩⟩; try exact ⟨rfl, ‹_›⟩) | (go_at_call 68; (with_reducible refine (fastjson_parseRawKey.calls K (s3.extract 1 s3.size) key s4 none _ EK.out).mono ?_); rintro e w4 ⟨x4, rfl, hb4⟩; have F4 : Frame (fun _ => False) w3 w4 := Frame.below (Below.ofDrewN' (k := nd3) hb4); have hc4 := fun i => HO3.out.cellKeep (HO3.out.stepF F4) i; have k4 := (hc4 _).1.trans HK3.out; have fk4 := (hc4 _).2.trans HF3.out; have HV4 := Lib.hid ((hc4 _).1.trans HW3.out); have HG4 := Lib.hid ((hc4 _).2.trans HG3.out); have HO4 := Lib.hid ((HO3.out.frame F4).turn 0 (by omega) (.string key)).1; have HK5 := Lib.hid (World.cell?_setCell_same w4 _ (.string key) k4); have HV5 := Lib.hid ((World.cell?_setCell_other w4 ⟨b, vs.length * 2, none⟩ ⟨b, vs.length * 2 + 1, none⟩ (.string key) (by simp)).trans HV4.out); have HG5 := Lib.hid ((World.frozen?_setCell w4 ⟨b, vs.length * 2, none⟩ ⟨b, vs.length * 2 + 1, none⟩ (.string key)).trans HG4.out); clear hb4 F4 hc4; simp only [errX_none]; try exact ⟨rfl, ‹_›⟩) | (go_at_call 25; (with_reducible refine (fastjson_skipWS.calls K s4 s5 _ E5.out).mono ?_); rintro e w1 ⟨rfl, ⟨nd5, rfl⟩⟩; try exact ⟨rfl, ‹_›⟩) | (go_at_call 29; (with_reducible refine (errors_New.calls _ (some 0) _ rfl).mono ?_); rintro e w9 ⟨x9, rfl, hb9⟩; have HB9 := Lib.hid hb9; clear hb9; simp only [errX_some]; try exact ⟨rfl, ‹_›⟩))
          go_ret3
          exact ⟨_, _, rfl, HO4.out.st.then HI.out (Below.ofDrewN' (k := nd5) HB9.out)⟩
        rw [if_neg z5] at hL3
        have q15 : 1 ≤ s5.size := by omega
        have q5 : (0 < s5.size) = True := eq_true (by omega)
        have hz5 : ((s5.size : Int) == 0) = false := beq_eq_false_iff_ne.mpr (by omega)
        clear z5
        by_cases z6 : ¬ bt s5 0 = 58
        · rw [if_neg z6] at hL3
          have hr := Option.some.inj hL3
          subst hr
          have b58 : (bt s5 0 == 58) = false := beq_eq_false_iff_ne.mpr z6
          have b58b : (bt s5 0 != 58) = true := bne_iff_ne.mpr z6
          have hx5 : ∀ h : 0 < s5.size, ((s5[0]'h).toNat : Int) = bt s5 0 := bt_at s5 0
          clear hL3 z6
          go_wp2_with (first | (go_at_call 67; (refine HG.out.mono ?_); rintro e w3 hgr; obtain ⟨b, ca3, rfl, hO3, k3, v3, fk3, fv3⟩ := HA.out.get hgr; have HO3 := Lib.hid hO3; have HK3 := Lib.hid k3; have HF3 := Lib.hid fk3; have HW3 := Lib.hid v3; have HG3 := Lib.hid fv3; clear hgr hO3 k3 v3 fk3 fv3; try exact ⟨rfl, ‹_›⟩) | (go_at_call 25; (with_reducible refine (fastjson_skipWS.calls K s2 s3 _ E3.out).mono ?_); rintro e w1 ⟨rfl, ⟨nd3, rfl⟩⟩; try exact ⟨rfl, ‹_›⟩) | (go_at_call 68; (with_reducible refine (fastjson_parseRawKey.calls K (s3.extract 1 s3.size) key s4 none _ EK.out).mono ?_); rintro e w4 ⟨x4, rfl, hb4⟩; have F4 : Frame (fun _ => False) w3 w4 := Frame.below (Below.ofDrewN' (k := nd3) hb4); have hc4 := fun i => HO3.out.cellKeep (HO3.out.stepF F4) i; have k4 := (hc4 _).1.trans HK3.out; have fk4 := (hc4 _).2.trans HF3.out; have HV4 := Lib.hid ((hc4 _).1.trans HW3.out); have HG4 := Lib.hid ((hc4 _).2.trans HG3.out); have HO4 := Lib.hid ((HO3.out.frame F4).turn 0 (by omega) (.string key)).1; have HK5 := Lib.hid (World.cell?_setCell_same w4 _ (.string key) k4); have HV5 := Lib.hid ((World.cell?_setCell_other w4 ⟨b, vs.length * 2, none⟩ ⟨b, vs.length * 2 + 1, none⟩ (.string key) (by simp)).trans HV4.out); have HG5 := Lib.hid ((World.frozen?_setCell w4 ⟨b, vs.length * 2, none⟩ ⟨b, vs.length * 2 + 1, none⟩ (.string key)).trans HG4.out); clear hb4 F4 hc4; simp only [errX_none]; try exact ⟨rfl, ‹_›⟩) | (go_at_call 25; (with_reducible refine (fastjson_skipWS.calls K s4 s5 _ E5.out).mono ?_); rintro e w1 ⟨rfl, ⟨nd5, rfl⟩⟩; try exact ⟨rfl, ‹_›⟩) | (go_at_call 29; (with_reducible refine (errors_New.calls _ (some 0) _ rfl).mono ?_); rintro e w9 ⟨x9, rfl, hb9⟩; have HB9 := Lib.hid hb9; clear hb9; simp only [errX_some]; try exact ⟨rfl, ‹_›⟩))
          go_ret3
          exact ⟨_, _, rfl, HO4.out.st.then HI.out (Below.ofDrewN' (k := nd5) HB9.out)⟩
        have z6' : bt s5 0 = 58 := Decidable.not_not.mp z6
        rw [if_pos z6'] at hL3
        have hx5 : ∀ h : 0 < s5.size, ((s5[0]'h).toNat : Int) = 58 := fun h => (bt_at s5 0 h).trans z6'
        clear z6 z6'
        obtain ⟨s6, e6, hL4⟩ := Option.bind_eq_some_iff.mp hL3
        obtain ⟨rv, ev, hL5⟩ := Option.bind_eq_some_iff.mp hL4
        obtain ⟨e6, l6⟩ := sk_some e6
        have hs5 : (s5.extract 1 s5.size).size = s5.size - 1 := by rw [ByteArray.size_extract]; omega
        have E6 := Lib.hid e6
        have EV := Lib.hid ev
        have L6 := Lib.hid (show s6.size + 1 ≤ s5.size by omega)
        clear hL3 hL4 e6 ev l6 hs5
        cases rv with
        | none =>
          have hr := Option.some.inj hL5
          subst hr
          clear hL5
          go_wp2_with (first | (go_at_call 67; (refine HG.out.mono ?_); rintro e w3 hgr; obtain ⟨b, ca3, rfl, hO3, k3, v3, fk3, fv3⟩ := HA.out.get hgr; have HO3 := Lib.hid hO3; have HK3 := Lib.hid k3; have HF3 := Lib.hid fk3; have HW3 := Lib.hid v3; have HG3 := Lib.hid fv3; clear hgr hO3 k3 v3 fk3 fv3; try exact ⟨rfl, ‹_›⟩) | (go_at_call 25; (with_reducible refine (fastjson_skipWS.calls K s2 s3 _ E3.out).mono ?_); rintro e w1 ⟨rfl, ⟨nd3, rfl⟩⟩; try exact ⟨rfl, ‹_›⟩) | (go_at_call 68; (with_reducible refine (fastjson_parseRawKey.calls K (s3.extract 1 s3.size) key s4 none _ EK.out).mono ?_); rintro e w4 ⟨x4, rfl, hb4⟩; have F4 : Frame (fun _ => False) w3 w4 := Frame.below (Below.ofDrewN' (k := nd3) hb4); have hc4 := fun i => HO3.out.cellKeep (HO3.out.stepF F4) i; have k4 := (hc4 _).1.trans HK3.out; have fk4 := (hc4 _).2.trans HF3.out; have HV4 := Lib.hid ((hc4 _).1.trans HW3.out); have HG4 := Lib.hid ((hc4 _).2.trans HG3.out); have HO4 := Lib.hid ((HO3.out.frame F4).turn 0 (by omega) (.string key)).1; have HK5 := Lib.hid (World.cell?_setCell_same w4 _ (.string key) k4); have HV5 := Lib.hid ((World.cell?_setCell_other w4 ⟨b, vs.length * 2, none⟩ ⟨b, vs.length * 2 + 1, none⟩ (.string key) (by simp)).trans HV4.out); have HG5 := Lib.hid ((World.frozen?_setCell w4 ⟨b, vs.length * 2, none⟩ ⟨b, vs.length * 2 + 1, none⟩ (.string key)).trans HG4.out); clear hb4 F4 hc4; simp only [errX_none]; try exact ⟨rfl, ‹_›⟩) | (go_at_call 25; (with_reducible refine (fastjson_skipWS.calls K s4 s5 _ E5.out).mono ?_); rintro e w1 ⟨rfl, ⟨nd5, rfl⟩⟩; try exact ⟨rfl, ‹_›⟩) | (go_at_call 25; (with_reducible refine (fastjson_skipWS.calls K (s5.extract 1 s5.size) s6 _ E6.out).mono ?_); rintro e w1 ⟨rfl, ⟨nd6, rfl⟩⟩; try exact ⟨rfl, ‹_›⟩) | (go_at_call 27; have hm' := HM.out; have hl5 := L5.out; have hl6 := L6.out; have hl3 := L3.out; obtain ⟨V5, n5, c5, hI5, hn5⟩ := HO4.out.ci; refine (HVh.out s6 d _ HD.out EV.out B cp V5 n5 c5 _ (by repeat (first | exact hI5 | apply CI.drewN)) (by omega)).mono ?_; rintro e w6 ⟨tl, x6, rfl, hs6⟩; have hS6 : Step B cp (w4.setCell ⟨b, vs.length * 2, none⟩ (.string key)) w6 := (by first | exact hs6 | exact hs6.drewL | exact hs6.drewL.drewL); have hc6 := fun i => HO4.out.cellKeep hS6 i; have v6 := (hc6 _).1.trans HV5.out; have fv6 := (hc6 _).2.trans HG5.out; have HS6 := Lib.hid (HO4.out.stepSet hS6 (vs.length * 2 + 1) (.pointer none)); clear hs6 hS6 hc6 hm' hl5 hl6 hl3 hI5 hn5; try exact ⟨rfl, ‹_›⟩) | (go_at_call 29; (with_reducible refine (errors_New.calls _ (some 0) _ rfl).mono ?_); rintro e w9 ⟨x9, rfl, hb9⟩; have HB9 := Lib.hid hb9; clear hb9; simp only [errX_some]; try exact ⟨rfl, ‹_›⟩))
          go_ret3
          exact ⟨_, _, rfl, HS6.out.then HI.out HB9.out⟩
        | some vt =>
          obtain ⟨v, t⟩ := vt
          simp only at hL5
          by_cases g4' : ¬ t.size ≤ s6.size
          · rw [if_neg g4'] at hL5; cases hL5
          have g4 := Decidable.not_not.mp g4'
          rw [if_pos g4] at hL5
          clear g4'
          obtain ⟨t1, e7, hL6⟩ := Option.bind_eq_some_iff.mp hL5
          obtain ⟨e7, l7⟩ := sk_some e7
          have E7 := Lib.hid e7
          have L7 := Lib.hid (And.intro g4 l7)
          clear hL5 e7 l7 g4
          by_cases y1 : t1.size = 0
          · rw [if_pos y1] at hL6
            have hr := Option.some.inj hL6
            subst hr
            have hz7 : ((t1.size : Int) == 0) = true := beq_iff_eq.mpr (by omega)
            clear hL6 y1
            go_wp2_with (first | (go_at_call 67; (refine HG.out.mono ?_); rintro e w3 hgr; obtain ⟨b, ca3, rfl, hO3, k3, v3, fk3, fv3⟩ := HA.out.get hgr; have HO3 := Lib.hid hO3; have HK3 := Lib.hid k3; have HF3 := Lib.hid fk3; have HW3 := Lib.hid v3; have HG3 := Lib.hid fv3; clear hgr hO3 k3 v3 fk3 fv3; try exact ⟨rfl, ‹_›⟩) | (go_at_call 25; (with_reducible refine (fastjson_skipWS.calls K s2 s3 _ E3.out).mono ?_); rintro e w1 ⟨rfl, ⟨nd3, rfl⟩⟩; try exact ⟨rfl, ‹_›⟩) | (go_at_call 68; (with_reducible refine (fastjson_parseRawKey.calls K (s3.extract 1 s3.size) key s4 none _ EK.out).mono ?_); rintro e w4 ⟨x4, rfl, hb4⟩; have F4 : Frame (fun _ => False) w3 w4 := Frame.below (Below.ofDrewN' (k := nd3) hb4); have hc4 := fun i => HO3.out.cellKeep (HO3.out.stepF F4) i; have k4 := (hc4 _).1.trans HK3.out; have fk4 := (hc4 _).2.trans HF3.out; have HV4 := Lib.hid ((hc4 _).1.trans HW3.out); have HG4 := Lib.hid ((hc4 _).2.trans HG3.out); have HO4 := Lib.hid ((HO3.out.frame F4).turn 0 (by omega) (.string key)).1; have HK5 := Lib.hid (World.cell?_setCell_same w4 _ (.string key) k4); have HV5 := Lib.hid ((World.cell?_setCell_other w4 ⟨b, vs.length * 2, none⟩ ⟨b, vs.length * 2 + 1, none⟩ (.string key) (by simp)).trans HV4.out); have HG5 := Lib.hid ((World.frozen?_setCell w4 ⟨b, vs.length * 2, none⟩ ⟨b, vs.length * 2 + 1, none⟩ (.string key)).trans HG4.out); clear hb4 F4 hc4; simp only [errX_none]; try exact ⟨rfl, ‹_›⟩) | (go_at_call 25; (with_reducible refine (fastjson_skipWS.calls K s4 s5 _ E5.out).mono ?_); rintro e w1 ⟨rfl, ⟨nd5, rfl⟩⟩; try exact ⟨rfl, ‹_›⟩) | (go_at_call 25; (with_reducible refine (fastjson_skipWS.calls K (s5.extract 1 s5.size) s6 _ E6.out).mono ?_); rintro e w1 ⟨rfl, ⟨nd6, rfl⟩⟩; try exact ⟨rfl, ‹_›⟩) | (go_at_call 27; have hm' := HM.out; have hl5 := L5.out; have hl6 := L6.out; have hl3 := L3.out; obtain ⟨V5, n5, c5, hI5, hn5⟩ := HO4.out.ci; refine (HVh.out s6 d _ HD.out EV.out B cp V5 n5 c5 _ (by repeat (first | exact hI5 | apply CI.drewN)) (by omega)).mono ?_; rintro e w6 ⟨p6, V6, n6, c6, rfl, hp6, hI6, hn6, hs6, hR6⟩; have hS6 : Step B cp (w4.setCell ⟨b, vs.length * 2, none⟩ (.string key)) w6 := (by first | exact hs6 | exact hs6.drewL | exact hs6.drewL.drewL); have hc6 := fun i => HO4.out.cellKeep hS6 i; have v6 := (hc6 _).1.trans HV5.out; have fv6 := (hc6 _).2.trans HG5.out; have hO6 := HO4.out.child (sz' := t.size) hI6 (by omega) hS6; have hR6' := HO4.out.kidRep (w2 := w6) (q := p6) (t := v) (by exact hR6); have hT := hO6.turn 1 (by omega) (.pointer (some p6)); have HP6 := Lib.hid (hT.1.push ((World.cell?_setCell_other w6 ⟨b, vs.length * 2 + 1, none⟩ ⟨b, vs.length * 2, none⟩ (.pointer (some p6)) (by simp)).trans ((hc6 _).1.trans HK5.out)) (World.cell?_setCell_same _ _ _ v6) (hT.2 _ _ hR6')); clear hs6 hS6 hc6 hm' hl5 hl6 hl3 hI5 hn5 hI6 hn6 hR6 hO6 hR6' hT; try exact ⟨rfl, ‹_›⟩) | (go_at_call 25; (with_reducible refine (fastjson_skipWS.calls K t t1 _ E7.out).mono ?_); rintro e w1 ⟨rfl, ⟨nd7, rfl⟩⟩; try exact ⟨rfl, ‹_›⟩) | (go_at_call 29; (with_reducible refine (errors_New.calls _ (some 0) _ rfl).mono ?_); rintro e w9 ⟨x9, rfl, hb9⟩; have HB9 := Lib.hid hb9; clear hb9; simp only [errX_some]; try exact ⟨rfl, ‹_›⟩))
            go_ret3
            exact ⟨_, _, rfl, HP6.out.st.then HI.out (Below.ofDrewN' (k := nd7) HB9.out)⟩
          rw [if_neg y1] at hL6
          have q17 : 1 ≤ t1.size := by omega
          have q7 : (0 < t1.size) = True := eq_true (by omega)
          have hz7 : ((t1.size : Int) == 0) = false := beq_eq_false_iff_ne.mpr (by omega)
          clear y1
          by_cases y2 : bt t1 0 = 44
          · rw [if_pos y2] at hL6
            have HL := Lib.hid hL6
            have hx7 : ∀ h : 0 < t1.size, ((t1[0]'h).toNat : Int) = 44 := fun h => (bt_at t1 0 h).trans y2
            clear y2 hL6
            go_wp2_with (first | (go_at_call 67; (refine HG.out.mono ?_); rintro e w3 hgr; obtain ⟨b, ca3, rfl, hO3, k3, v3, fk3, fv3⟩ := HA.out.get hgr; have HO3 := Lib.hid hO3; have HK3 := Lib.hid k3; have HF3 := Lib.hid fk3; have HW3 := Lib.hid v3; have HG3 := Lib.hid fv3; clear hgr hO3 k3 v3 fk3 fv3; try exact ⟨rfl, ‹_›⟩) | (go_at_call 25; (with_reducible refine (fastjson_skipWS.calls K s2 s3 _ E3.out).mono ?_); rintro e w1 ⟨rfl, ⟨nd3, rfl⟩⟩; try exact ⟨rfl, ‹_›⟩) | (go_at_call 68; (with_reducible refine (fastjson_parseRawKey.calls K (s3.extract 1 s3.size) key s4 none _ EK.out).mono ?_); rintro e w4 ⟨x4, rfl, hb4⟩; have F4 : Frame (fun _ => False) w3 w4 := Frame.below (Below.ofDrewN' (k := nd3) hb4); have hc4 := fun i => HO3.out.cellKeep (HO3.out.stepF F4) i; have k4 := (hc4 _).1.trans HK3.out; have fk4 := (hc4 _).2.trans HF3.out; have HV4 := Lib.hid ((hc4 _).1.trans HW3.out); have HG4 := Lib.hid ((hc4 _).2.trans HG3.out); have HO4 := Lib.hid ((HO3.out.frame F4).turn 0 (by omega) (.string key)).1; have HK5 := Lib.hid (World.cell?_setCell_same w4 _ (.string key) k4); have HV5 := Lib.hid ((World.cell?_setCell_other w4 ⟨b, vs.length * 2, none⟩ ⟨b, vs.length * 2 + 1, none⟩ (.string key) (by simp)).trans HV4.out); have HG5 := Lib.hid ((World.frozen?_setCell w4 ⟨b, vs.length * 2, none⟩ ⟨b, vs.length * 2 + 1, none⟩ (.string key)).trans HG4.out); clear hb4 F4 hc4; simp only [errX_none]; try exact ⟨rfl, ‹_›⟩) | (go_at_call 25; (with_reducible refine (fastjson_skipWS.calls K s4 s5 _ E5.out).mono ?_); rintro e w1 ⟨rfl, ⟨nd5, rfl⟩⟩; try exact ⟨rfl, ‹_›⟩) | (go_at_call 25; (with_reducible refine (fastjson_skipWS.calls K (s5.extract 1 s5.size) s6 _ E6.out).mono ?_); rintro e w1 ⟨rfl, ⟨nd6, rfl⟩⟩; try exact ⟨rfl, ‹_›⟩) | (go_at_call 27; have hm' := HM.out; have hl5 := L5.out; have hl6 := L6.out; have hl3 := L3.out; obtain ⟨V5, n5, c5, hI5, hn5⟩ := HO4.out.ci; refine (HVh.out s6 d _ HD.out EV.out B cp V5 n5 c5 _ (by repeat (first | exact hI5 | apply CI.drewN)) (by omega)).mono ?_; rintro e w6 ⟨p6, V6, n6, c6, rfl, hp6, hI6, hn6, hs6, hR6⟩; have hS6 : Step B cp (w4.setCell ⟨b, vs.length * 2, none⟩ (.string key)) w6 := (by first | exact hs6 | exact hs6.drewL | exact hs6.drewL.drewL); have hc6 := fun i => HO4.out.cellKeep hS6 i; have v6 := (hc6 _).1.trans HV5.out; have fv6 := (hc6 _).2.trans HG5.out; have hO6 := HO4.out.child (sz' := t.size) hI6 (by omega) hS6; have hR6' := HO4.out.kidRep (w2 := w6) (q := p6) (t := v) (by exact hR6); have hT := hO6.turn 1 (by omega) (.pointer (some p6)); have HP6 := Lib.hid (hT.1.push ((World.cell?_setCell_other w6 ⟨b, vs.length * 2 + 1, none⟩ ⟨b, vs.length * 2, none⟩ (.pointer (some p6)) (by simp)).trans ((hc6 _).1.trans HK5.out)) (World.cell?_setCell_same _ _ _ v6) (hT.2 _ _ hR6')); clear hs6 hS6 hc6 hm' hl5 hl6 hl3 hI5 hn5 hI6 hn6 hR6 hO6 hR6' hT; try exact ⟨rfl, ‹_›⟩) | (go_at_call 25; (with_reducible refine (fastjson_skipWS.calls K t t1 _ E7.out).mono ?_); rintro e w1 ⟨rfl, ⟨nd7, rfl⟩⟩; try exact ⟨rfl, ‹_›⟩) | (go_at_call 29; (with_reducible refine (errors_New.calls _ (some 0) _ rfl).mono ?_); rintro e w9 ⟨x9, rfl, hb9⟩; have HB9 := Lib.hid hb9; clear hb9; simp only [errX_some]; try exact ⟨rfl, ‹_›⟩))
            go_roundg k2
            case measure => omega
            case rel =>
              have hsz : (t1.extract 1 t1.size).size = t1.size - 1 := by rw [ByteArray.size_extract]; omega
              have hl5 := L5.out
              have hl6 := L6.out
              have hl7 := L7.out
              have hl3 := L3.out
              have hlen := HLen.out
              refine ⟨t1.extract 1 t1.size, ks ++ [key], vs ++ [v], some ⟨b, 0, none⟩, ca3, _, _, rfl, HL, Lib.hid ((HP6.out.frame ((Frame.refl (fun _ => False) _).drewN nd7)).less (by omega)), Lib.hid ?_⟩
              rw [hsz, List.length_append, List.length_singleton]
              omega
          rw [if_neg y2] at hL6
          have b44 : (bt t1 0 == 44) = false := beq_eq_false_iff_ne.mpr y2
          clear y2
          by_cases y3 : bt t1 0 = 125
          · rw [if_pos y3] at hL6
            have hr := Option.some.inj hL6
            subst hr
            have hx7 : ∀ h : 0 < t1.size, ((t1[0]'h).toNat : Int) = 125 := fun h => (bt_at t1 0 h).trans y3
            clear y3 hL6 b44
            go_wp2_with (first | (go_at_call 67; (refine HG.out.mono ?_); rintro e w3 hgr; obtain ⟨b, ca3, rfl, hO3, k3, v3, fk3, fv3⟩ := HA.out.get hgr; have HO3 := Lib.hid hO3; have HK3 := Lib.hid k3; have HF3 := Lib.hid fk3; have HW3 := Lib.hid v3; have HG3 := Lib.hid fv3; clear hgr hO3 k3 v3 fk3 fv3; try exact ⟨rfl, ‹_›⟩) | (go_at_call 25; (with_reducible refine (fastjson_skipWS.calls K s2 s3 _ E3.out).mono ?_); rintro e w1 ⟨rfl, ⟨nd3, rfl⟩⟩; try exact ⟨rfl, ‹_›⟩) | (go_at_call 68; (with_reducible refine (fastjson_parseRawKey.calls K (s3.extract 1 s3.size) key s4 none _ EK.out).mono ?_); rintro e w4 ⟨x4, rfl, hb4⟩; have F4 : Frame (fun _ => False) w3 w4 := Frame.below (Below.ofDrewN' (k := nd3) hb4); have hc4 := fun i => HO3.out.cellKeep (HO3.out.stepF F4) i; have k4 := (hc4 _).1.trans HK3.out; have fk4 := (hc4 _).2.trans HF3.out; have HV4 := Lib.hid ((hc4 _).1.trans HW3.out); have HG4 := Lib.hid ((hc4 _).2.trans HG3.out); have HO4 := Lib.hid ((HO3.out.frame F4).turn 0 (by omega) (.string key)).1; have HK5 := Lib.hid (World.cell?_setCell_same w4 _ (.string key) k4); have HV5 := Lib.hid ((World.cell?_setCell_other w4 ⟨b, vs.length * 2, none⟩ ⟨b, vs.length * 2 + 1, none⟩ (.string key) (by simp)).trans HV4.out); have HG5 := Lib.hid ((World.frozen?_setCell w4 ⟨b, vs.length * 2, none⟩ ⟨b, vs.length * 2 + 1, none⟩ (.string key)).trans HG4.out); clear hb4 F4 hc4; simp only [errX_none]; try exact ⟨rfl, ‹_›⟩) | (go_at_call 25; (with_reducible refine (fastjson_skipWS.calls K s4 s5 _ E5.out).mono ?_); rintro e w1 ⟨rfl, ⟨nd5, rfl⟩⟩; try exact ⟨rfl, ‹_›⟩) | (go_at_call 25; (with_reducible refine (fastjson_skipWS.calls K (s5.extract 1 s5.size) s6 _ E6.out).mono ?_); rintro e w1 ⟨rfl, ⟨nd6, rfl⟩⟩; try exact ⟨rfl, ‹_›⟩) | (go_at_call 27; have hm' := HM.out; have hl5 := L5.out; have hl6 := L6.out; have hl3 := L3.out; obtain ⟨V5, n5, c5, hI5, hn5⟩ := HO4.out.ci; refine (HVh.out s6 d _ HD.out EV.out B cp V5 n5 c5 _ (by repeat (first | exact hI5 | apply CI.drewN)) (by omega)).mono ?_; rintro e w6 ⟨p6, V6, n6, c6, rfl, hp6, hI6, hn6, hs6, hR6⟩; have hS6 : Step B cp (w4.setCell ⟨b, vs.length * 2, none⟩ (.string key)) w6 := (by first | exact hs6 | exact hs6.drewL | exact hs6.drewL.drewL); have hc6 := fun i => HO4.out.cellKeep hS6 i; have v6 := (hc6 _).1.trans HV5.out; have fv6 := (hc6 _).2.trans HG5.out; have hO6 := HO4.out.child (sz' := t.size) hI6 (by omega) hS6; have hR6' := HO4.out.kidRep (w2 := w6) (q := p6) (t := v) (by exact hR6); have hT := hO6.turn 1 (by omega) (.pointer (some p6)); have HP6 := Lib.hid (hT.1.push ((World.cell?_setCell_other w6 ⟨b, vs.length * 2 + 1, none⟩ ⟨b, vs.length * 2, none⟩ (.pointer (some p6)) (by simp)).trans ((hc6 _).1.trans HK5.out)) (World.cell?_setCell_same _ _ _ v6) (hT.2 _ _ hR6')); clear hs6 hS6 hc6 hm' hl5 hl6 hl3 hI5 hn5 hI6 hn6 hR6 hO6 hR6' hT; try exact ⟨rfl, ‹_›⟩) | (go_at_call 25; (with_reducible refine (fastjson_skipWS.calls K t t1 _ E7.out).mono ?_); rintro e w1 ⟨rfl, ⟨nd7, rfl⟩⟩; try exact ⟨rfl, ‹_›⟩) | (go_at_call 29; (with_reducible refine (errors_New.calls _ (some 0) _ rfl).mono ?_); rintro e w9 ⟨x9, rfl, hb9⟩; have HB9 := Lib.hid hb9; clear hb9; simp only [errX_some]; try exact ⟨rfl, ‹_›⟩))
            go_quiet (fail)
            go_wp2
            go_ret3
            have hsz : (t1.extract 1 t1.size).size = t1.size - 1 := by rw [ByteArray.size_extract]; omega
            have hl7 := L7.out
            have hm' := HM.out
            refine PS.drewN (w' := (w6.setCell ⟨b, vs.length * 2 + 1, none⟩ (.pointer (some p6))).drewN nd7) ?_ _
            exact (HP6.out.frame ((Frame.refl (fun _ => False) _).drewN nd7)).fin rfl (by omega) rfl
          · rw [if_neg y3] at hL6
            have hr := Option.some.inj hL6
            subst hr
            have b125 : (bt t1 0 == 125) = false := beq_eq_false_iff_ne.mpr y3
            have hx7 : ∀ h : 0 < t1.size, ((t1[0]'h).toNat : Int) = bt t1 0 := bt_at t1 0
            clear y3 hL6
            go_wp2_with (first | (go_at_call 67; (refine HG.out.mono ?_); rintro e w3 hgr; obtain ⟨b, ca3, rfl, hO3, k3, v3, fk3, fv3⟩ := HA.out.get hgr; have HO3 := Lib.hid hO3; have HK3 := Lib.hid k3; have HF3 := Lib.hid fk3; have HW3 := Lib.hid v3; have HG3 := Lib.hid fv3; clear hgr hO3 k3 v3 fk3 fv3; try exact ⟨rfl, ‹_›⟩) | (go_at_call 25; (with_reducible refine (fastjson_skipWS.calls K s2 s3 _ E3.out).mono ?_); rintro e w1 ⟨rfl, ⟨nd3, rfl⟩⟩; try exact ⟨rfl, ‹_›⟩) | (go_at_call 68; (with_reducible refine (fastjson_parseRawKey.calls K (s3.extract 1 s3.size) key s4 none _ EK.out).mono ?_); rintro e w4 ⟨x4, rfl, hb4⟩; have F4 : Frame (fun _ => False) w3 w4 := Frame.below (Below.ofDrewN' (k := nd3) hb4); have hc4 := fun i => HO3.out.cellKeep (HO3.out.stepF F4) i; have k4 := (hc4 _).1.trans HK3.out; have fk4 := (hc4 _).2.trans HF3.out; have HV4 := Lib.hid ((hc4 _).1.trans HW3.out); have HG4 := Lib.hid ((hc4 _).2.trans HG3.out); have HO4 := Lib.hid ((HO3.out.frame F4).turn 0 (by omega) (.string key)).1; have HK5 := Lib.hid (World.cell?_setCell_same w4 _ (.string key) k4); have HV5 := Lib.hid ((World.cell?_setCell_other w4 ⟨b, vs.length * 2, none⟩ ⟨b, vs.length * 2 + 1, none⟩ (.string key) (by simp)).trans HV4.out); have HG5 := Lib.hid ((World.frozen?_setCell w4 ⟨b, vs.length * 2, none⟩ ⟨b, vs.length * 2 + 1, none⟩ (.string key)).trans HG4.out); clear hb4 F4 hc4; simp only [errX_none]; try exact ⟨rfl, ‹_›⟩) | (go_at_call 25; (with_reducible refine (fastjson_skipWS.calls K s4 s5 _ E5.out).mono ?_); rintro e w1 ⟨rfl, ⟨nd5, rfl⟩⟩; try exact ⟨rfl, ‹_›⟩) | (go_at_call 25; (with_reducible refine (fastjson_skipWS.calls K (s5.extract 1 s5.size) s6 _ E6.out).mono ?_); rintro e w1 ⟨rfl, ⟨nd6, rfl⟩⟩; try exact ⟨rfl, ‹_›⟩) | (go_at_call 27; have hm' := HM.out; have hl5 := L5.out; have hl6 := L6.out; have hl3 := L3.out; obtain ⟨V5, n5, c5, hI5, hn5⟩ := HO4.out.ci; refine (HVh.out s6 d _ HD.out EV.out B cp V5 n5 c5 _ (by repeat (first | exact hI5 | apply CI.drewN)) (by omega)).mono ?_; rintro e w6 ⟨p6, V6, n6, c6, rfl, hp6, hI6, hn6, hs6, hR6⟩; have hS6 : Step B cp (w4.setCell ⟨b, vs.length * 2, none⟩ (.string key)) w6 := (by first | exact hs6 | exact hs6.drewL | exact hs6.drewL.drewL); have hc6 := fun i => HO4.out.cellKeep hS6 i; have v6 := (hc6 _).1.trans HV5.out; have fv6 := (hc6 _).2.trans HG5.out; have hO6 := HO4.out.child (sz' := t.size) hI6 (by omega) hS6; have hR6' := HO4.out.kidRep (w2 := w6) (q := p6) (t := v) (by exact hR6); have hT := hO6.turn 1 (by omega) (.pointer (some p6)); have HP6 := Lib.hid (hT.1.push ((World.cell?_setCell_other w6 ⟨b, vs.length * 2 + 1, none⟩ ⟨b, vs.length * 2, none⟩ (.pointer (some p6)) (by simp)).trans ((hc6 _).1.trans HK5.out)) (World.cell?_setCell_same _ _ _ v6) (hT.2 _ _ hR6')); clear hs6 hS6 hc6 hm' hl5 hl6 hl3 hI5 hn5 hI6 hn6 hR6 hO6 hR6' hT; try exact ⟨rfl, ‹_›⟩) | (go_at_call 25; (with_reducible refine (fastjson_skipWS.calls K t t1 _ E7.out).mono ?_); rintro e w1 ⟨rfl, ⟨nd7, rfl⟩⟩; try exact ⟨rfl, ‹_›⟩) | (go_at_call 29; (with_reducible refine (errors_New.calls _ (some 0) _ rfl).mono ?_); rintro e w9 ⟨x9, rfl, hb9⟩; have HB9 := Lib.hid hb9; clear hb9; simp only [errX_some]; try exact ⟨rfl, ‹_›⟩))
            go_ret3
            exact ⟨_, _, rfl, HP6.out.st.then HI.out (Below.ofDrewN' (k := nd7) HB9.out)⟩

/-- parseObject does as pObj says. -/
theorem pObj_ok {pv : ByteArray → Nat → PRes} (HV : PVok pv) (K : Nat) : POok (pObj pv K) := by
  intro s d r hd h B cp V n c w hI hm
  unfold pObj at h
  obtain ⟨s1, h1, h2⟩ := Option.bind_eq_some_iff.mp h
  obtain ⟨e1, l1⟩ := sk_some h1
  by_cases z1 : s1.size = 0
  · rw [if_pos z1] at h2
    obtain rfl := Option.some.inj h2
    exact object_none K cp V n c w s s1 d hd e1 l1 hI hm z1
  rw [if_neg z1] at h2
  by_cases z2 : bt s1 0 = 125
  · rw [if_pos z2] at h2
    obtain rfl := Option.some.inj h2
    exact object_empty K cp V n c w s s1 d hd e1 l1 hI hm (by omega) z2
  rw [if_neg z2] at h2
  exact object_loop HV K cp V n c w s s1 d hd e1 l1 hI hm (by omega) z2 r h2

end Go.Proofs.YtfoloneeibgoiaaDoor.Fjh

/- fastjson's parseValue does as the parser by fuel says. -/
set_option linter.unusedVariables false
namespace Go.Proofs.YtfoloneeibgoiaaDoor.Fjh
open Go Go.RowKit Go.Proofs.YtfoloneeibgoiaaDoorW.PrintWords Go.Proofs.YtfoloneeibgoiaaDoor.Lex

theorem pV_ok (K : Nat) : ∀ k, PVok (pV K k)
  | 0 => fun s d r hd h => by simp [pV] at h
  | k + 1 => pVal_ok (pArr_ok (pV_ok K k) K) (pObj_ok (pV_ok K k) K) K

end Go.Proofs.YtfoloneeibgoiaaDoor.Fjh

/- fastjson's (*cache).reset of an empty cache; (*Parser).Parse. -/
set_option linter.unusedVariables false
namespace Go.Proofs.YtfoloneeibgoiaaDoor.Fjh
open Go Go.RowKit Go.Proofs.YtfoloneeibgoiaaDoorW.PrintWords Go.Proofs.YtfoloneeibgoiaaDoor.Lex

set_option maxRecDepth 100000 in
set_option maxHeartbeats 4000000 in
theorem creset_nil (cb co : Nat) (w : World) (c0 : w.cell? ⟨cb, co, none⟩ = some (.slice none 0 0)) (f0 : w.frozen? ⟨cb, co, none⟩ = false) :
    Calls Tryd.prog 26 #[.pointer (some ⟨cb, co, none⟩)] w (fun e w' => e = .returned (.tuple #[]) ∧ ∃ k, w' = (w.setCell ⟨cb, co, none⟩ (.slice none 0 0)).drewN k) := by
  go_enter Tryd.func26, Tryd.ntmps26
  go_wp2
  (try simp only [Act.put, List.setIfInBounds_toArray, List.set_cons_zero, List.set_cons_succ])
  go_loopg [10] 1 (fun kq v10 w' => v10 = .int .i64 0 ∧ w' = w)
  case atStart => exact ⟨rfl, rfl⟩
  case round =>
    obtain ⟨rfl, rfl⟩ := hrel
    go_wp2
    refine Go.Great.bodyPost_end0 rfl rfl ?_
    exact ⟨rfl, 0, rfl⟩

theorem row_shape {w : World} {base : Nat} {e : TypeId} {v : Value} {n : Nat} {xs : List Value} (h : w.ownsRow base e 1 v n xs) : ∃ V cap, v = .slice V n cap := by
  rcases h.2 with ⟨rfl, rfl⟩ | ⟨g, cap, cur, rfl, _⟩
  · exact ⟨none, 0, rfl⟩
  · exact ⟨_, _, rfl⟩

set_option maxRecDepth 100000 in
theorem b2s_calls {w : World} {base : Nat} {V : Option Addr} {n cap : Nat} {s : ByteArray} (h : w.ownsRow base 5 1 (.slice V n cap) n (Go.Lib.strCells s)) :
    Calls Tryd.prog 28 #[.slice V n cap] w (fun e w' => e = .returned (.string s) ∧ w' = w) := by
  have e1 : Go.Lib.strCells s = nums .u8 (s.data.toList.map fun b => (b.toNat : Int)) := by simp [Go.Lib.strCells, nums]
  have e2 : strOfNums (s.data.toList.map fun b => (b.toNat : Int)) = s := Go.Proofs.YtfoloneeibgoiaaDoor.StrL.strOfNums_ints s
  rw [e1] at h
  have hcv := own_string (P := Tryd.prog) Tryd.underlying34 Tryd.underlying5 Tryd.underlying9 h
  rw [e2] at hcv
  clear e1 e2 h
  go_enter Tryd.func28, Tryd.ntmps28
  go_wp2
  go_ret
  exact ⟨rfl, rfl⟩

theorem infoB : (Tryd.prog.info? 5).map (fun i => (i.zero, i.size, i.bytes)) = some (some (.int .u8 0), 1, 1) := by kernel_rfl

end Go.Proofs.YtfoloneeibgoiaaDoor.Fjh
