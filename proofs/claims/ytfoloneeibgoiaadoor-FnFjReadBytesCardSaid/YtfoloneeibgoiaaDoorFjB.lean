/- fastjson's parseValue: its contract, a theorem a way. -/
import Derived.Test.YtfoloneeibgoiaaDoorFjA
import Derived.Test.YtfoloneeibgoiaaDoorRpLex
import Derived.ArgAppend
set_option linter.unusedVariables false
namespace Go.Proofs.YtfoloneeibgoiaaDoor.Fjh
open Go Go.RowKit Go.Proofs.YtfoloneeibgoiaaDoorW.PrintWords Go.Proofs.YtfoloneeibgoiaaDoor.Lex

/-- The parser gave an error: what was there stands. -/
def PE (B : Nat) (cp : Addr) (w : World) (e : Ending) (w' : World) : Prop :=
  ∃ (tl : ByteArray) (x : TypeId × Value), e = .returned (.tuple #[.pointer none, .string tl, .iface x.1 x.2]) ∧ Step B cp w w'
/-- The parser gave a value: the tree t, the text behind it. -/
def PS (B : Nat) (cp : Addr) (m : Nat) (w : World) (t : JV) (tl : ByteArray) (e : Ending) (w' : World) : Prop :=
  ∃ (p : Addr) (V' : Option Addr) (n' c' : Nat), e = .returned (.tuple #[.pointer (some p), .string tl, .nilIface]) ∧ p.spot = none ∧ CI B w' cp V' n' c' ∧ n' + tl.size ≤ m ∧ Step B cp w w' ∧ Rep w' (Own cp w w') p t
def PV (B : Nat) (cp : Addr) (m : Nat) (w : World) : Option (JV × ByteArray) → Ending → World → Prop
  | none => PE B cp w
  | some (t, tl) => PS B cp m w t tl

theorem CI.drewN {B : Nat} {w : World} {cp : Addr} {V : Option Addr} {n c : Nat} (h : CI B w cp V n c) (k : Nat) : CI B (w.drewN k) cp V n c :=
  h.frame ((Frame.refl (fun _ => False) w).drewN k) (fun _ hx => hx.elim)
theorem CI.below {B : Nat} {w w' : World} {cp : Addr} {V : Option Addr} {n c : Nat} (h : CI B w cp V n c) (hb : Below w.heap.size w w') : CI B w' cp V n c :=
  h.frame (X := fun _ => False) (Frame.below hb) (fun _ hx => hx.elim)
theorem Step.below_r {B : Nat} {cp : Addr} {w w1 w2 : World} (h : Step B cp w w1) (hb : Below w1.heap.size w1 w2) (hs : B ≤ w1.heap.size) (hcb : cp.block < w1.heap.size) : Step B cp w w2 :=
  h.frame (X := fun _ => False) (Frame.below hb) hs (fun hx => hx.elim) hcb (fun _ hx => hx.elim) (fun _ hx => hx.elim)
theorem Below.drewN' {B : Nat} {w w' : World} (h : Below B w w') (k : Nat) : Below B w (w'.drewN k) := ⟨h.os, h.tape, h.output, h.size, h.block⟩
theorem CI.stepB {B : Nat} {w w' : World} {cp : Addr} {V : Option Addr} {n c : Nat} (h : CI B w cp V n c) (hb : Below w.heap.size w w') : Step B cp w w' :=
  (Step.refl B cp w).below_r hb h.low h.row.block
theorem Step.then {B : Nat} {w w1 w' : World} {cp : Addr} {V : Option Addr} {n c : Nat} (hs : Step B cp w w1) (h : CI B w cp V n c) (hb : Below w1.heap.size w1 w') : Step B cp w w' :=
  hs.below_r hb (Nat.le_trans h.low hs.below.size) (Nat.lt_of_lt_of_le h.row.block hs.below.size)
theorem _root_.Go.RowKit.Below.ofDrewN' {B : Nat} {w w' : World} {k : Nat} (h : Below B (w.drewN k) w') : Below B w w' := ⟨h.os, h.tape, h.output, h.size, h.block⟩

theorem wrap_d {d : Nat} (h : d ≤ 300) : IntKind.i64.wrap ((d : Int) + 1) = (d : Int) + 1 := by
  rw [IntKind.wrap_i64]
  omega

theorem PS.drewN {B : Nat} {cp : Addr} {m : Nat} {w w' : World} {t : JV} {tl : ByteArray} {e : Ending} (h : PS B cp m w t tl e w') (k : Nat) : PS B cp m w t tl e (w'.drewN k) := by
  obtain ⟨p, V, n, c, he, hp, hI, hm, hS, hR⟩ := h
  exact ⟨p, V, n, c, he, hp, hI.drewN k, hm, hS.frame ((Frame.refl (fun _ => False) w').drewN k) hI.low (fun hx => hx.elim) hI.row.block (fun _ hx => hx.elim) (fun _ hx => hx.elim), by
    refine Rep.mono (w := w') (w' := w'.drewN k) (own := Own cp w w') (own' := Own cp w (w'.drewN k)) ?_ hR
    exact fun a ha => ⟨⟨ha.1, ha.2⟩, rfl, rfl⟩⟩

theorem ext_ne {a b : ByteArray} {l : List UInt8} (h : a ≠ b) (e : b.data.toList = l) : (a.toList == l) = false := by
  refine beq_eq_false_iff_ne.mpr fun h' => h ?_
  rw [ByteArray.toList_eq, ← e] at h'
  cases a; cases b
  simp only [ByteArray.mk.injEq]
  exact Array.toList_inj.mp h'

/-- A new value, its kind and text written. -/
theorem ps_two {B : Nat} {cp : Addr} {n m : Nat} {w w1 w2 : World} {p : Addr} {V : Option Addr} {c : Nat} {tl : ByteArray} {t : JV} {v3 v4 : Value} {e : Ending}
    (hp : p.spot = none) (hI : CI B w1 cp V (n + 1) c) (hS : Step B cp w w1) (hz : ∀ j v, zeroV[j]? = some v → w1.cell? (fld p j) = some v ∧ w1.frozen? (fld p j) = false ∧ Own cp w w1 (fld p j))
    (e2 : w2 = (w1.setCell (fld p 4) v4).setCell (fld p 3) v3) (hm : n + 1 + tl.size ≤ m) (he : e = .returned (.tuple #[.pointer (some p), .string tl, .nilIface])) (hlow : B ≤ w.heap.size) (hB : ∀ a, Own cp w w1 a → B ≤ a.block)
    (hR : ∀ own : Addr → Prop, p.spot = none → Cel w2 (fld p 3) v3 → Cel w2 (fld p 4) v4 → own (fld p 3) → own (fld p 4) → Rep w2 own p t) : PS B cp m w t tl e w2 := by
  obtain ⟨c3, f3, o3⟩ := hz 3 _ rfl
  obtain ⟨c4, f4, o4⟩ := hz 4 _ rfl
  have hne : fld p 4 ≠ fld p 3 := by simp [fld]
  have F : Frame (fun x => x = fld p 4 ∨ x = fld p 3) w1 w2 := by
    rw [e2]; exact ((Frame.refl _ w1).setCell (.inl rfl) _).setCell (.inr rfl) _
  have hst : ∀ x, (x = fld p 4 ∨ x = fld p 3) → Own cp w w1 x := by rintro x (rfl | rfl) <;> assumption
  have hcb := hI.row.block
  have hcp : ¬ (cp = fld p 4 ∨ cp = fld p 3) := fun h => (hst _ h).1.2.1 rfl
  have hS2 := hS.frame F hI.low hcp hcb (fun x hx => hB x (hst x hx)) (fun x hx => (hst x hx).2)
  refine ⟨p, V, n + 1, c, he, hp, hI.frame F (fun x hx => (hst x hx).1), hm, hS2, hR _ hp ⟨?_, (F.frozen _ o3.1.1).trans f3⟩ ⟨?_, (F.frozen _ o4.1.1).trans f4⟩ ⟨o3.1.frame F hcp hcb, o3.2⟩ ⟨o4.1.frame F hcp hcb, o4.2⟩⟩
  · rw [e2]; exact World.cell?_setCell_same _ _ _ ((World.cell?_setCell_other _ _ _ _ hne).trans c3)
  · rw [e2]; exact (World.cell?_setCell_other _ _ _ _ (fun h => hne h.symm)).trans (World.cell?_setCell_same _ _ _ c4)

/-- A Value that is made apart from the cache: true, false, null. -/
theorem ps_lit {B : Nat} {cp : Addr} {V : Option Addr} {n c m : Nat} {w : World} {tl : ByteArray} {t : Int} {cs : Array Value} {T : TypeId} (hI : CI B w cp V n c) (e : Ending) (he : e = .returned (.tuple #[.pointer (some ⟨w.heap.size, 0, none⟩), .string tl, .nilIface])) (ht : (t = 0 ∨ t = 5 ∨ t = 6) ∧ cs[4]? = some (.int .i64 t)) (hm : n + tl.size ≤ m) :
    PS B cp m w (.lit t) tl e ((w.alloc (.cells cs T)).drew) := by
  obtain ⟨w', hw'⟩ : ∃ w', w' = (w.alloc (.cells cs T)).drew := ⟨_, rfl⟩
  rw [← hw']
  have F : Frame (fun _ => False) w w' := by rw [hw']; exact ((Frame.refl _ w).alloc _).drew
  have hI' : CI B w' cp V n c := hI.frame F (fun _ hx => hx.elim)
  have hg : w'.heap[w.heap.size]? = some (.cells cs T (0, 0)) := by rw [hw']; exact heap_alloc_new w (.cells cs T)
  have hs : w'.heap.size = w.heap.size + 1 := by rw [hw']; show (w.heap.push _).size = _; simp
  have ho : Own cp w w' ⟨w.heap.size, 4, none⟩ := by
    refine ⟨⟨by simp only; omega, fun e => ?_, rfl, ?_⟩, fun h => Nat.lt_irrefl _ h.1⟩
    · have := hI.row.block
      rw [← e] at this
      exact Nat.lt_irrefl _ this
    · rintro ⟨vb, n', c', h1, h2, h3⟩
      rw [hI'.row.cell] at h1
      simp only [Option.some.injEq, Value.slice.injEq] at h1
      have hc : 0 < c := by
        rcases Nat.eq_zero_or_pos c with h0 | h0
        · have := hI.row.nil h0
          rw [h1.1] at this; cases this
        · exact h0
      obtain ⟨vb2, e2, _, hg2, _⟩ := hI.row.arr hc
      rw [h1.1] at e2
      obtain rfl := (Addr.mk.inj (Option.some.inj e2)).1
      simp only at h2
      omega
  have e4 : w'.cell? ⟨w.heap.size, 4, none⟩ = some (.int .i64 t) := (cell_at hg 4).trans ht.2
  refine ⟨_, V, n, c, he, rfl, hI', hm, (Step.refl B cp w).frame F hI.low (fun hx => hx.elim) hI.row.block (fun _ hx => hx.elim) (fun _ hx => hx.elim), .lit rfl ht.1 ⟨?_, ?_⟩ ?_⟩
  · simpa [fld] using e4
  · simp [fld, World.frozen?, hg]
  · simpa [fld] using ho

set_option maxRecDepth 100000 in
set_option maxHeartbeats 4000000 in
theorem value_empty {B : Nat} (K : Nat) (cp : Addr) (V : Option Addr) (n c : Nat) (w : World) (s : ByteArray) (d : Nat) (hd0 : d ≤ 300) (hs : s.size = 0) (hI : CI B w cp V n c) (hm : n + s.size ≤ 1000000) :
    Calls Tryd.prog 27 #[.pointer (some cp), .string s, .int .i64 d] w (PE B cp w) := by
  have HI := Lib.hid hI
  have HM := Lib.hid hm
  have hw := wrap_d hd0
  have hz : ((s.size : Int) == 0) = true := beq_iff_eq.mpr (by omega)
  clear hI hm hd0 hs
  go_enter Tryd.func27, Tryd.ntmps27
  go_wp2_with (first | (go_at_call 29; (with_reducible refine (errors_New.calls _ (some 0) _ rfl).mono ?_); rintro e w9 ⟨x9, rfl, hb9⟩; have HB9 := Lib.hid hb9; clear hb9; simp only [errX_some]; try exact ⟨rfl, ‹_›⟩))
  go_wp2
  go_ret3
  exact ⟨_, _, rfl, HI.out.stepB HB9.out⟩


set_option maxRecDepth 100000 in
set_option maxHeartbeats 4000000 in
theorem value_deep {B : Nat} (K : Nat) (cp : Addr) (V : Option Addr) (n c : Nat) (w : World) (s : ByteArray) (d : Nat) (hd0 : d ≤ 300) (hs : 0 < s.size) (hd : 300 < d + 1) (hI : CI B w cp V n c) (hm : n + s.size ≤ 1000000) :
    Calls Tryd.prog 27 #[.pointer (some cp), .string s, .int .i64 d] w (PE B cp w) := by
  have HI := Lib.hid hI
  have HM := Lib.hid hm
  have hw := wrap_d hd0
  have q1 : 1 ≤ s.size := hs
  have q : (0 < s.size) = True := eq_true hs
  have hz : ((s.size : Int) == 0) = false := beq_eq_false_iff_ne.mpr (by omega)
  have hd' : decide ((300 : Int) < (d : Int) + 1) = true := decide_eq_true (by omega)
  clear hI hm hd0 hs hd
  go_enter Tryd.func27, Tryd.ntmps27
  go_wp2_with (first | (go_at_call 29; (with_reducible refine (errors_New.calls _ (some 0) _ rfl).mono ?_); rintro e w9 ⟨x9, rfl, hb9⟩; have HB9 := Lib.hid hb9; clear hb9; simp only [errX_some]; try exact ⟨rfl, ‹_›⟩))
  go_wp2
  go_ret3
  exact ⟨_, _, rfl, HI.out.stepB HB9.out⟩


set_option maxRecDepth 100000 in
set_option maxHeartbeats 4000000 in
theorem value_string {B : Nat} (K : Nat) (cp : Addr) (V : Option Addr) (n c : Nat) (w : World) (s : ByteArray) (d : Nat) (hd0 : d ≤ 300) (hs : 0 < s.size) (hd : d + 1 ≤ 300) (hb : bt s 0 = 34) {r1 r2 : ByteArray} (hp : fastjson_parseRawString.f K (s.extract 1 s.size) = some (r1, r2, none)) (hr : r2.size + 1 ≤ s.size) (hI : CI B w cp V n c) (hm : n + s.size ≤ 1000000) :
    Calls Tryd.prog 27 #[.pointer (some cp), .string s, .int .i64 d] w (PS B cp (n + s.size) w (.raw r1) r2) := by
  have HI := Lib.hid hI
  have HM := Lib.hid hm
  have hw := wrap_d hd0
  have HP := Lib.hid hp
  have HR := Lib.hid hr
  have q1 : 1 ≤ s.size := hs
  have q : (0 < s.size) = True := eq_true hs
  have hz : ((s.size : Int) == 0) = false := beq_eq_false_iff_ne.mpr (by omega)
  have hd' : decide ((300 : Int) < (d : Int) + 1) = false := decide_eq_false (by omega)
  have hx : ∀ h : 0 < s.size, ((s[0]'h).toNat : Int) = 34 := fun h => (bt_at s 0 h).trans hb
  clear hI hm hd0 hp hr hs hd hb
  go_enter Tryd.func27, Tryd.ntmps27
  go_wp2_with (first | (go_at_call 46; (with_reducible refine (fastjson_parseRawString.calls K (s.extract 1 s.size) r1 r2 none _ HP.out).mono ?_); rintro e w1 ⟨x1, rfl, hb1⟩; have HB1 := Lib.hid hb1; clear hb1; simp only [errX_none]; try exact ⟨rfl, ‹_›⟩))
  have hI1 : CI B w1 cp V n c := HI.out.below (HB1.out.mono (Nat.le_refl _))
  have hm' := HM.out
  refine (getValue_gv cp V n c w1 hI1 (by omega)).mono ?_
  rintro e w2 ⟨p, V2, c2, rfl, hp, hI2, hS2, hz2⟩
  obtain ⟨pb, po, rfl⟩ : ∃ pb po, p = ⟨pb, po, none⟩ := ⟨p.block, p.off, by cases p; simp_all⟩
  obtain ⟨c3, f3, -⟩ := hz2 3 _ rfl
  obtain ⟨c4, f4, -⟩ := hz2 4 _ rfl
  simp only [fld] at c3 f3 c4 f4
  have HI2 := Lib.hid hI2
  have HS2 := Lib.hid hS2
  have HZ2 := Lib.hid hz2
  clear hI1 hI2 hS2 hz2 hm'
  simp only []
  go_wp2
  go_ret3
  have hI0 := HI.out
  have hb1 := HB1.out
  have hS1 : Step B cp w w1 := (Step.refl B cp w).below_r hb1 hI0.low hI0.row.block
  have hZ : ∀ j v, zeroV[j]? = some v → w2.cell? (fld ⟨pb, po, none⟩ j) = some v ∧ w2.frozen? (fld ⟨pb, po, none⟩ j) = false ∧ Own cp w w2 (fld ⟨pb, po, none⟩ j) := by
    intro j v hj
    obtain ⟨h1, h2, h3⟩ := HZ2.out j v hj
    exact ⟨h1, h2, h3.1, fun hs => h3.2 (hS1.keep _ hs).1⟩
  have hm' := HR.out
  exact ps_two rfl HI2.out (hS1.trans HS2.out) hZ rfl (by omega) rfl hI0.low (fun a ha => hI0.own ha) (fun own hp h3 h4 o3 o4 => .raw hp h3 h4 o3 o4)


set_option maxRecDepth 100000 in
set_option maxHeartbeats 4000000 in
theorem value_string_bad {B : Nat} (K : Nat) (cp : Addr) (V : Option Addr) (n c : Nat) (w : World) (s : ByteArray) (d : Nat) (hd0 : d ≤ 300) (hs : 0 < s.size) (hd : d + 1 ≤ 300) (hb : bt s 0 = 34) {r1 r2 : ByteArray} {r3 : Int} (hp : fastjson_parseRawString.f K (s.extract 1 s.size) = some (r1, r2, some r3)) (hI : CI B w cp V n c) (hm : n + s.size ≤ 1000000) :
    Calls Tryd.prog 27 #[.pointer (some cp), .string s, .int .i64 d] w (PE B cp w) := by
  have HI := Lib.hid hI
  have HM := Lib.hid hm
  have hw := wrap_d hd0
  have HP := Lib.hid hp
  have q1 : 1 ≤ s.size := hs
  have q : (0 < s.size) = True := eq_true hs
  have hz : ((s.size : Int) == 0) = false := beq_eq_false_iff_ne.mpr (by omega)
  have hd' : decide ((300 : Int) < (d : Int) + 1) = false := decide_eq_false (by omega)
  have hx : ∀ h : 0 < s.size, ((s[0]'h).toNat : Int) = 34 := fun h => (bt_at s 0 h).trans hb
  clear hI hm hd0 hp hs hd hb
  go_enter Tryd.func27, Tryd.ntmps27
  go_wp2_with (first | (go_at_call 46; (with_reducible refine (fastjson_parseRawString.calls K (s.extract 1 s.size) r1 r2 (some r3) _ HP.out).mono ?_); rintro e w1 ⟨x1, rfl, hb1⟩; have HB1 := Lib.hid hb1; clear hb1; simp only [errX_some]; try exact ⟨rfl, ‹_›⟩) | (go_at_call 29; (with_reducible refine (errors_New.calls _ (some 0) _ rfl).mono ?_); rintro e w9 ⟨x9, rfl, hb9⟩; have HB9 := Lib.hid hb9; clear hb9; simp only [errX_some]; try exact ⟨rfl, ‹_›⟩))
  go_wp2
  go_ret3
  have hI0 := HI.out
  exact ⟨_, _, rfl, (hI0.stepB HB1.out).then hI0 HB9.out⟩


set_option maxRecDepth 100000 in
set_option maxHeartbeats 4000000 in
theorem value_num {B : Nat} (K : Nat) (cp : Addr) (V : Option Addr) (n c : Nat) (w : World) (s : ByteArray) (d : Nat) (hd0 : d ≤ 300) (hs : 0 < s.size) (hd : d + 1 ≤ 300) (hb : bt s 0 ≠ 123 ∧ bt s 0 ≠ 91 ∧ bt s 0 ≠ 34 ∧ bt s 0 ≠ 116 ∧ bt s 0 ≠ 102 ∧ bt s 0 ≠ 110) {r1 r2 : ByteArray} (hp : fastjson_parseRawNumber.f K s = some (r1, r2, none)) (hr : r2.size + 1 ≤ s.size) (hI : CI B w cp V n c) (hm : n + s.size ≤ 1000000) :
    Calls Tryd.prog 27 #[.pointer (some cp), .string s, .int .i64 d] w (PS B cp (n + s.size) w (.num r1) r2) := by
  have HI := Lib.hid hI
  have HM := Lib.hid hm
  have hw := wrap_d hd0
  have HP := Lib.hid hp
  have HR := Lib.hid hr
  have q1 : 1 ≤ s.size := hs
  have q : (0 < s.size) = True := eq_true hs
  have hz : ((s.size : Int) == 0) = false := beq_eq_false_iff_ne.mpr (by omega)
  have hd' : decide ((300 : Int) < (d : Int) + 1) = false := decide_eq_false (by omega)
  have b123 : (bt s 0 == 123) = false := beq_eq_false_iff_ne.mpr hb.1
  have b91 : (bt s 0 == 91) = false := beq_eq_false_iff_ne.mpr hb.2.1
  have b34 : (bt s 0 == 34) = false := beq_eq_false_iff_ne.mpr hb.2.2.1
  have b116 : (bt s 0 == 116) = false := beq_eq_false_iff_ne.mpr hb.2.2.2.1
  have b102 : (bt s 0 == 102) = false := beq_eq_false_iff_ne.mpr hb.2.2.2.2.1
  have b110 : (bt s 0 == 110) = false := beq_eq_false_iff_ne.mpr hb.2.2.2.2.2
  have hx : ∀ h : 0 < s.size, ((s[0]'h).toNat : Int) = bt s 0 := bt_at s 0
  clear hI hm hd0 hp hr hs hd hb
  go_enter Tryd.func27, Tryd.ntmps27
  go_wp2_with (first | (go_at_call 49; (with_reducible refine (fastjson_parseRawNumber.calls K s r1 r2 none _ HP.out).mono ?_); rintro e w1 ⟨x1, rfl, hb1⟩; have HB1 := Lib.hid hb1; clear hb1; simp only [errX_none]; try exact ⟨rfl, ‹_›⟩))
  have hI1 : CI B w1 cp V n c := HI.out.below (HB1.out.mono (Nat.le_refl _))
  have hm' := HM.out
  refine (getValue_gv cp V n c w1 hI1 (by omega)).mono ?_
  rintro e w2 ⟨p, V2, c2, rfl, hp, hI2, hS2, hz2⟩
  obtain ⟨pb, po, rfl⟩ : ∃ pb po, p = ⟨pb, po, none⟩ := ⟨p.block, p.off, by cases p; simp_all⟩
  obtain ⟨c3, f3, -⟩ := hz2 3 _ rfl
  obtain ⟨c4, f4, -⟩ := hz2 4 _ rfl
  simp only [fld] at c3 f3 c4 f4
  have HI2 := Lib.hid hI2
  have HS2 := Lib.hid hS2
  have HZ2 := Lib.hid hz2
  clear hI1 hI2 hS2 hz2 hm'
  simp only []
  go_wp2
  go_ret3
  have hI0 := HI.out
  have hb1 := HB1.out
  have hS1 : Step B cp w w1 := (Step.refl B cp w).below_r hb1 hI0.low hI0.row.block
  have hZ : ∀ j v, zeroV[j]? = some v → w2.cell? (fld ⟨pb, po, none⟩ j) = some v ∧ w2.frozen? (fld ⟨pb, po, none⟩ j) = false ∧ Own cp w w2 (fld ⟨pb, po, none⟩ j) := by
    intro j v hj
    obtain ⟨h1, h2, h3⟩ := HZ2.out j v hj
    exact ⟨h1, h2, h3.1, fun hs => h3.2 (hS1.keep _ hs).1⟩
  have hm' := HR.out
  exact ps_two rfl HI2.out (hS1.trans HS2.out) hZ rfl (by omega) rfl hI0.low (fun a ha => hI0.own ha) (fun own hp h3 h4 o3 o4 => .num hp h3 h4 o3 o4)


set_option maxRecDepth 100000 in
set_option maxHeartbeats 4000000 in
theorem value_num_bad {B : Nat} (K : Nat) (cp : Addr) (V : Option Addr) (n c : Nat) (w : World) (s : ByteArray) (d : Nat) (hd0 : d ≤ 300) (hs : 0 < s.size) (hd : d + 1 ≤ 300) (hb : bt s 0 ≠ 123 ∧ bt s 0 ≠ 91 ∧ bt s 0 ≠ 34 ∧ bt s 0 ≠ 116 ∧ bt s 0 ≠ 102 ∧ bt s 0 ≠ 110) {r1 r2 : ByteArray} {r3 : Int} (hp : fastjson_parseRawNumber.f K s = some (r1, r2, some r3)) (hI : CI B w cp V n c) (hm : n + s.size ≤ 1000000) :
    Calls Tryd.prog 27 #[.pointer (some cp), .string s, .int .i64 d] w (PE B cp w) := by
  have HI := Lib.hid hI
  have HM := Lib.hid hm
  have hw := wrap_d hd0
  have HP := Lib.hid hp
  have q1 : 1 ≤ s.size := hs
  have q : (0 < s.size) = True := eq_true hs
  have hz : ((s.size : Int) == 0) = false := beq_eq_false_iff_ne.mpr (by omega)
  have hd' : decide ((300 : Int) < (d : Int) + 1) = false := decide_eq_false (by omega)
  have b123 : (bt s 0 == 123) = false := beq_eq_false_iff_ne.mpr hb.1
  have b91 : (bt s 0 == 91) = false := beq_eq_false_iff_ne.mpr hb.2.1
  have b34 : (bt s 0 == 34) = false := beq_eq_false_iff_ne.mpr hb.2.2.1
  have b116 : (bt s 0 == 116) = false := beq_eq_false_iff_ne.mpr hb.2.2.2.1
  have b102 : (bt s 0 == 102) = false := beq_eq_false_iff_ne.mpr hb.2.2.2.2.1
  have b110 : (bt s 0 == 110) = false := beq_eq_false_iff_ne.mpr hb.2.2.2.2.2
  have hx : ∀ h : 0 < s.size, ((s[0]'h).toNat : Int) = bt s 0 := bt_at s 0
  clear hI hm hd0 hp hs hd hb
  go_enter Tryd.func27, Tryd.ntmps27
  go_wp2_with (first | (go_at_call 49; (with_reducible refine (fastjson_parseRawNumber.calls K s r1 r2 (some r3) _ HP.out).mono ?_); rintro e w1 ⟨x1, rfl, hb1⟩; have HB1 := Lib.hid hb1; clear hb1; simp only [errX_some]; try exact ⟨rfl, ‹_›⟩) | (go_at_call 29; (with_reducible refine (errors_New.calls _ (some 0) _ rfl).mono ?_); rintro e w9 ⟨x9, rfl, hb9⟩; have HB9 := Lib.hid hb9; clear hb9; simp only [errX_some]; try exact ⟨rfl, ‹_›⟩))
  go_wp2
  go_ret3
  have hI0 := HI.out
  exact ⟨_, _, rfl, (hI0.stepB HB1.out).then hI0 HB9.out⟩


set_option maxRecDepth 100000 in
set_option maxHeartbeats 4000000 in
theorem value_arr {B : Nat} (K : Nat) (cp : Addr) (V : Option Addr) (n c : Nat) (w : World) (s : ByteArray) (d : Nat) (hd0 : d ≤ 300) (hs : 0 < s.size) (hd : d + 1 ≤ 300) (hb : bt s 0 = 91) {t : JV} {tl : ByteArray} (hp : Calls Tryd.prog 45 #[.pointer (some cp), .string (s.extract 1 s.size), .int .i64 ((d : Int) + 1)] w (PS B cp (n + s.size) w t tl)) (hI : CI B w cp V n c) (hm : n + s.size ≤ 1000000) :
    Calls Tryd.prog 27 #[.pointer (some cp), .string s, .int .i64 d] w (PS B cp (n + s.size) w t tl) := by
  have HI := Lib.hid hI
  have HM := Lib.hid hm
  have hw := wrap_d hd0
  have HP := Lib.hid hp
  have q1 : 1 ≤ s.size := hs
  have q : (0 < s.size) = True := eq_true hs
  have hz : ((s.size : Int) == 0) = false := beq_eq_false_iff_ne.mpr (by omega)
  have hd' : decide ((300 : Int) < (d : Int) + 1) = false := decide_eq_false (by omega)
  have hx : ∀ h : 0 < s.size, ((s[0]'h).toNat : Int) = 91 := fun h => (bt_at s 0 h).trans hb
  clear hI hm hd0 hp hs hd hb
  go_enter Tryd.func27, Tryd.ntmps27
  go_wp2_with (first | (go_at_call 45; (refine HP.out.mono ?_); rintro e w1 ⟨p, V', n', c', rfl, hp, hrest⟩; have HR := Lib.hid hrest; clear hrest; try exact ⟨rfl, ‹_›⟩))
  go_wp2
  go_ret3
  exact ⟨p, V', n', c', rfl, hp, HR.out⟩


set_option maxRecDepth 100000 in
set_option maxHeartbeats 4000000 in
theorem value_arr_bad {B : Nat} (K : Nat) (cp : Addr) (V : Option Addr) (n c : Nat) (w : World) (s : ByteArray) (d : Nat) (hd0 : d ≤ 300) (hs : 0 < s.size) (hd : d + 1 ≤ 300) (hb : bt s 0 = 91) (hp : Calls Tryd.prog 45 #[.pointer (some cp), .string (s.extract 1 s.size), .int .i64 ((d : Int) + 1)] w (PE B cp w)) (hI : CI B w cp V n c) (hm : n + s.size ≤ 1000000) :
    Calls Tryd.prog 27 #[.pointer (some cp), .string s, .int .i64 d] w (PE B cp w) := by
  have HI := Lib.hid hI
  have HM := Lib.hid hm
  have hw := wrap_d hd0
  have HP := Lib.hid hp
  have q1 : 1 ≤ s.size := hs
  have q : (0 < s.size) = True := eq_true hs
  have hz : ((s.size : Int) == 0) = false := beq_eq_false_iff_ne.mpr (by omega)
  have hd' : decide ((300 : Int) < (d : Int) + 1) = false := decide_eq_false (by omega)
  have hx : ∀ h : 0 < s.size, ((s[0]'h).toNat : Int) = 91 := fun h => (bt_at s 0 h).trans hb
  clear hI hm hd0 hp hs hd hb
  go_enter Tryd.func27, Tryd.ntmps27
  go_wp2_with (first | (go_at_call 45; (refine HP.out.mono ?_); rintro e w1 ⟨tl, x, rfl, hb1⟩; have HB1 := Lib.hid hb1; clear hb1; try exact ⟨rfl, ‹_›⟩) | (go_at_call 29; (with_reducible refine (errors_New.calls _ (some 0) _ rfl).mono ?_); rintro e w9 ⟨x9, rfl, hb9⟩; have HB9 := Lib.hid hb9; clear hb9; simp only [errX_some]; try exact ⟨rfl, ‹_›⟩))
  go_wp2
  go_ret3
  have hI0 := HI.out
  exact ⟨_, _, rfl, HB1.out.then hI0 HB9.out⟩


set_option maxRecDepth 100000 in
set_option maxHeartbeats 4000000 in
theorem value_obj {B : Nat} (K : Nat) (cp : Addr) (V : Option Addr) (n c : Nat) (w : World) (s : ByteArray) (d : Nat) (hd0 : d ≤ 300) (hs : 0 < s.size) (hd : d + 1 ≤ 300) (hb : bt s 0 = 123) {t : JV} {tl : ByteArray} (hp : Calls Tryd.prog 44 #[.pointer (some cp), .string (s.extract 1 s.size), .int .i64 ((d : Int) + 1)] w (PS B cp (n + s.size) w t tl)) (hI : CI B w cp V n c) (hm : n + s.size ≤ 1000000) :
    Calls Tryd.prog 27 #[.pointer (some cp), .string s, .int .i64 d] w (PS B cp (n + s.size) w t tl) := by
  have HI := Lib.hid hI
  have HM := Lib.hid hm
  have hw := wrap_d hd0
  have HP := Lib.hid hp
  have q1 : 1 ≤ s.size := hs
  have q : (0 < s.size) = True := eq_true hs
  have hz : ((s.size : Int) == 0) = false := beq_eq_false_iff_ne.mpr (by omega)
  have hd' : decide ((300 : Int) < (d : Int) + 1) = false := decide_eq_false (by omega)
  have hx : ∀ h : 0 < s.size, ((s[0]'h).toNat : Int) = 123 := fun h => (bt_at s 0 h).trans hb
  clear hI hm hd0 hp hs hd hb
  go_enter Tryd.func27, Tryd.ntmps27
  go_wp2_with (first | (go_at_call 44; (refine HP.out.mono ?_); rintro e w1 ⟨p, V', n', c', rfl, hp, hrest⟩; have HR := Lib.hid hrest; clear hrest; try exact ⟨rfl, ‹_›⟩))
  go_wp2
  go_ret3
  exact ⟨p, V', n', c', rfl, hp, HR.out⟩


set_option maxRecDepth 100000 in
set_option maxHeartbeats 4000000 in
theorem value_obj_bad {B : Nat} (K : Nat) (cp : Addr) (V : Option Addr) (n c : Nat) (w : World) (s : ByteArray) (d : Nat) (hd0 : d ≤ 300) (hs : 0 < s.size) (hd : d + 1 ≤ 300) (hb : bt s 0 = 123) (hp : Calls Tryd.prog 44 #[.pointer (some cp), .string (s.extract 1 s.size), .int .i64 ((d : Int) + 1)] w (PE B cp w)) (hI : CI B w cp V n c) (hm : n + s.size ≤ 1000000) :
    Calls Tryd.prog 27 #[.pointer (some cp), .string s, .int .i64 d] w (PE B cp w) := by
  have HI := Lib.hid hI
  have HM := Lib.hid hm
  have hw := wrap_d hd0
  have HP := Lib.hid hp
  have q1 : 1 ≤ s.size := hs
  have q : (0 < s.size) = True := eq_true hs
  have hz : ((s.size : Int) == 0) = false := beq_eq_false_iff_ne.mpr (by omega)
  have hd' : decide ((300 : Int) < (d : Int) + 1) = false := decide_eq_false (by omega)
  have hx : ∀ h : 0 < s.size, ((s[0]'h).toNat : Int) = 123 := fun h => (bt_at s 0 h).trans hb
  clear hI hm hd0 hp hs hd hb
  go_enter Tryd.func27, Tryd.ntmps27
  go_wp2_with (first | (go_at_call 44; (refine HP.out.mono ?_); rintro e w1 ⟨tl, x, rfl, hb1⟩; have HB1 := Lib.hid hb1; clear hb1; try exact ⟨rfl, ‹_›⟩) | (go_at_call 29; (with_reducible refine (errors_New.calls _ (some 0) _ rfl).mono ?_); rintro e w9 ⟨x9, rfl, hb9⟩; have HB9 := Lib.hid hb9; clear hb9; simp only [errX_some]; try exact ⟨rfl, ‹_›⟩))
  go_wp2
  go_ret3
  have hI0 := HI.out
  exact ⟨_, _, rfl, HB1.out.then hI0 HB9.out⟩


set_option maxRecDepth 100000 in
set_option maxHeartbeats 4000000 in
theorem value_true {B : Nat} (K : Nat) (cp : Addr) (V : Option Addr) (n c : Nat) (w : World) (s : ByteArray) (d : Nat) (hd0 : d ≤ 300) (hd : d + 1 ≤ 300) (hb : bt s 0 = 116) (hl : 4 ≤ s.size) (he : s.extract 0 4 = (⟨#[116, 114, 117, 101]⟩ : ByteArray)) (hI : CI B w cp V n c) (hm : n + s.size ≤ 1000000) :
    Calls Tryd.prog 27 #[.pointer (some cp), .string s, .int .i64 d] w (PS B cp (n + s.size) w (.lit 5) (s.extract 4 s.size)) := by
  have HI := Lib.hid hI
  have HM := Lib.hid hm
  have hw := wrap_d hd0
  have hs : 0 < s.size := by omega
  have q1 : 1 ≤ s.size := hs
  have q : (0 < s.size) = True := eq_true hs
  have hz : ((s.size : Int) == 0) = false := beq_eq_false_iff_ne.mpr (by omega)
  have hd' : decide ((300 : Int) < (d : Int) + 1) = false := decide_eq_false (by omega)
  have hx : ∀ h : 0 < s.size, ((s[0]'h).toNat : Int) = 116 := fun h => (bt_at s 0 h).trans hb
  have h4 : decide ((s.size : Int) < 4) = false := decide_eq_false (by omega)
  have hl2 : (4 ≤ s.size) = True := eq_true hl
  clear hI hm hd0 hs hd hb
  go_enter Tryd.func27, Tryd.ntmps27
  go_wp2
  go_region
  go_wp2
  go_ret3
  have hfin := ps_lit (t := 5) (tl := s.extract 4 s.size) (m := n + s.size) (T := 72) (cs := #[.slice none 0 0, .bool false, .slice none 0 0, .string emptyS, .int .i64 5]) HI.out _ rfl ⟨by decide, rfl⟩ (by rw [ByteArray.size_extract]; omega)
  exact hfin


set_option maxRecDepth 100000 in
set_option maxHeartbeats 4000000 in
theorem value_false {B : Nat} (K : Nat) (cp : Addr) (V : Option Addr) (n c : Nat) (w : World) (s : ByteArray) (d : Nat) (hd0 : d ≤ 300) (hd : d + 1 ≤ 300) (hb : bt s 0 = 102) (hl : 5 ≤ s.size) (he : s.extract 0 5 = (⟨#[102, 97, 108, 115, 101]⟩ : ByteArray)) (hI : CI B w cp V n c) (hm : n + s.size ≤ 1000000) :
    Calls Tryd.prog 27 #[.pointer (some cp), .string s, .int .i64 d] w (PS B cp (n + s.size) w (.lit 6) (s.extract 5 s.size)) := by
  have HI := Lib.hid hI
  have HM := Lib.hid hm
  have hw := wrap_d hd0
  have hs : 0 < s.size := by omega
  have q1 : 1 ≤ s.size := hs
  have q : (0 < s.size) = True := eq_true hs
  have hz : ((s.size : Int) == 0) = false := beq_eq_false_iff_ne.mpr (by omega)
  have hd' : decide ((300 : Int) < (d : Int) + 1) = false := decide_eq_false (by omega)
  have hx : ∀ h : 0 < s.size, ((s[0]'h).toNat : Int) = 102 := fun h => (bt_at s 0 h).trans hb
  have h4 : decide ((s.size : Int) < 5) = false := decide_eq_false (by omega)
  have hl2 : (5 ≤ s.size) = True := eq_true hl
  clear hI hm hd0 hs hd hb
  go_enter Tryd.func27, Tryd.ntmps27
  go_wp2
  go_region
  go_wp2
  go_ret3
  have hfin := ps_lit (t := 6) (tl := s.extract 5 s.size) (m := n + s.size) (T := 72) (cs := #[.slice none 0 0, .bool false, .slice none 0 0, .string emptyS, .int .i64 6]) HI.out _ rfl ⟨by decide, rfl⟩ (by rw [ByteArray.size_extract]; omega)
  exact hfin


set_option maxRecDepth 100000 in
set_option maxHeartbeats 4000000 in
theorem value_null {B : Nat} (K : Nat) (cp : Addr) (V : Option Addr) (n c : Nat) (w : World) (s : ByteArray) (d : Nat) (hd0 : d ≤ 300) (hd : d + 1 ≤ 300) (hb : bt s 0 = 110) (hl : 4 ≤ s.size) (he : s.extract 0 4 = (⟨#[110, 117, 108, 108]⟩ : ByteArray)) (hI : CI B w cp V n c) (hm : n + s.size ≤ 1000000) :
    Calls Tryd.prog 27 #[.pointer (some cp), .string s, .int .i64 d] w (PS B cp (n + s.size) w (.lit 0) (s.extract 4 s.size)) := by
  have HI := Lib.hid hI
  have HM := Lib.hid hm
  have hw := wrap_d hd0
  have hs : 0 < s.size := by omega
  have q1 : 1 ≤ s.size := hs
  have q : (0 < s.size) = True := eq_true hs
  have hz : ((s.size : Int) == 0) = false := beq_eq_false_iff_ne.mpr (by omega)
  have hd' : decide ((300 : Int) < (d : Int) + 1) = false := decide_eq_false (by omega)
  have hx : ∀ h : 0 < s.size, ((s[0]'h).toNat : Int) = 110 := fun h => (bt_at s 0 h).trans hb
  have h4 : decide ((s.size : Int) < 4) = false := decide_eq_false (by omega)
  have hl2 : (4 ≤ s.size) = True := eq_true hl
  clear hI hm hd0 hs hd hb
  go_enter Tryd.func27, Tryd.ntmps27
  go_wp2
  go_region
  go_wp2
  go_ret3
  have hfin := ps_lit (t := 0) (tl := s.extract 4 s.size) (m := n + s.size) (T := 72) (cs := #[.slice none 0 0, .bool false, .slice none 0 0, .string emptyS, .int .i64 0]) HI.out _ rfl ⟨by decide, rfl⟩ (by rw [ByteArray.size_extract]; omega)
  exact hfin


set_option maxRecDepth 100000 in
set_option maxHeartbeats 4000000 in
theorem value_true_short {B : Nat} (K : Nat) (cp : Addr) (V : Option Addr) (n c : Nat) (w : World) (s : ByteArray) (d : Nat) (hd0 : d ≤ 300) (hs : 0 < s.size) (hd : d + 1 ≤ 300) (hb : bt s 0 = 116) (hl : s.size < 4) (hI : CI B w cp V n c) (hm : n + s.size ≤ 1000000) :
    Calls Tryd.prog 27 #[.pointer (some cp), .string s, .int .i64 d] w (PE B cp w) := by
  have HI := Lib.hid hI
  have HM := Lib.hid hm
  have hw := wrap_d hd0
  have q1 : 1 ≤ s.size := hs
  have q : (0 < s.size) = True := eq_true hs
  have hz : ((s.size : Int) == 0) = false := beq_eq_false_iff_ne.mpr (by omega)
  have hd' : decide ((300 : Int) < (d : Int) + 1) = false := decide_eq_false (by omega)
  have hx : ∀ h : 0 < s.size, ((s[0]'h).toNat : Int) = 116 := fun h => (bt_at s 0 h).trans hb
  have h4 : decide ((s.size : Int) < 4) = true := decide_eq_true (by omega)
  clear hI hm hd0 hs hd hb hl
  go_enter Tryd.func27, Tryd.ntmps27
  go_wp2_with (first | (go_at_call 29; (with_reducible refine (errors_New.calls _ (some 0) _ rfl).mono ?_); rintro e w9 ⟨x9, rfl, hb9⟩; have HB9 := Lib.hid hb9; clear hb9; simp only [errX_some]; try exact ⟨rfl, ‹_›⟩))
  go_wp2
  go_ret3
  exact ⟨_, _, rfl, HI.out.stepB HB9.out⟩


set_option maxRecDepth 100000 in
set_option maxHeartbeats 4000000 in
theorem value_true_ne {B : Nat} (K : Nat) (cp : Addr) (V : Option Addr) (n c : Nat) (w : World) (s : ByteArray) (d : Nat) (hd0 : d ≤ 300) (hd : d + 1 ≤ 300) (hb : bt s 0 = 116) (hl : 4 ≤ s.size) (he : s.extract 0 4 ≠ (⟨#[116, 114, 117, 101]⟩ : ByteArray)) (hI : CI B w cp V n c) (hm : n + s.size ≤ 1000000) :
    Calls Tryd.prog 27 #[.pointer (some cp), .string s, .int .i64 d] w (PE B cp w) := by
  have HI := Lib.hid hI
  have HM := Lib.hid hm
  have hw := wrap_d hd0
  have hs : 0 < s.size := by omega
  have q1 : 1 ≤ s.size := hs
  have q : (0 < s.size) = True := eq_true hs
  have hz : ((s.size : Int) == 0) = false := beq_eq_false_iff_ne.mpr (by omega)
  have hd' : decide ((300 : Int) < (d : Int) + 1) = false := decide_eq_false (by omega)
  have hx : ∀ h : 0 < s.size, ((s[0]'h).toNat : Int) = 116 := fun h => (bt_at s 0 h).trans hb
  have h4 : decide ((s.size : Int) < 4) = false := decide_eq_false (by omega)
  have he2 : ((s.extract 0 4).toList == [116, 114, 117, 101]) = false := ext_ne he (by decide)
  clear hI hm hd0 hs hd hb
  go_enter Tryd.func27, Tryd.ntmps27
  go_wp2_with (first | (go_at_call 29; (with_reducible refine (errors_New.calls _ (some 0) _ rfl).mono ?_); rintro e w9 ⟨x9, rfl, hb9⟩; have HB9 := Lib.hid hb9; clear hb9; simp only [errX_some]; try exact ⟨rfl, ‹_›⟩))
  go_wp2
  go_ret3
  exact ⟨_, _, rfl, HI.out.stepB HB9.out⟩


set_option maxRecDepth 100000 in
set_option maxHeartbeats 4000000 in
theorem value_false_short {B : Nat} (K : Nat) (cp : Addr) (V : Option Addr) (n c : Nat) (w : World) (s : ByteArray) (d : Nat) (hd0 : d ≤ 300) (hs : 0 < s.size) (hd : d + 1 ≤ 300) (hb : bt s 0 = 102) (hl : s.size < 5) (hI : CI B w cp V n c) (hm : n + s.size ≤ 1000000) :
    Calls Tryd.prog 27 #[.pointer (some cp), .string s, .int .i64 d] w (PE B cp w) := by
  have HI := Lib.hid hI
  have HM := Lib.hid hm
  have hw := wrap_d hd0
  have q1 : 1 ≤ s.size := hs
  have q : (0 < s.size) = True := eq_true hs
  have hz : ((s.size : Int) == 0) = false := beq_eq_false_iff_ne.mpr (by omega)
  have hd' : decide ((300 : Int) < (d : Int) + 1) = false := decide_eq_false (by omega)
  have hx : ∀ h : 0 < s.size, ((s[0]'h).toNat : Int) = 102 := fun h => (bt_at s 0 h).trans hb
  have h4 : decide ((s.size : Int) < 5) = true := decide_eq_true (by omega)
  clear hI hm hd0 hs hd hb hl
  go_enter Tryd.func27, Tryd.ntmps27
  go_wp2_with (first | (go_at_call 29; (with_reducible refine (errors_New.calls _ (some 0) _ rfl).mono ?_); rintro e w9 ⟨x9, rfl, hb9⟩; have HB9 := Lib.hid hb9; clear hb9; simp only [errX_some]; try exact ⟨rfl, ‹_›⟩))
  go_wp2
  go_ret3
  exact ⟨_, _, rfl, HI.out.stepB HB9.out⟩


set_option maxRecDepth 100000 in
set_option maxHeartbeats 4000000 in
theorem value_false_ne {B : Nat} (K : Nat) (cp : Addr) (V : Option Addr) (n c : Nat) (w : World) (s : ByteArray) (d : Nat) (hd0 : d ≤ 300) (hd : d + 1 ≤ 300) (hb : bt s 0 = 102) (hl : 5 ≤ s.size) (he : s.extract 0 5 ≠ (⟨#[102, 97, 108, 115, 101]⟩ : ByteArray)) (hI : CI B w cp V n c) (hm : n + s.size ≤ 1000000) :
    Calls Tryd.prog 27 #[.pointer (some cp), .string s, .int .i64 d] w (PE B cp w) := by
  have HI := Lib.hid hI
  have HM := Lib.hid hm
  have hw := wrap_d hd0
  have hs : 0 < s.size := by omega
  have q1 : 1 ≤ s.size := hs
  have q : (0 < s.size) = True := eq_true hs
  have hz : ((s.size : Int) == 0) = false := beq_eq_false_iff_ne.mpr (by omega)
  have hd' : decide ((300 : Int) < (d : Int) + 1) = false := decide_eq_false (by omega)
  have hx : ∀ h : 0 < s.size, ((s[0]'h).toNat : Int) = 102 := fun h => (bt_at s 0 h).trans hb
  have h4 : decide ((s.size : Int) < 5) = false := decide_eq_false (by omega)
  have he2 : ((s.extract 0 5).toList == [102, 97, 108, 115, 101]) = false := ext_ne he (by decide)
  clear hI hm hd0 hs hd hb
  go_enter Tryd.func27, Tryd.ntmps27
  go_wp2_with (first | (go_at_call 29; (with_reducible refine (errors_New.calls _ (some 0) _ rfl).mono ?_); rintro e w9 ⟨x9, rfl, hb9⟩; have HB9 := Lib.hid hb9; clear hb9; simp only [errX_some]; try exact ⟨rfl, ‹_›⟩))
  go_wp2
  go_ret3
  exact ⟨_, _, rfl, HI.out.stepB HB9.out⟩


set_option maxRecDepth 100000 in
set_option maxHeartbeats 4000000 in
theorem value_nan_short {B : Nat} (K : Nat) (cp : Addr) (V : Option Addr) (n c : Nat) (w : World) (s : ByteArray) (d : Nat) (hd0 : d ≤ 300) (hs : 0 < s.size) (hd : d + 1 ≤ 300) (hb : bt s 0 = 110) (hl : s.size < 3) (hI : CI B w cp V n c) (hm : n + s.size ≤ 1000000) :
    Calls Tryd.prog 27 #[.pointer (some cp), .string s, .int .i64 d] w (PE B cp w) := by
  have HI := Lib.hid hI
  have HM := Lib.hid hm
  have hw := wrap_d hd0
  have q1 : 1 ≤ s.size := hs
  have q : (0 < s.size) = True := eq_true hs
  have hz : ((s.size : Int) == 0) = false := beq_eq_false_iff_ne.mpr (by omega)
  have hd' : decide ((300 : Int) < (d : Int) + 1) = false := decide_eq_false (by omega)
  have hx : ∀ h : 0 < s.size, ((s[0]'h).toNat : Int) = 110 := fun h => (bt_at s 0 h).trans hb
  have h4 : decide ((s.size : Int) < 4) = true := decide_eq_true (by omega)
  have h3 : decide (3 ≤ (s.size : Int)) = false := decide_eq_false (by omega)
  clear hI hm hd0 hs hd hb hl
  go_enter Tryd.func27, Tryd.ntmps27
  go_wp2_with (first | (go_at_call 29; (with_reducible refine (errors_New.calls _ (some 0) _ rfl).mono ?_); rintro e w9 ⟨x9, rfl, hb9⟩; have HB9 := Lib.hid hb9; clear hb9; simp only [errX_some]; try exact ⟨rfl, ‹_›⟩))
  go_wp2
  go_ret3
  exact ⟨_, _, rfl, HI.out.stepB HB9.out⟩


set_option maxRecDepth 100000 in
set_option maxHeartbeats 4000000 in
theorem value_nan3_bad {B : Nat} (K : Nat) (cp : Addr) (V : Option Addr) (n c : Nat) (w : World) (s : ByteArray) (d : Nat) (hd0 : d ≤ 300) (hd : d + 1 ≤ 300) (hb : bt s 0 = 110) (hl : s.size = 3) (hp : fastjson_zzFold.f K (s.extract 0 3) (⟨#[110, 97, 110]⟩ : ByteArray) = some false) (hI : CI B w cp V n c) (hm : n + s.size ≤ 1000000) :
    Calls Tryd.prog 27 #[.pointer (some cp), .string s, .int .i64 d] w (PE B cp w) := by
  have HI := Lib.hid hI
  have HM := Lib.hid hm
  have hw := wrap_d hd0
  have HP := Lib.hid hp
  have hs : 0 < s.size := by omega
  have hl3 : 3 ≤ s.size := by omega
  have q1 : 1 ≤ s.size := hs
  have q : (0 < s.size) = True := eq_true hs
  have hz : ((s.size : Int) == 0) = false := beq_eq_false_iff_ne.mpr (by omega)
  have hd' : decide ((300 : Int) < (d : Int) + 1) = false := decide_eq_false (by omega)
  have hx : ∀ h : 0 < s.size, ((s[0]'h).toNat : Int) = 110 := fun h => (bt_at s 0 h).trans hb
  have h4 : decide ((s.size : Int) < 4) = true := decide_eq_true (by omega)
  have h3 : decide (3 ≤ (s.size : Int)) = true := decide_eq_true (by omega)
  clear hI hm hd0 hs hd hb hl hp
  go_enter Tryd.func27, Tryd.ntmps27
  go_wp2_with (first | (go_at_call 48; (with_reducible refine (fastjson_zzFold.calls K (s.extract 0 3) (⟨#[110, 97, 110]⟩ : ByteArray) false _ HP.out).mono ?_); rintro e w1 ⟨rfl, ⟨nd, rfl⟩⟩; try exact ⟨rfl, ‹_›⟩) | (go_at_call 29; (with_reducible refine (errors_New.calls _ (some 0) _ rfl).mono ?_); rintro e w9 ⟨x9, rfl, hb9⟩; have HB9 := Lib.hid hb9; clear hb9; simp only [errX_some]; try exact ⟨rfl, ‹_›⟩))
  go_wp2
  go_ret3
  exact ⟨_, _, rfl, HI.out.stepB (Below.ofDrewN' (k := nd) HB9.out)⟩


set_option maxRecDepth 100000 in
set_option maxHeartbeats 4000000 in
theorem value_nan3 {B : Nat} (K : Nat) (cp : Addr) (V : Option Addr) (n c : Nat) (w : World) (s : ByteArray) (d : Nat) (hd0 : d ≤ 300) (hd : d + 1 ≤ 300) (hb : bt s 0 = 110) (hl : s.size = 3) (hp : fastjson_zzFold.f K (s.extract 0 3) (⟨#[110, 97, 110]⟩ : ByteArray) = some true) (hI : CI B w cp V n c) (hm : n + s.size ≤ 1000000) :
    Calls Tryd.prog 27 #[.pointer (some cp), .string s, .int .i64 d] w (PS B cp (n + s.size) w (.num (s.extract 0 3)) (s.extract 3 s.size)) := by
  have HI := Lib.hid hI
  have HM := Lib.hid hm
  have hw := wrap_d hd0
  have HP := Lib.hid hp
  have hs : 0 < s.size := by omega
  have hl3 : 3 ≤ s.size := by omega
  have q1 : 1 ≤ s.size := hs
  have q : (0 < s.size) = True := eq_true hs
  have hz : ((s.size : Int) == 0) = false := beq_eq_false_iff_ne.mpr (by omega)
  have hd' : decide ((300 : Int) < (d : Int) + 1) = false := decide_eq_false (by omega)
  have hx : ∀ h : 0 < s.size, ((s[0]'h).toNat : Int) = 110 := fun h => (bt_at s 0 h).trans hb
  have h4 : decide ((s.size : Int) < 4) = true := decide_eq_true (by omega)
  have h3 : decide (3 ≤ (s.size : Int)) = true := decide_eq_true (by omega)
  clear hI hm hd0 hs hd hb hl hp
  go_enter Tryd.func27, Tryd.ntmps27
  go_wp2_with (first | (go_at_call 48; (with_reducible refine (fastjson_zzFold.calls K (s.extract 0 3) (⟨#[110, 97, 110]⟩ : ByteArray) true _ HP.out).mono ?_); rintro e w1 ⟨rfl, ⟨nd, rfl⟩⟩; try exact ⟨rfl, ‹_›⟩))
  have hI1 : CI B (w.drewN nd) cp V n c := HI.out.drewN nd
  have hm' := HM.out
  refine (getValue_gv cp V n c _ hI1 (by omega)).mono ?_
  rintro e w2 ⟨p, V2, c2, rfl, hp, hI2, hS2, hz2⟩
  obtain ⟨pb, po, rfl⟩ : ∃ pb po, p = ⟨pb, po, none⟩ := ⟨p.block, p.off, by cases p; simp_all⟩
  obtain ⟨c3, f3, -⟩ := hz2 3 _ rfl
  obtain ⟨c4, f4, -⟩ := hz2 4 _ rfl
  simp only [fld] at c3 f3 c4 f4
  have HI2 := Lib.hid hI2
  have HS2 := Lib.hid hS2
  have HZ2 := Lib.hid hz2
  clear hI1 hI2 hS2 hz2 hm'
  simp only []
  go_wp2
  go_quiet (fail)
  go_wp2
  go_ret3
  have hI0 := HI.out
  have hS1 : Step B cp w (w.drewN nd) := (Step.refl B cp w).frame ((Frame.refl (fun _ => False) w).drewN nd) hI0.low (fun hx => hx.elim) hI0.row.block (fun _ hx => hx.elim) (fun _ hx => hx.elim)
  have hZ : ∀ j v, zeroV[j]? = some v → w2.cell? (fld ⟨pb, po, none⟩ j) = some v ∧ w2.frozen? (fld ⟨pb, po, none⟩ j) = false ∧ Own cp w w2 (fld ⟨pb, po, none⟩ j) := by
    intro j v hj
    obtain ⟨h1, h2, h3⟩ := HZ2.out j v hj
    exact ⟨h1, h2, h3.1, fun hs => h3.2 (hS1.keep _ hs).1⟩
  have hm' := (ByteArray.size_extract : (s.extract 3 s.size).size = _)
  refine PS.drewN (w' := (w2.setCell ⟨pb, po + 4, none⟩ (.int .i64 4)).setCell ⟨pb, po + 3, none⟩ (.string (s.extract 0 3))) ?_ _
  exact ps_two rfl HI2.out (hS1.trans HS2.out) hZ rfl (by omega) rfl hI0.low (fun a ha => hI0.own ha) (fun own hp h3 h4 o3 o4 => .num hp h3 h4 o3 o4)


set_option maxRecDepth 100000 in
set_option maxHeartbeats 4000000 in
theorem value_nan4_bad {B : Nat} (K : Nat) (cp : Addr) (V : Option Addr) (n c : Nat) (w : World) (s : ByteArray) (d : Nat) (hd0 : d ≤ 300) (hd : d + 1 ≤ 300) (hb : bt s 0 = 110) (hl4 : 4 ≤ s.size) (he : s.extract 0 4 ≠ (⟨#[110, 117, 108, 108]⟩ : ByteArray)) (hp : fastjson_zzFold.f K (s.extract 0 3) (⟨#[110, 97, 110]⟩ : ByteArray) = some false) (hI : CI B w cp V n c) (hm : n + s.size ≤ 1000000) :
    Calls Tryd.prog 27 #[.pointer (some cp), .string s, .int .i64 d] w (PE B cp w) := by
  have HI := Lib.hid hI
  have HM := Lib.hid hm
  have hw := wrap_d hd0
  have HP := Lib.hid hp
  have hs : 0 < s.size := by omega
  have hl3 : 3 ≤ s.size := by omega
  have q1 : 1 ≤ s.size := hs
  have q : (0 < s.size) = True := eq_true hs
  have hz : ((s.size : Int) == 0) = false := beq_eq_false_iff_ne.mpr (by omega)
  have hd' : decide ((300 : Int) < (d : Int) + 1) = false := decide_eq_false (by omega)
  have hx : ∀ h : 0 < s.size, ((s[0]'h).toNat : Int) = 110 := fun h => (bt_at s 0 h).trans hb
  have h4 : decide ((s.size : Int) < 4) = false := decide_eq_false (by omega)
  have h3 : decide (3 ≤ (s.size : Int)) = true := decide_eq_true (by omega)
  have he2 : ((s.extract 0 4).toList == [110, 117, 108, 108]) = false := ext_ne he (by decide)
  clear hI hm hd0 hs hd hb hp
  go_enter Tryd.func27, Tryd.ntmps27
  go_wp2_with (first | (go_at_call 48; (with_reducible refine (fastjson_zzFold.calls K (s.extract 0 3) (⟨#[110, 97, 110]⟩ : ByteArray) false _ HP.out).mono ?_); rintro e w1 ⟨rfl, ⟨nd, rfl⟩⟩; try exact ⟨rfl, ‹_›⟩) | (go_at_call 29; (with_reducible refine (errors_New.calls _ (some 0) _ rfl).mono ?_); rintro e w9 ⟨x9, rfl, hb9⟩; have HB9 := Lib.hid hb9; clear hb9; simp only [errX_some]; try exact ⟨rfl, ‹_›⟩))
  go_wp2
  go_ret3
  exact ⟨_, _, rfl, HI.out.stepB (Below.ofDrewN' (k := nd) HB9.out)⟩


set_option maxRecDepth 100000 in
set_option maxHeartbeats 4000000 in
theorem value_nan4 {B : Nat} (K : Nat) (cp : Addr) (V : Option Addr) (n c : Nat) (w : World) (s : ByteArray) (d : Nat) (hd0 : d ≤ 300) (hd : d + 1 ≤ 300) (hb : bt s 0 = 110) (hl4 : 4 ≤ s.size) (he : s.extract 0 4 ≠ (⟨#[110, 117, 108, 108]⟩ : ByteArray)) (hp : fastjson_zzFold.f K (s.extract 0 3) (⟨#[110, 97, 110]⟩ : ByteArray) = some true) (hI : CI B w cp V n c) (hm : n + s.size ≤ 1000000) :
    Calls Tryd.prog 27 #[.pointer (some cp), .string s, .int .i64 d] w (PS B cp (n + s.size) w (.num (s.extract 0 3)) (s.extract 3 s.size)) := by
  have HI := Lib.hid hI
  have HM := Lib.hid hm
  have hw := wrap_d hd0
  have HP := Lib.hid hp
  have hs : 0 < s.size := by omega
  have hl3 : 3 ≤ s.size := by omega
  have q1 : 1 ≤ s.size := hs
  have q : (0 < s.size) = True := eq_true hs
  have hz : ((s.size : Int) == 0) = false := beq_eq_false_iff_ne.mpr (by omega)
  have hd' : decide ((300 : Int) < (d : Int) + 1) = false := decide_eq_false (by omega)
  have hx : ∀ h : 0 < s.size, ((s[0]'h).toNat : Int) = 110 := fun h => (bt_at s 0 h).trans hb
  have h4 : decide ((s.size : Int) < 4) = false := decide_eq_false (by omega)
  have h3 : decide (3 ≤ (s.size : Int)) = true := decide_eq_true (by omega)
  have he2 : ((s.extract 0 4).toList == [110, 117, 108, 108]) = false := ext_ne he (by decide)
  clear hI hm hd0 hs hd hb hp
  go_enter Tryd.func27, Tryd.ntmps27
  go_wp2_with (first | (go_at_call 48; (with_reducible refine (fastjson_zzFold.calls K (s.extract 0 3) (⟨#[110, 97, 110]⟩ : ByteArray) true _ HP.out).mono ?_); rintro e w1 ⟨rfl, ⟨nd, rfl⟩⟩; try exact ⟨rfl, ‹_›⟩))
  have hI1 : CI B (w.drewN nd) cp V n c := HI.out.drewN nd
  have hm' := HM.out
  refine (getValue_gv cp V n c _ hI1 (by omega)).mono ?_
  rintro e w2 ⟨p, V2, c2, rfl, hp, hI2, hS2, hz2⟩
  obtain ⟨pb, po, rfl⟩ : ∃ pb po, p = ⟨pb, po, none⟩ := ⟨p.block, p.off, by cases p; simp_all⟩
  obtain ⟨c3, f3, -⟩ := hz2 3 _ rfl
  obtain ⟨c4, f4, -⟩ := hz2 4 _ rfl
  simp only [fld] at c3 f3 c4 f4
  have HI2 := Lib.hid hI2
  have HS2 := Lib.hid hS2
  have HZ2 := Lib.hid hz2
  clear hI1 hI2 hS2 hz2 hm'
  simp only []
  go_wp2
  go_quiet (fail)
  go_wp2
  go_ret3
  have hI0 := HI.out
  have hS1 : Step B cp w (w.drewN nd) := (Step.refl B cp w).frame ((Frame.refl (fun _ => False) w).drewN nd) hI0.low (fun hx => hx.elim) hI0.row.block (fun _ hx => hx.elim) (fun _ hx => hx.elim)
  have hZ : ∀ j v, zeroV[j]? = some v → w2.cell? (fld ⟨pb, po, none⟩ j) = some v ∧ w2.frozen? (fld ⟨pb, po, none⟩ j) = false ∧ Own cp w w2 (fld ⟨pb, po, none⟩ j) := by
    intro j v hj
    obtain ⟨h1, h2, h3⟩ := HZ2.out j v hj
    exact ⟨h1, h2, h3.1, fun hs => h3.2 (hS1.keep _ hs).1⟩
  have hm' := (ByteArray.size_extract : (s.extract 3 s.size).size = _)
  refine PS.drewN (w' := (w2.setCell ⟨pb, po + 4, none⟩ (.int .i64 4)).setCell ⟨pb, po + 3, none⟩ (.string (s.extract 0 3))) ?_ _
  exact ps_two rfl HI2.out (hS1.trans HS2.out) hZ rfl (by omega) rfl hI0.low (fun a ha => hI0.own ha) (fun own hp h3 h4 o3 o4 => .num hp h3 h4 o3 o4)


end Go.Proofs.YtfoloneeibgoiaaDoor.Fjh

/- A row of pointers (a Value's array): what an append of one pointer leaves, with room and without. -/
set_option linter.unusedVariables false
namespace Go.Proofs.YtfoloneeibgoiaaDoor.Fjh
open Go Go.RowKit Go.Proofs.YtfoloneeibgoiaaDoorW.PrintWords

/-- A row of n one-cell elements with room for c: its cells are there and may be written. -/
structure PRow (w : World) (V : Option Addr) (n c : Nat) : Prop where
  le : n ≤ c
  room : c ≤ 9223372036854775807
  arr : 0 < c → ∃ vb, V = some ⟨vb, 0, none⟩ ∧ ∀ i, i < c → (w.cell? ⟨vb, i, none⟩).isSome = true ∧ w.frozen? ⟨vb, i, none⟩ = false
  nil : c = 0 → V = none

/-- What an append of the pointer q leaves. -/
structure AR (w : World) (V : Option Addr) (n : Nat) (q : Option Addr) (w' : World) (V' : Option Addr) (c' : Nat) : Prop where
  row : PRow w' V' (n + 1) c'
  frame : Frame (fun x => ∃ vb, V = some ⟨vb, 0, none⟩ ∧ x = ⟨vb, n, none⟩) w w'
  place : V' = V ∨ ∀ b, V' = some b → w.heap.size ≤ b.block
  last : ∀ b, V' = some b → w'.cell? ⟨b.block, n, none⟩ = some (.pointer q)
  old : ∀ b b', V = some b → V' = some b' → ∀ i, i < n → w'.cell? ⟨b'.block, i, none⟩ = w.cell? ⟨b.block, i, none⟩
  full : ∃ b, V' = some ⟨b, 0, none⟩ ∧ b < w'.heap.size

theorem add_zero (b j : Nat) : (⟨b, 0, none⟩ : Addr).add j = ⟨b, j, none⟩ := by unfold Addr.add; split <;> simp_all

theorem lt_of_heap {w : World} {k : Nat} {o : Obj} (h : w.heap[k]? = some o) : k < w.heap.size := by
  rcases Nat.lt_or_ge k w.heap.size with h' | h'
  · exact h'
  · rw [Array.getElem?_eq_none h'] at h; cases h

theorem frozen_at {w : World} {k : Nat} {cur : Array Value} {t : TypeId} (h : w.heap[k]? = some (.cells cur t (0, 0))) (i : Nat) : w.frozen? ⟨k, i, none⟩ = false := by
  simp [World.frozen?, h]

theorem ar_room {w : World} {V : Option Addr} {n c : Nat} {q : Option Addr} (h : PRow w V n c) (hlt : n < c) : ∃ vb, V = some ⟨vb, 0, none⟩ ∧ AR w V n q (w.setCell ⟨vb, n, none⟩ (.pointer q)) V c := by
  obtain ⟨vb, rfl, hg⟩ := h.arr (by omega)
  obtain ⟨old, hold⟩ := Option.isSome_iff_exists.mp (hg n hlt).1
  have hsame : (w.setCell ⟨vb, n, none⟩ (.pointer q)).cell? ⟨vb, n, none⟩ = some (.pointer q) := World.cell?_setCell_same _ _ _ hold
  refine ⟨vb, rfl, ⟨by omega, h.room, fun _ => ⟨vb, rfl, fun i hi => ⟨?_, (World.frozen?_setCell _ _ _ _).trans (hg i hi).2⟩⟩, fun h0 => by omega⟩, ?_, .inl rfl, ?_, ?_, ⟨vb, rfl, World.block_lt_of_cell? _ _ hsame⟩⟩
  · by_cases e : i = n
    · subst e; rw [hsame]; rfl
    · rw [World.cell?_setCell_other _ _ _ _ (fun e' => e (by have := congrArg Addr.off e'; simp only at this; omega))]
      exact (hg i hi).1
  · exact (Frame.refl _ w).setCell ⟨vb, rfl, rfl⟩ _
  · rintro b hb
    obtain rfl := Option.some.inj hb
    exact hsame
  · rintro b b' hb hb' i hi
    obtain rfl := Option.some.inj hb
    obtain rfl := Option.some.inj hb'
    exact World.cell?_setCell_other _ _ _ _ (fun e => by have := congrArg Addr.off e; simp only at this; omega)

theorem ar_full {T : TypeId} {w w' : World} {V : Option Addr} {n C : Nat} {q : Option Addr} {olds : List Value} (h : PRow w V n n) (hol : olds.length = n) (hC1 : n + 1 ≤ C) (hC2 : C ≤ 9223372036854775807) {zc : Array Value} (hzc : zc.size = 1)
    (hold2 : ∀ b, V = some b → ∀ j v, olds[j]? = some v → w.cell? (b.add j) = some v) (hV : ∀ b, V = some b → b = ⟨b.block, 0, none⟩)
    (e : w' = w.drew.alloc (.cells (olds.toArray ++ #[.pointer q] ++ Builtin.zeroCells zc (C - (n + 1))) T)) : AR w V n q w' (some ⟨w.heap.size, 0, none⟩) C := by
  have hnew : w'.heap[w.heap.size]? = some (.cells (olds.toArray ++ #[.pointer q] ++ Builtin.zeroCells zc (C - (n + 1))) T (0, 0)) := by
    rw [e]; exact heap_alloc_new w.drew _
  refine ⟨⟨hC1, hC2, fun _ => ⟨_, rfl, fun i hi => ⟨?_, frozen_at hnew i⟩⟩, fun h0 => by omega⟩, ?_, .inr ?_, ?_, ?_, ⟨_, rfl, lt_of_heap hnew⟩⟩
  · have hsz : (olds.toArray ++ #[Value.pointer q] ++ Builtin.zeroCells zc (C - (n + 1))).size = C := by
      rw [Array.size_append, Array.size_append, List.size_toArray, hol, size_zeroCells, hzc]
      simp
      omega
    rw [cell_at hnew, Array.getElem?_eq_getElem (by omega)]; rfl
  · rw [e]; exact (Frame.refl _ w).drew.alloc _
  · rintro b hb
    obtain rfl := Option.some.inj hb
    exact Nat.le_refl _
  · rintro b hb
    obtain rfl := Option.some.inj hb
    rw [cell_at hnew, Array.append_assoc, Array.getElem?_append_right (by rw [List.size_toArray]; omega), List.size_toArray, hol, Nat.sub_self, Array.getElem?_append_left (by simp)]
    rfl
  · rintro b b' hb hb' i hi
    obtain rfl := Option.some.inj hb'
    have hlt : i < olds.length := by omega
    have h1 := hold2 _ hb i olds[i] (List.getElem?_eq_getElem hlt)
    rw [hV b hb] at h1
    have e2 := add_zero b.block i
    rw [e2] at h1
    rw [h1, cell_at hnew, Array.append_assoc, Array.getElem?_append_left (by rw [List.size_toArray]; exact hlt)]
    simp [hlt]

set_option maxRecDepth 100000 in
theorem wpList_append_ptr {P : Program} {w : World} {ops : Array Oper} {rest : List Oper} {o : Oper} {a : Act} {Q : Exit → Act → World → Prop} (hgd : o.guard = none) (s x : Operand) (t : TypeId)
    (ho : o.op = .call { callee := .builtin .append, args := #[s, x], argTypes := #[t, t] })
    (e : TypeId) (i : TypeInfo) (z : Value) (bytes : Nat) (ht : P.underlying t = some (.slice e)) (hi : P.info? e = some i) (hz : i.zero = some z) (hsize : i.size = 1) (hby : i.bytes = bytes) (hzc : z.cells.size = 1) (hb : bytes ≤ 1000)
    (V : Option Addr) (n c : Nat) (hs : a.eval s = .slice V n c) (hR : PRow w V n c) (hn : n ≤ 1000000)
    (ad : Addr) (q : Option Addr) (cx : Nat) (hx : a.eval x = .slice (some ad) 1 cx) (hnews : ∀ j v, [Value.pointer q][j]? = some v → w.cell? (ad.add j) = some v)
    (h : ∀ V' c' w', Hid (AR w V n q w' V' c') → wpList P ops Q rest (a.put o.dst (.slice V' (n + 1) c')) w') :
    wpList P ops Q (o :: rest) a w := by
  rcases Nat.lt_or_ge n c with hlt | hge
  · obtain ⟨vb, rfl, har⟩ := ar_room (q := q) hR hlt
    obtain ⟨vb', e1, hg⟩ := hR.arr (by omega)
    obtain rfl := (Addr.mk.inj (Option.some.inj e1)).1
    refine wpList_plain hgd fun K hK => ?_
    have hr := run_append_room_cells (P := P) w t o.type e i ht hi vb 0 n c ad 1 cx [.pointer q] (by simp [hsize]) hnews (by simp [Value.oneCell']) (by omega)
      (fun j hj => by
        have : j = 0 := by simpa using hj
        subst this
        rw [hsize]; simpa using (hg n hlt).1)
      (fun j hj => by
        have : j = 0 := by simpa using hj
        subst this
        rw [hsize]; simpa using (hg n hlt).2)
    have e3 : w.setCells vb (0 + n * i.size) [.pointer q] = w.setCell ⟨vb, n, none⟩ (.pointer q) := by
      rw [hsize]; simp [World.setCells]
    rw [e3] at hr
    unfold Oper.wp execOp
    simp only [ho, resolve, invoke, builtin, Sem.run_bind, Sem.run_pure, Result.andThen_ok, List.map_toArray, List.map_cons, List.map_nil, hs, hx, hr]
    exact hK _ _ (h _ _ _ (Lib.hid har))
  · obtain rfl : c = n := Nat.le_antisymm hge hR.le
    obtain ⟨olds, hol, hVn, hol2, hV⟩ : ∃ olds : List Value, olds.length = c ∧ (V = none → c = 0 ∧ c = 0) ∧ (∀ b, V = some b → ∀ j v, olds[j]? = some v → w.cell? (b.add j) = some v) ∧ ∀ b, V = some b → b = ⟨b.block, 0, none⟩ := by
      rcases Nat.eq_zero_or_pos c with h0 | h0
      · exact ⟨[], by simp [h0], fun _ => ⟨h0, h0⟩, fun b hb j v hj => by simp at hj, fun b hb => by rw [hR.nil h0] at hb; cases hb⟩
      · obtain ⟨vb, rfl, hg⟩ := hR.arr h0
        refine ⟨(List.range c).map fun i => (w.cell? ⟨vb, i, none⟩).getD .nilIface, by simp, (fun e' => by cases e'), fun b hb j v hj => ?_, fun b hb => by obtain rfl := Option.some.inj hb; rfl⟩
        obtain rfl := Option.some.inj hb
        rw [add_zero vb j]
        rw [List.getElem?_map] at hj
        rcases Nat.lt_or_ge j c with hlt | hge
        · rw [List.getElem?_range hlt] at hj
          obtain ⟨o, ho'⟩ := Option.isSome_iff_exists.mp (hg j hlt).1
          rw [Option.map_some, ho'] at hj
          rw [ho', ← hj]; rfl
        · rw [List.getElem?_eq_none (by simpa using hge)] at hj
          cases hj
    refine wpList_append_full hgd s x t ho e i z 1 bytes ht hi hz hsize hby V c c olds hs (by omega) hVn hol2 ad 1 cx [.pointer q] hx (by simp) hnews (by omega) (by omega) (by omega) (by
      have : (c + 1) * bytes ≤ 1000001 * 1000 := Nat.mul_le_mul (by omega) hb
      simp only [Nat.reduceMul] at this; omega) ?_
    intro C w' hC1 hC2 hW
    exact h _ _ _ (Lib.hid (ar_full hR hol hC1 hC2 hzc hol2 hV hW.out))

end Go.Proofs.YtfoloneeibgoiaaDoor.Fjh

/- fastjson's parseArray: what its loop keeps, each step in plain Lean. -/
set_option linter.unusedVariables false
namespace Go.Proofs.YtfoloneeibgoiaaDoor.Fjh
open Go Go.RowKit Go.Proofs.YtfoloneeibgoiaaDoorW.PrintWords

/-- The cells that the elements own: new, none of the value's fields, none of its row. -/
def AOwn (cp : Addr) (w0 w : World) (p : Addr) (A : Option Addr) (x : Addr) : Prop := Own cp w0 w x ∧ (∀ j, j < 5 → x ≠ fld p j) ∧ ∀ b, A = some b → x.block ≠ b.block
/-- .. and none of the elder elements'. -/
def QOwn (cp : Addr) (w0 w : World) (p : Addr) (A : Option Addr) (O : Nat → Addr → Prop) (x : Addr) : Prop := AOwn cp w0 w p A x ∧ ∀ i, ¬ O i x

/-- Of an array that is being read: acc is read, sz bytes at most are still to come. -/
structure ArrI (B : Nat) (cp : Addr) (m : Nat) (w0 : World) (p : Addr) (A : Option Addr) (ca : Nat) (ps : Nat → Addr) (O : Nat → Addr → Prop) (acc : List JV) (sz : Nat) (w : World) : Prop where
  ci : ∃ V n c, CI B w cp V n c ∧ n + sz ≤ m
  st : Step B cp w0 w
  low : B ≤ w0.heap.size
  own : ∀ w' x, Own cp w0 w' x → B ≤ x.block
  c2 : w.cell? (fld p 2) = some (.slice A acc.length ca)
  f2 : w.frozen? (fld p 2) = false
  o : ∀ j, j < 5 → Own cp w0 w (fld p j)
  c4 : w.cell? (fld p 4) = some (.int .i64 2)
  f4 : w.frozen? (fld p 4) = false
  row : PRow w A acc.length ca
  rown : ∀ b, A = some b → b = ⟨b.block, 0, none⟩ ∧ b.block ≠ p.block ∧ ∀ i, Own cp w0 w ⟨b.block, i, none⟩
  ptr : ∀ b, A = some b → ∀ i, i < acc.length → w.cell? ⟨b.block, i, none⟩ = some (.pointer (some (ps i)))
  kO : ∀ i x, O i x → AOwn cp w0 w p A x
  kD : ∀ i j x, i < j → O i x → O j x → False
  kE : ∀ i x, acc.length ≤ i → ¬ O i x
  kid : ∀ (i : Nat) (v : JV), acc[i]? = some v → Rep w (O i) (ps i) v

theorem ArrI.o2 {B : Nat} {cp : Addr} {m : Nat} {w0 : World} {p : Addr} {A : Option Addr} {ca : Nat} {ps : Nat → Addr} {O : Nat → Addr → Prop} {acc : List JV} {sz : Nat} {w : World} (h : ArrI B cp m w0 p A ca ps O acc sz w) : Own cp w0 w (fld p 2) := h.o 2 (by omega)
theorem ArrI.o4 {B : Nat} {cp : Addr} {m : Nat} {w0 : World} {p : Addr} {A : Option Addr} {ca : Nat} {ps : Nat → Addr} {O : Nat → Addr → Prop} {acc : List JV} {sz : Nat} {w : World} (h : ArrI B cp m w0 p A ca ps O acc sz w) : Own cp w0 w (fld p 4) := h.o 4 (by omega)

theorem PRow.frame {w w' : World} {V : Option Addr} {n c : Nat} (h : PRow w V n c) (hs : ∀ b, V = some b → ∀ i, w'.cell? ⟨b.block, i, none⟩ = w.cell? ⟨b.block, i, none⟩ ∧ w'.frozen? ⟨b.block, i, none⟩ = w.frozen? ⟨b.block, i, none⟩) : PRow w' V n c := by
  refine ⟨h.le, h.room, fun hc => ?_, h.nil⟩
  obtain ⟨vb, e, hg⟩ := h.arr hc
  refine ⟨vb, e, fun i hi => ?_⟩
  obtain ⟨h1, h2⟩ := hs _ e i
  exact ⟨by rw [h1]; exact (hg i hi).1, by rw [h2]; exact (hg i hi).2⟩

theorem spot_eq {x : Addr} (h : x.spot = none) : x = ⟨x.block, x.off, none⟩ := by cases x; simp_all

/-- A child is read: all stands as it did. -/
theorem ArrI.child {B : Nat} {cp : Addr} {m : Nat} {w0 w w2 : World} {p : Addr} {A : Option Addr} {ca : Nat} {ps : Nat → Addr} {O : Nat → Addr → Prop} {acc : List JV} {sz sz' : Nat} {V' : Option Addr} {n' c' : Nat}
    (h : ArrI B cp m w0 p A ca ps O acc sz w) (hI : CI B w2 cp V' n' c') (hn : n' + sz' ≤ m) (hS : Step B cp w w2) : ArrI B cp m w0 p A ca ps O acc sz' w2 := by
  have up : ∀ x, Own cp w0 w x → Own cp w0 w2 x := fun x hx => ⟨(hS.keep x hx.1).1, hx.2⟩
  have ce : ∀ x, Own cp w0 w x → w2.cell? x = w.cell? x := fun x hx => (hS.keep x hx.1).2.1
  have fe : ∀ x, Own cp w0 w x → w2.frozen? x = w.frozen? x := fun x hx => (hS.keep x hx.1).2.2
  exact ⟨⟨V', n', c', hI, hn⟩, h.st.trans hS, h.low, h.own, (ce _ h.o2).trans h.c2, (fe _ h.o2).trans h.f2, fun j hj => up _ (h.o j hj), (ce _ h.o4).trans h.c4, (fe _ h.o4).trans h.f4,
    h.row.frame (fun b hb i => ⟨ce _ ((h.rown b hb).2.2 i), fe _ ((h.rown b hb).2.2 i)⟩), fun b hb => ⟨(h.rown b hb).1, (h.rown b hb).2.1, fun i => up _ ((h.rown b hb).2.2 i)⟩,
    fun b hb i hi => (ce _ ((h.rown b hb).2.2 i)).trans (h.ptr b hb i hi), fun i x hx => ⟨up x (h.kO i x hx).1, (h.kO i x hx).2⟩, h.kD, h.kE, fun i v hv => (h.kid i v hv).mono (fun x hx => ⟨hx, ce x (h.kO i x hx).1, fe x (h.kO i x hx).1⟩)⟩

/-- The child's cells are none of the array's own, none of the elder ones'. -/
theorem ArrI.kidRep {B : Nat} {cp : Addr} {m : Nat} {w0 w w2 : World} {p q : Addr} {A : Option Addr} {ca : Nat} {ps : Nat → Addr} {O : Nat → Addr → Prop} {acc : List JV} {sz : Nat} {t : JV}
    (h : ArrI B cp m w0 p A ca ps O acc sz w) (hR : Rep w2 (Own cp w w2) q t) : Rep w2 (QOwn cp w0 w2 p A O) q t := by
  refine hR.mono (fun x hx => ⟨⟨⟨⟨hx.1, fun h0 => hx.2 (h.st.keep x h0).1⟩, fun j hj e => hx.2 (e ▸ (h.o j hj).1), fun b hb e => hx.2 ?_⟩, fun i hi => hx.2 (h.kO i x hi).1.1⟩, rfl, rfl⟩)
  have := (h.rown b hb).2.2 x.off
  rw [← e, ← spot_eq hx.1.2.2.1] at this
  exact this.1

theorem ArrI.less {B : Nat} {cp : Addr} {m : Nat} {w0 w : World} {p : Addr} {A : Option Addr} {ca : Nat} {ps : Nat → Addr} {O : Nat → Addr → Prop} {acc : List JV} {sz sz' : Nat} (h : ArrI B cp m w0 p A ca ps O acc sz w) (hl : sz' ≤ sz) : ArrI B cp m w0 p A ca ps O acc sz' w := by
  obtain ⟨V, n, c, hI, hn⟩ := h.ci
  exact { h with ci := ⟨V, n, c, hI, by omega⟩ }

/-- Nothing of what was has turned. -/
theorem ArrI.frame {B : Nat} {cp : Addr} {m : Nat} {w0 w w2 : World} {p : Addr} {A : Option Addr} {ca : Nat} {ps : Nat → Addr} {O : Nat → Addr → Prop} {acc : List JV} {sz : Nat} (h : ArrI B cp m w0 p A ca ps O acc sz w) (f : Frame (fun _ => False) w w2) : ArrI B cp m w0 p A ca ps O acc sz w2 := by
  obtain ⟨V, n, c, hI, hn⟩ := h.ci
  exact h.child (hI.frame f (fun _ hx => hx.elim)) hn ((Step.refl B cp w).frame f hI.low (fun hx => hx.elim) hI.row.block (fun _ hx => hx.elim) (fun _ hx => hx.elim))

theorem ArrI.kidFrame {B : Nat} {cp : Addr} {m : Nat} {w0 w w2 : World} {p q : Addr} {A : Option Addr} {ca : Nat} {ps : Nat → Addr} {O : Nat → Addr → Prop} {acc : List JV} {sz : Nat} {t : JV}
    (h : ArrI B cp m w0 p A ca ps O acc sz w) (hR : Rep w (QOwn cp w0 w p A O) q t) (f : Frame (fun _ => False) w w2) : Rep w2 (QOwn cp w0 w2 p A O) q t := by
  obtain ⟨V, n, c, hI, hn⟩ := h.ci
  exact hR.mono (fun x hx => ⟨⟨⟨⟨hx.1.1.1.frame f (fun hx => hx.elim) hI.row.block, hx.1.1.2⟩, hx.1.2⟩, hx.2⟩, f.cell x (fun hx => hx.elim) hx.1.1.1.1, f.frozen x hx.1.1.1.1⟩)

/-- The append leaves the field. -/
theorem ArrI.field {B : Nat} {cp : Addr} {m : Nat} {w0 w w4 : World} {p : Addr} {q : Option Addr} {A A' : Option Addr} {ca ca' : Nat} {ps : Nat → Addr} {O : Nat → Addr → Prop} {acc : List JV} {sz : Nat}
    (h : ArrI B cp m w0 p A ca ps O acc sz w) (ha : AR w A acc.length q w4 A' ca') : w4.cell? (fld p 2) = some (.slice A acc.length ca) ∧ w4.frozen? (fld p 2) = false := by
  refine ⟨(ha.frame.cell _ ?_ h.o2.1.1).trans h.c2, (ha.frame.frozen _ h.o2.1.1).trans h.f2⟩
  rintro ⟨vb, e1, e2⟩
  exact (h.rown _ e1).2.1 (by have := congrArg Addr.block e2; simpa [fld] using this.symm)

/-- The pointer to the child is laid behind the others. -/
theorem ArrI.push {B : Nat} {cp : Addr} {m : Nat} {w0 w w4 : World} {p q : Addr} {A A' : Option Addr} {ca ca' : Nat} {ps : Nat → Addr} {O : Nat → Addr → Prop} {acc : List JV} {sz : Nat} {t : JV}
    (h : ArrI B cp m w0 p A ca ps O acc sz w) (hR : Rep w (QOwn cp w0 w p A O) q t) (ha : AR w A acc.length (some q) w4 A' ca') :
    ArrI B cp m w0 p A' ca' (fun i => if i = acc.length then q else ps i) (fun i => if i = acc.length then QOwn cp w0 w p A O else O i) (acc ++ [t]) sz (w4.setCell (fld p 2) (.slice A' (acc.length + 1) ca')) := by
  obtain ⟨V, n, c, hI, hn⟩ := h.ci
  obtain ⟨w5, hw5⟩ : ∃ w5, w5 = w4.setCell (fld p 2) (.slice A' (acc.length + 1) ca') := ⟨_, rfl⟩
  rw [← hw5]
  have hX : ∀ x, ((∃ vb, A = some ⟨vb, 0, none⟩ ∧ x = ⟨vb, acc.length, none⟩) ∨ x = fld p 2) → Own cp w0 w x := by
    rintro x (⟨vb, e, rfl⟩ | rfl)
    · exact (h.rown _ e).2.2 _
    · exact h.o2
  have F : Frame (fun x => (∃ vb, A = some ⟨vb, 0, none⟩ ∧ x = ⟨vb, acc.length, none⟩) ∨ x = fld p 2) w w5 := by
    rw [hw5]; exact (ha.frame.mono (fun x hx => .inl hx)).setCell (.inr rfl) _
  have F5 : Frame (fun x => x = fld p 2) w4 w5 := by rw [hw5]; exact (Frame.refl (fun x => x = fld p 2) w4).setCell (x := fld p 2) rfl _
  have hcb := hI.row.block
  have hcp : ¬ ((∃ vb, A = some ⟨vb, 0, none⟩ ∧ cp = ⟨vb, acc.length, none⟩) ∨ cp = fld p 2) := fun hx => (hX cp hx).1.2.1 rfl
  have hI5 : CI B w5 cp V n c := hI.frame F (fun x hx => (hX x hx).1)
  have hS5 : Step B cp w0 w5 := h.st.frame F hI.low hcp hcb (fun x hx => h.own w x (hX x hx)) (fun x hx => (hX x hx).2)
  have up : ∀ x, Own cp w0 w x → Own cp w0 w5 x := fun x hx => ⟨hx.1.frame F hcp hcb, hx.2⟩
  have hpb : p.block < w.heap.size := h.o2.1.1
  obtain ⟨b', hb', hbs'⟩ := ha.full
  have hbp : b' ≠ p.block := by
    rcases ha.place with e | e
    · rw [e] at hb'
      exact (h.rown _ hb').2.1
    · have := e _ hb'
      simp only at this
      omega
  have hrown : ∀ i, Own cp w0 w5 ⟨b', i, none⟩ := by
    intro i
    rcases ha.place with e | e
    · rw [e] at hb'
      exact up _ ((h.rown _ hb').2.2 i)
    · have hge := e _ hb'
      simp only at hge
      refine ⟨⟨by have := F5.size; simp only; omega, fun e2 => by rw [← e2] at hcb; simp only at hcb; omega, rfl, ?_⟩, fun h0 => by have h1 := h0.1; have h2 := h.st.below.size; simp only at h1; omega⟩
      rintro ⟨vb, n1, c1, e1, e2, e3⟩
      rw [hI5.row.cell] at e1
      simp only [Option.some.injEq, Value.slice.injEq] at e1
      have hc0 : 0 < c := by
        rcases Nat.eq_zero_or_pos c with h0 | h0
        · have := hI.row.nil h0
          rw [e1.1] at this; cases this
        · exact h0
      obtain ⟨vb2, e4, _, hg2, _⟩ := hI.row.arr hc0
      rw [e1.1] at e4
      obtain rfl := (Addr.mk.inj (Option.some.inj e4)).1
      simp only at e2
      omega
  have hne : ∀ i, (⟨b', i, none⟩ : Addr) ≠ fld p 2 := fun i e => hbp (by have := congrArg Addr.block e; simpa [fld] using this)
  have c5 : ∀ i, w5.cell? ⟨b', i, none⟩ = w4.cell? ⟨b', i, none⟩ := fun i => by rw [hw5]; exact World.cell?_setCell_other _ _ _ _ (fun e => hne i e.symm)
  have hp2 : ¬ (∃ vb, A = some ⟨vb, 0, none⟩ ∧ fld p 2 = ⟨vb, acc.length, none⟩) := by
    rintro ⟨vb, e1, e2⟩
    exact (h.rown _ e1).2.1 (by have := congrArg Addr.block e2; simpa [fld] using this.symm)
  have hlen : (acc ++ [t]).length = acc.length + 1 := by simp
  have hbeq : ∀ b, A' = some b → b.block = b' := fun b hb => by rw [hb'] at hb; obtain rfl := Option.some.inj hb; rfl
  have hout : ∀ x, AOwn cp w0 w p A x → AOwn cp w0 w5 p A' x ∧ w5.cell? x = w.cell? x ∧ w5.frozen? x = w.frozen? x := by
    intro x hx
    have hnx : ¬ ((∃ vb, A = some ⟨vb, 0, none⟩ ∧ x = ⟨vb, acc.length, none⟩) ∨ x = fld p 2) := by
      rintro (⟨vb, e1, e2⟩ | e)
      · exact hx.2.2 _ e1 (by rw [e2])
      · exact hx.2.1 2 (by omega) e
    refine ⟨⟨up x hx.1, hx.2.1, fun b hb e => ?_⟩, F.cell x hnx hx.1.1.1, F.frozen x hx.1.1.1⟩
    rw [hbeq b hb] at e
    rcases ha.place with e2 | e2
    · rw [e2] at hb'
      exact hx.2.2 _ hb' e
    · have := e2 _ hb'
      have h1 := hx.1.1.1
      simp only at this
      omega
  refine ⟨⟨V, n, c, hI5, hn⟩, hS5, h.low, h.own, ?_, ?_, fun j hj => up _ (h.o j hj), ?_, (F.frozen _ h.o4.1.1).trans h.f4, ?_, ?_, ?_, fun i x hx => ?_, fun i j x hij hi hj => ?_, fun i x hi hx => ?_, ?_⟩
  · rw [hlen, hw5]
    exact World.cell?_setCell_same _ _ _ ((ha.frame.cell _ hp2 h.o2.1.1).trans h.c2)
  · exact (F.frozen _ h.o2.1.1).trans h.f2
  · refine (F.cell _ ?_ h.o4.1.1).trans h.c4
    rintro (⟨vb, e1, e2⟩ | e)
    · exact (h.rown _ e1).2.1 (by have := congrArg Addr.block e2; simpa [fld] using this.symm)
    · simp [fld] at e
  · rw [hlen]
    refine ha.row.frame (fun b hb i => ?_)
    rw [hbeq b hb]
    exact ⟨c5 i, by rw [hw5]; exact World.frozen?_setCell _ _ _ _⟩
  · intro b hb
    have e1 := hbeq b hb
    rw [hb'] at hb
    obtain rfl := Option.some.inj hb
    exact ⟨rfl, hbp, hrown⟩
  · intro b hb i hi
    have e1 := hbeq b hb
    rw [e1, c5]
    rw [hlen] at hi
    by_cases ei : i = acc.length
    · rw [if_pos ei, ei, ← e1]
      exact ha.last b hb
    · rw [if_neg ei]
      have hlt : i < acc.length := by omega
      cases hA : A with
      | none =>
        have := h.row.le
        have h0 : 0 < ca := by omega
        obtain ⟨vb, e, _⟩ := h.row.arr h0
        rw [hA] at e; cases e
      | some a =>
        have h3 := ha.old a b hA hb i hlt
        rw [e1] at h3
        exact h3.trans (h.ptr a hA i hlt)
  · by_cases ei : i = acc.length
    · rw [if_pos ei] at hx
      exact (hout x hx.1).1
    · rw [if_neg ei] at hx
      exact (hout x (h.kO i x hx)).1
  · by_cases ei : i = acc.length
    · rw [if_neg (by omega)] at hj
      exact h.kE j x (by omega) hj
    · rw [if_neg ei] at hi
      by_cases ej : j = acc.length
      · rw [if_pos ej] at hj
        exact hj.2 i hi
      · rw [if_neg ej] at hj
        exact h.kD i j x hij hi hj
  · rw [hlen] at hi
    rw [if_neg (by omega)] at hx
    exact h.kE i x (by omega) hx
  · intro i v hv
    rw [List.getElem?_append] at hv
    split at hv
    · rename_i hlt
      rw [if_neg (by omega), if_neg (by omega)]
      exact (h.kid i v hv).mono (fun x hx => ⟨hx, (hout x (h.kO i x hx)).2⟩)
    · rename_i hge
      have : i = acc.length := by
        rcases Nat.lt_or_ge (i - acc.length) 1 with h1 | h1
        · omega
        · rw [List.getElem?_eq_none (by simpa using h1)] at hv; cases hv
      subst this
      simp only [Nat.sub_self, List.getElem?_cons_zero, Option.some.injEq] at hv
      subst hv
      rw [if_pos rfl, if_pos rfl]
      exact hR.mono (fun x hx => ⟨hx, (hout x hx.1).2⟩)

/-- All is read. -/
theorem ArrI.fin {B : Nat} {cp : Addr} {m m' : Nat} {w0 w : World} {p : Addr} {A : Option Addr} {ca : Nat} {ps : Nat → Addr} {O : Nat → Addr → Prop} {acc : List JV} {sz : Nat} {tl : ByteArray} {e : Ending}
    (h : ArrI B cp m w0 p A ca ps O acc sz w) (hp : p.spot = none) (hm : tl.size + m ≤ m' + sz) (he : e = .returned (.tuple #[.pointer (some p), .string tl, .nilIface])) : PS B cp m' w0 (.arr acc) tl e w := by
  obtain ⟨V, n, c, hI, hn⟩ := h.ci
  refine ⟨p, V, n, c, he, hp, hI, by omega, h.st, .arr hp ⟨h.c2, h.f2⟩ ⟨h.c4, h.f4⟩ h.o2 h.o4 ⟨h.row.le, h.row.room, fun h0 => ?_, h.row.nil⟩ h.ptr (fun i a ha => ⟨(h.kO i a ha).1, (h.kO i a ha).2⟩) h.kD h.kid⟩
  obtain ⟨vb, e, hg⟩ := h.row.arr h0
  exact ⟨vb, e, (h.rown _ e).2.1, fun i hi => ⟨(hg i (by omega)).1, (hg i (by omega)).2, (h.rown _ e).2.2 i⟩⟩

theorem zeroV_at {j : Nat} (hj : j < 5) : zeroV[j]? = some (zeroV.getD j .nilIface) := by
  rw [List.getD_eq_getElem?_getD]
  have : j < zeroV.length := hj
  rw [List.getElem?_eq_getElem this]; rfl

/-- A new array. -/
theorem ArrI.start {B : Nat} {cp : Addr} {m n sz : Nat} {w0 w1 : World} {p : Addr} {V : Option Addr} {c : Nat} (hI : CI B w1 cp V (n + 1) c) (hS : Step B cp w0 w1) (hz : ∀ j v, zeroV[j]? = some v → w1.cell? (fld p j) = some v ∧ w1.frozen? (fld p j) = false ∧ Own cp w0 w1 (fld p j))
    (hm : n + 1 + sz ≤ m) (hlow : B ≤ w0.heap.size) (hB : ∀ w' a, Own cp w0 w' a → B ≤ a.block) :
    ArrI B cp m w0 p none 0 (fun _ => p) (fun _ _ => False) [] sz ((w1.setCell (fld p 4) (.int .i64 2)).setCell (fld p 2) (.slice none 0 0)) := by
  obtain ⟨c2, f2, o2⟩ := hz 2 _ rfl
  obtain ⟨c4, f4, o4⟩ := hz 4 _ rfl
  obtain ⟨w2, e2⟩ : ∃ w2, w2 = (w1.setCell (fld p 4) (.int .i64 2)).setCell (fld p 2) (.slice none 0 0) := ⟨_, rfl⟩
  rw [← e2]
  have hne : fld p 4 ≠ fld p 2 := by simp [fld]
  have F : Frame (fun x => x = fld p 4 ∨ x = fld p 2) w1 w2 := by
    rw [e2]; exact ((Frame.refl _ w1).setCell (.inl rfl) _).setCell (.inr rfl) _
  have hst : ∀ x, (x = fld p 4 ∨ x = fld p 2) → Own cp w0 w1 x := by rintro x (rfl | rfl) <;> assumption
  have hcb := hI.row.block
  have hcp : ¬ (cp = fld p 4 ∨ cp = fld p 2) := fun h => (hst _ h).1.2.1 rfl
  refine ⟨⟨V, n + 1, c, hI.frame F (fun x hx => (hst x hx).1), hm⟩, hS.frame F hI.low hcp hcb (fun x hx => hB w1 x (hst x hx)) (fun x hx => (hst x hx).2), hlow, hB, ?_, ?_, (fun j hj => ?_), ?_, (F.frozen _ o4.1.1).trans f4, ⟨Nat.le_refl _, by omega, fun h => absurd h (by omega), fun _ => rfl⟩, (fun b hb => nomatch hb), (fun b hb => nomatch hb), (fun i x hx => hx.elim), (fun i j x _ hx _ => hx.elim), (fun i x _ hx => hx), (fun i v hv => by simp at hv)⟩
  · rw [e2]; exact World.cell?_setCell_same _ _ _ ((World.cell?_setCell_other _ _ _ _ hne).trans c2)
  · exact (F.frozen _ o2.1.1).trans f2
  · obtain ⟨_, _, oj⟩ := hz j _ (zeroV_at hj)
    exact ⟨oj.1.frame F hcp hcb, oj.2⟩
  · rw [e2]; exact (World.cell?_setCell_other _ _ _ _ (fun h => hne h.symm)).trans (World.cell?_setCell_same _ _ _ c4)

end Go.Proofs.YtfoloneeibgoiaaDoor.Fjh

/- What fastjson's parser reads of a text: functions by fuel; the three contracts. -/
set_option linter.unusedVariables false
namespace Go.Proofs.YtfoloneeibgoiaaDoor.Fjh
open Go Go.RowKit Go.Proofs.YtfoloneeibgoiaaDoorW.PrintWords Go.Proofs.YtfoloneeibgoiaaDoor.Lex

abbrev PRes := Option (Option (JV × ByteArray))

/-- The text without its leading blanks. -/
def sk (K : Nat) (s : ByteArray) : Option ByteArray := (fastjson_skipWS.f K s).bind fun r => if r.size ≤ s.size then some r else none
theorem sk_some {K : Nat} {s r : ByteArray} (h : sk K s = some r) : fastjson_skipWS.f K s = some r ∧ r.size ≤ s.size := by
  obtain ⟨x, h1, h2⟩ := Option.bind_eq_some_iff.mp h
  split at h2
  · obtain rfl := Option.some.inj h2; exact ⟨h1, ‹_›⟩
  · cases h2

/-- The elements of an array from s on; acc is read. -/
def pArrL (pv : ByteArray → Nat → PRes) (K d : Nat) : Nat → ByteArray → List JV → PRes
  | 0, _, _ => none
  | k + 1, s, acc => (sk K s).bind fun s1 => (pv s1 d).bind fun r =>
    match r with
    | none => some none
    | some (v, t) => if t.size ≤ s1.size then (sk K t).bind fun t1 =>
      if t1.size = 0 then some none
      else if bt t1 0 = 44 then pArrL pv K d k (t1.extract 1 t1.size) (acc ++ [v])
      else if bt t1 0 = 93 then some (some (.arr (acc ++ [v]), t1.extract 1 t1.size))
      else some none
      else none

/-- An array behind its bracket. -/
def pArr (pv : ByteArray → Nat → PRes) (K : Nat) (s : ByteArray) (d : Nat) : PRes :=
  (sk K s).bind fun s1 => if s1.size = 0 then some none else if bt s1 0 = 93 then some (some (.arr [], s1.extract 1 s1.size)) else pArrL pv K d K s1 []

/-- The members of an object from s on; ks, vs are read. -/
def pObjL (pv : ByteArray → Nat → PRes) (K d : Nat) : Nat → ByteArray → List ByteArray → List JV → PRes
  | 0, _, _, _ => none
  | k + 1, s, ks, vs => (sk K s).bind fun s1 =>
    if s1.size = 0 then some none
    else if bt s1 0 = 34 then (fastjson_parseRawKey.f K (s1.extract 1 s1.size)).bind fun r =>
      match r with
      | (_, _, some _) => some none
      | (key, s2, none) => if s2.size + 1 ≤ s1.size then (sk K s2).bind fun s3 =>
          if s3.size = 0 then some none
          else if bt s3 0 = 58 then (sk K (s3.extract 1 s3.size)).bind fun s4 => (pv s4 d).bind fun r =>
            match r with
            | none => some none
            | some (v, t) => if t.size ≤ s4.size then (sk K t).bind fun t1 =>
              if t1.size = 0 then some none
              else if bt t1 0 = 44 then pObjL pv K d k (t1.extract 1 t1.size) (ks ++ [key]) (vs ++ [v])
              else if bt t1 0 = 125 then some (some (.obj false (ks ++ [key]) (vs ++ [v]), t1.extract 1 t1.size))
              else some none
              else none
          else some none
        else none
    else some none

/-- An object behind its brace. -/
def pObj (pv : ByteArray → Nat → PRes) (K : Nat) (s : ByteArray) (d : Nat) : PRes :=
  (sk K s).bind fun s1 => if s1.size = 0 then some none else if bt s1 0 = 125 then some (some (.obj false [] [], s1.extract 1 s1.size)) else pObjL pv K d K s1 [] []

def litTrue : ByteArray := ⟨#[116, 114, 117, 101]⟩
def litFalse : ByteArray := ⟨#[102, 97, 108, 115, 101]⟩
def litNull : ByteArray := ⟨#[110, 117, 108, 108]⟩
def litNan : ByteArray := ⟨#[110, 97, 110]⟩

/-- Any value. -/
def pVal (pa po : ByteArray → Nat → PRes) (K : Nat) (s : ByteArray) (d : Nat) : PRes :=
  if s.size = 0 then some none
  else if 300 < d + 1 then some none
  else if bt s 0 = 123 then po (s.extract 1 s.size) (d + 1)
  else if bt s 0 = 91 then pa (s.extract 1 s.size) (d + 1)
  else if bt s 0 = 34 then (fastjson_parseRawString.f K (s.extract 1 s.size)).bind fun r =>
    match r with
    | (_, _, some _) => some none
    | (r1, r2, none) => if r2.size + 1 ≤ s.size then some (some (.raw r1, r2)) else none
  else if bt s 0 = 116 then if 4 ≤ s.size ∧ s.extract 0 4 = litTrue then some (some (.lit 5, s.extract 4 s.size)) else some none
  else if bt s 0 = 102 then if 5 ≤ s.size ∧ s.extract 0 5 = litFalse then some (some (.lit 6, s.extract 5 s.size)) else some none
  else if bt s 0 = 110 then
    if 4 ≤ s.size ∧ s.extract 0 4 = litNull then some (some (.lit 0, s.extract 4 s.size))
    else if 3 ≤ s.size then (fastjson_zzFold.f K (s.extract 0 3) litNan).bind fun b => if b then some (some (.num (s.extract 0 3), s.extract 3 s.size)) else some none
    else some none
  else (fastjson_parseRawNumber.f K s).bind fun r =>
    match r with
    | (_, _, some _) => some none
    | (r1, r2, none) => if r2.size + 1 ≤ s.size then some (some (.num r1, r2)) else none

/-- The parser, by fuel. -/
def pV (K : Nat) : Nat → ByteArray → Nat → PRes
  | 0 => fun _ _ => none
  | k + 1 => pVal (pArr (pV K k) K) (pObj (pV K k) K) K

/-- parseValue does as pv says. -/
def PVok (pv : ByteArray → Nat → PRes) : Prop :=
  ∀ (s : ByteArray) (d : Nat) (r : Option (JV × ByteArray)), d ≤ 300 → pv s d = some r → ∀ (B : Nat) (cp : Addr) (V : Option Addr) (n c : Nat) (w : World), CI B w cp V n c → n + s.size ≤ 1000000 →
    Calls Tryd.prog 27 #[.pointer (some cp), .string s, .int .i64 d] w (PV B cp (n + s.size) w r)
def PAok (pa : ByteArray → Nat → PRes) : Prop :=
  ∀ (s : ByteArray) (d : Nat) (r : Option (JV × ByteArray)), d ≤ 300 → pa s d = some r → ∀ (B : Nat) (cp : Addr) (V : Option Addr) (n c : Nat) (w : World), CI B w cp V n c → n + 1 + s.size ≤ 1000000 →
    Calls Tryd.prog 45 #[.pointer (some cp), .string s, .int .i64 d] w (PV B cp (n + 1 + s.size) w r)
def POok (po : ByteArray → Nat → PRes) : Prop :=
  ∀ (s : ByteArray) (d : Nat) (r : Option (JV × ByteArray)), d ≤ 300 → po s d = some r → ∀ (B : Nat) (cp : Addr) (V : Option Addr) (n c : Nat) (w : World), CI B w cp V n c → n + 1 + s.size ≤ 1000000 →
    Calls Tryd.prog 44 #[.pointer (some cp), .string s, .int .i64 d] w (PV B cp (n + 1 + s.size) w r)

theorem pVal_ok {pa po : ByteArray → Nat → PRes} (HA : PAok pa) (HO : POok po) (K : Nat) : PVok (pVal pa po K) := by
  intro s d r hd h B cp V n c w hI hm
  unfold pVal at h
  by_cases c1 : s.size = 0
  · rw [if_pos c1] at h
    obtain rfl := Option.some.inj h
    exact value_empty K cp V n c w s d hd c1 hI hm
  rw [if_neg c1] at h
  have hs : 0 < s.size := by omega
  by_cases c2 : 300 < d + 1
  · rw [if_pos c2] at h
    obtain rfl := Option.some.inj h
    exact value_deep K cp V n c w s d hd hs c2 hI hm
  rw [if_neg c2] at h
  have hd1 : d + 1 ≤ 300 := by omega
  have hex : (s.extract 1 s.size).size = s.size - 1 := by rw [ByteArray.size_extract]; omega
  by_cases c3 : bt s 0 = 123
  · rw [if_pos c3] at h
    have hc := HO _ _ _ hd1 h B cp V n c w hI (by omega)
    rw [show n + 1 + (s.extract 1 s.size).size = n + s.size from by omega] at hc
    cases r with
    | none => exact value_obj_bad K cp V n c w s d hd hs hd1 c3 hc hI hm
    | some x => exact value_obj K cp V n c w s d hd hs hd1 c3 hc hI hm
  rw [if_neg c3] at h
  by_cases c4 : bt s 0 = 91
  · rw [if_pos c4] at h
    have hc := HA _ _ _ hd1 h B cp V n c w hI (by omega)
    rw [show n + 1 + (s.extract 1 s.size).size = n + s.size from by omega] at hc
    cases r with
    | none => exact value_arr_bad K cp V n c w s d hd hs hd1 c4 hc hI hm
    | some x => exact value_arr K cp V n c w s d hd hs hd1 c4 hc hI hm
  rw [if_neg c4] at h
  by_cases c5 : bt s 0 = 34
  · rw [if_pos c5] at h
    obtain ⟨⟨r1, r2, r3⟩, h1, h2⟩ := Option.bind_eq_some_iff.mp h
    cases r3 with
    | some e =>
      obtain rfl := Option.some.inj h2
      exact value_string_bad K cp V n c w s d hd hs hd1 c5 h1 hI hm
    | none =>
      simp only at h2
      by_cases c20 : r2.size + 1 ≤ s.size
      · rw [if_pos c20] at h2
        obtain rfl := Option.some.inj h2
        exact value_string K cp V n c w s d hd hs hd1 c5 h1 c20 hI hm
      · rw [if_neg c20] at h2; cases h2
  rw [if_neg c5] at h
  by_cases c6 : bt s 0 = 116
  · rw [if_pos c6] at h
    by_cases c7 : 4 ≤ s.size ∧ s.extract 0 4 = litTrue
    · rw [if_pos c7] at h
      obtain rfl := Option.some.inj h
      exact value_true K cp V n c w s d hd hd1 c6 c7.1 c7.2 hI hm
    · rw [if_neg c7] at h
      obtain rfl := Option.some.inj h
      rcases Nat.lt_or_ge s.size 4 with hl | hl
      · exact value_true_short K cp V n c w s d hd hs hd1 c6 hl hI hm
      · exact value_true_ne K cp V n c w s d hd hd1 c6 hl (fun e => c7 ⟨hl, e⟩) hI hm
  rw [if_neg c6] at h
  by_cases c7 : bt s 0 = 102
  · rw [if_pos c7] at h
    by_cases c8 : 5 ≤ s.size ∧ s.extract 0 5 = litFalse
    · rw [if_pos c8] at h
      obtain rfl := Option.some.inj h
      exact value_false K cp V n c w s d hd hd1 c7 c8.1 c8.2 hI hm
    · rw [if_neg c8] at h
      obtain rfl := Option.some.inj h
      rcases Nat.lt_or_ge s.size 5 with hl | hl
      · exact value_false_short K cp V n c w s d hd hs hd1 c7 hl hI hm
      · exact value_false_ne K cp V n c w s d hd hd1 c7 hl (fun e => c8 ⟨hl, e⟩) hI hm
  rw [if_neg c7] at h
  by_cases c8 : bt s 0 = 110
  · rw [if_pos c8] at h
    by_cases c9 : 4 ≤ s.size ∧ s.extract 0 4 = litNull
    · rw [if_pos c9] at h
      obtain rfl := Option.some.inj h
      exact value_null K cp V n c w s d hd hd1 c8 c9.1 c9.2 hI hm
    rw [if_neg c9] at h
    by_cases c10 : 3 ≤ s.size
    · rw [if_pos c10] at h
      obtain ⟨b, h1, h2⟩ := Option.bind_eq_some_iff.mp h
      rcases Nat.lt_or_ge s.size 4 with hl | hl
      · cases b with
        | true => obtain rfl := Option.some.inj h2; exact value_nan3 K cp V n c w s d hd hd1 c8 (by omega) h1 hI hm
        | false => obtain rfl := Option.some.inj h2; exact value_nan3_bad K cp V n c w s d hd hd1 c8 (by omega) h1 hI hm
      · cases b with
        | true => obtain rfl := Option.some.inj h2; exact value_nan4 K cp V n c w s d hd hd1 c8 hl (fun e => c9 ⟨hl, e⟩) h1 hI hm
        | false => obtain rfl := Option.some.inj h2; exact value_nan4_bad K cp V n c w s d hd hd1 c8 hl (fun e => c9 ⟨hl, e⟩) h1 hI hm
    · rw [if_neg c10] at h
      obtain rfl := Option.some.inj h
      exact value_nan_short K cp V n c w s d hd hs hd1 c8 (by omega) hI hm
  rw [if_neg c8] at h
  obtain ⟨⟨r1, r2, r3⟩, h1, h2⟩ := Option.bind_eq_some_iff.mp h
  cases r3 with
  | some e =>
    obtain rfl := Option.some.inj h2
    exact value_num_bad K cp V n c w s d hd hs hd1 ⟨c3, c4, c5, c6, c7, c8⟩ h1 hI hm
  | none =>
    simp only at h2
    by_cases c20 : r2.size + 1 ≤ s.size
    · rw [if_pos c20] at h2
      obtain rfl := Option.some.inj h2
      exact value_num K cp V n c w s d hd hs hd1 ⟨c3, c4, c5, c6, c7, c8⟩ h1 c20 hI hm
    · rw [if_neg c20] at h2; cases h2

end Go.Proofs.YtfoloneeibgoiaaDoor.Fjh
